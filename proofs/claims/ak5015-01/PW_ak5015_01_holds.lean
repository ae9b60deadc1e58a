import PyProof.Rows.All
import Wide.All
import OpenK.AllK
import Wide.FinOn
import Flt.RightMore
import Flt.Calls
import PySem.Challenge.RW_ak5015_01
set_option Elab.async false
-- FM
namespace Mine
set_option maxRecDepth 20000
open PySem PySem.Float64
/-- a magnitude that a finite double has -/
def Rep (A : Int) : Prop := ∃ t, t < infMag ∧ V t = A.natAbs
theorem rep_nat (k : Nat) : ∀ (N : Nat), N < 2 ^ 53 → k ≤ 1100 → ∃ t, t ≤ k * 2 ^ 52 + 2 ^ 53 ∧ V t = N * 2 ^ k := by
  induction k with
  | zero => exact fun N h _ => ⟨0 * 2 ^ 52 + N, by omega, V_at (k := 0) (q := N) (by omega) (.inr rfl)⟩
  | succ k ih =>
    intro N h hk
    by_cases h1 : 2 ^ 52 ≤ N
    · have hv := V_at (k := k + 1) (q := N) (by omega) (.inl h1)
      exact ⟨_, Nat.add_le_add_left (Nat.le_of_lt h) _, hv⟩
    · obtain ⟨t, ht, hv⟩ := ih (2 * N) (by omega) (by omega)
      refine ⟨t, Nat.le_trans ht (Nat.add_le_add_right (Nat.mul_le_mul_right _ (Nat.le_succ k)) _), ?_⟩
      rw [hv, Nat.pow_succ]
      generalize 2 ^ k = K
      rw [Nat.mul_comm 2 N, Nat.mul_assoc, Nat.mul_comm 2 K]
theorem rep_of {N : Int} {k : Nat} (h : N.natAbs < 2 ^ 53) (hk : k ≤ 1100) : Rep (N * 2 ^ k) := by
  obtain ⟨t, ht, hv⟩ := rep_nat k N.natAbs h hk
  refine ⟨t, ?_, ?_⟩
  · unfold infMag; omega
  · rw [hv, Int.natAbs_mul, Int.natAbs_pow]; rfl
theorem V_inj {t t' : Nat} (h : V t = V t') : t = t' := by
  rcases Nat.lt_trichotomy t t' with q | q | q
  · have := V_lt q; omega
  · exact q
  · have := V_lt q; omega
theorem V_top : V (infMag - 1) = (2 ^ 53 - 1) * 2 ^ 2045 := by
  have e : infMag - 1 = 2045 * 2 ^ 52 + (2 ^ 53 - 1) := by unfold infMag; omega
  rw [e]; exact V_at (by omega) (.inl (by omega))
theorem not_over {W D t : Nat} (hD : 0 < D) (ht : t < infMag) (h : W ≤ D * V t) : ¬ D * ((2 ^ 54 - 1) * 2 ^ 2045) ≤ 2 * W := by
  have h1 : V t ≤ (2 ^ 53 - 1) * 2 ^ 2045 := by rw [← V_top]; exact V_mono (by omega)
  have h2 : D * V t ≤ D * ((2 ^ 53 - 1) * 2 ^ 2045) := Nat.mul_le_mul_left D h1
  intro h3
  have h4 : D * ((2 ^ 54 - 1) * 2 ^ 2045) ≤ 2 * (D * ((2 ^ 53 - 1) * 2 ^ 2045)) := by omega
  have hp := Nat.two_pow_pos 2045
  generalize 2 ^ 2045 = K at h4 hp
  have h5 : 2 * (D * ((2 ^ 53 - 1) * K)) = D * ((2 ^ 54 - 2) * K) := by
    rw [Nat.mul_left_comm 2 D]
    congr 1
    rw [← Nat.mul_assoc]
  rw [h5] at h4
  have h6 : (2 ^ 54 - 1) * K ≤ (2 ^ 54 - 2) * K := Nat.le_of_mul_le_mul_left h4 hD
  have h7 := Nat.le_of_mul_le_mul_right h6 hp
  omega
theorem right_up {r : UInt64} {neg : Bool} {W D t' : Nat} (R : Right r neg W D) (hD : 0 < D) (ht : t' < infMag) (h : W ≤ D * V t') :
    ∃ t, r = pack neg t ∧ t < infMag ∧ V t ≤ V t' ∧ ∀ t₁, t₁ < infMag → D * V t₁ ≤ W → V t₁ ≤ V t := by
  obtain ⟨t, hr, hle, hov, hn⟩ := R
  have hlt : t < infMag := by
    rcases Nat.lt_or_ge t infMag with q | q
    · exact q
    · exact absurd (hov.mp (by omega)) (not_over hD ht h)
  refine ⟨t, hr, hlt, ?_, fun t₁ _ h₁ => ?_⟩
  · have := (hn hlt t').1
    rcases Nat.lt_or_ge (V t') (V t) with q | q
    · have hm : D * V t' < D * V t := Nat.mul_lt_mul_of_pos_left q hD
      unfold dist at this
      omega
    · exact q
  · have := (hn hlt t₁).1
    rcases Nat.lt_or_ge (V t) (V t₁) with q | q
    · have hm : D * V t < D * V t₁ := Nat.mul_lt_mul_of_pos_left q hD
      unfold dist at this
      omega
    · exact q
/-- rounding stands between representable bounds -/
theorem round_between {r : UInt64} {neg : Bool} {W D : Nat} (R : Right r neg W D) (hD : 0 < D) {A B : Int} (hA : Rep A) (hB : Rep B)
    (h1 : (D : Int) * A ≤ sgn neg W) (h2 : sgn neg W ≤ (D : Int) * B) : (∃ m e, decode r = .fin neg m e) ∧ A ≤ val r ∧ val r ≤ B := by
  obtain ⟨tA, hA1, hA2⟩ := hA
  obtain ⟨tB, hB1, hB2⟩ := hB
  have hDi : (0 : Int) < (D : Int) := Int.ofNat_lt.mpr hD
  cases neg with
  | false =>
    have s0 : sgn false W = (W : Int) := rfl
    rw [s0] at h1 h2
    have hB0 : 0 ≤ B := by
      rcases Int.lt_or_le B 0 with q | q
      · have := Int.mul_neg_of_pos_of_neg hDi q; omega
      · exact q
    have eB : ((V tB : Nat) : Int) = B := by rw [hB2]; omega
    obtain ⟨t, hr, hlt, hup, hdn⟩ := right_up R hD hB1 (by rw [← eB] at h2; exact_mod_cast h2)
    obtain ⟨m, e, hd, hv⟩ := decode_pack false hlt
    rw [hr]
    refine ⟨⟨m, e, hd⟩, ?_, ?_⟩
    · rw [val_pack _ hlt]
      show A ≤ (V t : Int)
      rcases Int.lt_or_le A 0 with q | q
      · omega
      · have eA : ((V tA : Nat) : Int) = A := by rw [hA2]; omega
        have := hdn tA hA1 (by rw [← eA] at h1; exact_mod_cast h1)
        omega
    · rw [val_pack _ hlt]
      show (V t : Int) ≤ B
      omega
  | true =>
    have s0 : sgn true W = -(W : Int) := rfl
    rw [s0] at h1 h2
    have hA0 : A ≤ 0 := by
      rcases Int.lt_or_le 0 A with q | q
      · have := Int.mul_pos hDi q; omega
      · exact q
    have eA : ((V tA : Nat) : Int) = -A := by rw [hA2]; omega
    obtain ⟨t, hr, hlt, hup, hdn⟩ := right_up R hD hA1 (by
      have : (W : Int) ≤ (D : Int) * (V tA : Int) := by rw [eA, Int.mul_neg]; omega
      exact_mod_cast this)
    obtain ⟨m, e, hd, hv⟩ := decode_pack true hlt
    rw [hr]
    refine ⟨⟨m, e, hd⟩, ?_, ?_⟩
    · rw [val_pack _ hlt]
      show A ≤ -(V t : Int)
      omega
    · rw [val_pack _ hlt]
      show -(V t : Int) ≤ B
      rcases Int.lt_or_le B 0 with q | q
      · have eB : ((V tB : Nat) : Int) = -B := by rw [hB2]; omega
        have := hdn tB hB1 (by
          have : (D : Int) * (V tB : Int) ≤ (W : Int) := by rw [eB, Int.mul_neg]; omega
          exact_mod_cast this)
        omega
      · omega
theorem right_exact {r : UInt64} {neg : Bool} {W D t : Nat} (R : Right r neg W D) (hD : 0 < D) (ht : t < infMag) (h : W = D * V t) : r = pack neg t := by
  obtain ⟨t₁, hr, hlt, hup, hdn⟩ := right_up R hD ht (by omega)
  have := hdn t ht (by omega)
  rw [hr, V_inj (Nat.le_antisymm hup this)]
/-- the double n / 2 -/
def HF (n : Int) : UInt64 := ofFrac (decide (n < 0)) n.natAbs 2
theorem p74 : (2 : Nat) ^ 1074 = 2 ^ 1073 * 2 := Nat.pow_succ (n := 2) (m := 1073)
theorem mulK (a b K : Nat) : a * K * (2 * b * K) = K * 2 * (a * b * K) := by ac_rfl
theorem mulK' (a b K : Nat) : 2 * b * K * (a * K) = K * 2 * (b * a * K) := by ac_rfl
theorem hf_right (n : Int) : Right (HF n) (decide (n < 0)) (n.natAbs * 2 ^ 1073) 1 :=
  ofFrac_right (by decide) (by rw [Nat.mul_one, Nat.mul_assoc, p74]) (by decide)
theorem hf_rep {n : Int} (h : n.natAbs < 2 ^ 53) : ∃ t, t < infMag ∧ V t = n.natAbs * 2 ^ 1073 := by
  obtain ⟨t, ht, hv⟩ := rep_nat 1073 n.natAbs h (by decide)
  exact ⟨t, by unfold infMag; omega, hv⟩
theorem hf_eq {r : UInt64} {n : Int} {W D : Nat} (h : n.natAbs < 2 ^ 53) (R : Right r (decide (n < 0)) W D) (hD : 0 < D) (hW : W = D * (n.natAbs * 2 ^ 1073)) : r = HF n := by
  obtain ⟨t, ht, hv⟩ := hf_rep h
  rw [right_exact R hD ht (by rw [hv]; exact hW), right_exact (hf_right n) (by decide) ht (by rw [hv]; omega)]
theorem hf_dec {n : Int} (h : n.natAbs < 2 ^ 53) : ∃ m e, decode (HF n) = .fin (decide (n < 0)) m e ∧ val (HF n) = n * 2 ^ 1073 := by
  obtain ⟨t, ht, hv⟩ := hf_rep h
  have e := right_exact (hf_right n) (by decide) ht (by rw [hv]; omega)
  obtain ⟨m, x, hd, _⟩ := decode_pack (decide (n < 0)) ht
  rw [← e] at hd
  refine ⟨m, x, hd, ?_⟩
  rw [e, val_pack _ ht, hv]
  have e2 : ((n.natAbs * 2 ^ 1073 : Nat) : Int) = (n.natAbs : Int) * 2 ^ 1073 := by rw [Int.natCast_mul, Int.natCast_pow]; rfl
  have e3 : n = (if n < 0 then -(n.natAbs : Int) else (n.natAbs : Int)) := by split <;> omega
  unfold sgn
  by_cases q : n < 0
  · simp only [q, decide_true, if_true, e2]
    rw [← Int.neg_mul]
    congr 1
    omega
  · simp only [q, decide_false, Bool.false_eq_true, if_false, e2]
    congr 1
    omega
theorem hf_int {i : Int} (h : i.natAbs < 2 ^ 52) : ofInt i = HF (2 * i) := by
  refine hf_eq (n := 2 * i) (W := i.natAbs * 2 ^ 1074) (D := 1) (by omega) ?_ (by decide) ?_
  · have := ofInt_right i
    have e : decide (i < 0) = decide (2 * i < 0) := decide_eq_decide.mpr (by omega)
    rwa [e] at this
  · rw [Nat.one_mul, p74]
    have e : (2 * i).natAbs = 2 * i.natAbs := by omega
    rw [e]
    generalize (2 : Nat) ^ 1073 = K
    rw [Nat.mul_comm K 2, ← Nat.mul_assoc, Nat.mul_comm i.natAbs 2]
theorem zero_hf : zero false = HF 0 := by decide +kernel
theorem natAbs_pow_mul (n : Int) (k : Nat) : (n * 2 ^ k).natAbs = n.natAbs * 2 ^ k := by rw [Int.natAbs_mul, Int.natAbs_pow]; rfl
theorem pow_pos' (k : Nat) : (0 : Int) < 2 ^ k := Int.pow_pos (by decide)
theorem hf_add {a b : Int} (ha : a.natAbs < 2 ^ 53) (hb : b.natAbs < 2 ^ 53) (hc : (a + b).natAbs < 2 ^ 53) : add (HF a) (HF b) = HF (a + b) := by
  obtain ⟨m, e, hd, hv⟩ := hf_dec ha
  obtain ⟨k, f, hd2, hv2⟩ := hf_dec hb
  have R := add_right hd hd2
  have es : val (HF a) + val (HF b) = (a + b) * 2 ^ 1073 := by rw [hv, hv2, Int.add_mul]
  rw [es] at R
  by_cases h0 : a + b = 0
  · rw [R.1 (by rw [h0, Int.zero_mul]), h0]
    have : (decide (a < 0) && decide (b < 0)) = false := by
      by_cases q : a < 0
      · have q2 : ¬ b < 0 := by omega
        simp [q2]
      · simp [q]
    rw [this, zero_hf]
  · have hne : (a + b) * 2 ^ 1073 ≠ 0 := Int.mul_ne_zero h0 (Int.ne_of_gt (pow_pos' _))
    have R2 := R.2 hne
    have es2 : decide ((a + b) * 2 ^ 1073 < 0) = decide (a + b < 0) := decide_eq_decide.mpr ⟨fun h => by
      rcases Int.lt_or_le (a + b) 0 with q | q
      · exact q
      · have := Int.mul_nonneg q (Int.le_of_lt (pow_pos' 1073)); omega, fun h => Int.mul_neg_of_neg_of_pos h (pow_pos' _)⟩
    rw [es2, natAbs_pow_mul] at R2
    exact hf_eq hc R2 (by decide) (by rw [Nat.one_mul])
theorem hf_sub {a b : Int} (ha : a.natAbs < 2 ^ 53) (hb : b.natAbs < 2 ^ 53) (hc : (a - b).natAbs < 2 ^ 53) : sub (HF a) (HF b) = HF (a - b) := by
  obtain ⟨m, e, hd, hv⟩ := hf_dec ha
  obtain ⟨k, f, hd2, hv2⟩ := hf_dec hb
  have R := sub_right hd hd2
  have es : val (HF a) - val (HF b) = (a - b) * 2 ^ 1073 := by rw [hv, hv2, Int.sub_mul]
  rw [es] at R
  by_cases h0 : a - b = 0
  · rw [R.1 (by rw [h0, Int.zero_mul]), h0]
    have : (decide (a < 0) && !decide (b < 0)) = false := by
      by_cases q : a < 0
      · have q2 : b < 0 := by omega
        simp [q2]
      · simp [q]
    rw [this, zero_hf]
  · have hne : (a - b) * 2 ^ 1073 ≠ 0 := Int.mul_ne_zero h0 (Int.ne_of_gt (pow_pos' _))
    have R2 := R.2 hne
    have es2 : decide ((a - b) * 2 ^ 1073 < 0) = decide (a - b < 0) := decide_eq_decide.mpr ⟨fun h => by
      rcases Int.lt_or_le (a - b) 0 with q | q
      · exact q
      · have := Int.mul_nonneg q (Int.le_of_lt (pow_pos' 1073)); omega, fun h => Int.mul_neg_of_neg_of_pos h (pow_pos' _)⟩
    rw [es2, natAbs_pow_mul] at R2
    exact hf_eq hc R2 (by decide) (by rw [Nat.one_mul])
/-- a product with a positive whole factor c -/
theorem hf_mul_int {a c : Int} (hc0 : 0 < c) (ha : a.natAbs < 2 ^ 53) (hc : c.natAbs < 2 ^ 52) (hp : (a * c).natAbs < 2 ^ 53) : mul (HF a) (HF (2 * c)) = HF (a * c) := by
  obtain ⟨m, e, hd, hv⟩ := hf_dec ha
  obtain ⟨k, f, hd2, hv2⟩ := hf_dec (n := 2 * c) (by omega)
  have R := mul_right hd hd2
  have e1 : (decide (a < 0) != decide (2 * c < 0)) = decide (a * c < 0) := by
    have q2 : ¬ 2 * c < 0 := by omega
    simp only [q2, decide_false, Bool.bne_false]
    exact decide_eq_decide.mpr ⟨fun h => Int.mul_neg_of_neg_of_pos h hc0, fun h => by
      rcases Int.lt_or_le a 0 with q | q
      · exact q
      · have := Int.mul_nonneg q (Int.le_of_lt hc0); omega⟩
  rw [e1, hv, hv2, natAbs_pow_mul, natAbs_pow_mul] at R
  refine hf_eq hp R (Nat.two_pow_pos _) ?_
  rw [Int.natAbs_mul a c, p74, show (2 * c).natAbs = 2 * c.natAbs by omega]
  exact mulK _ _ _
theorem hf_int_mul {a c : Int} (hc0 : 0 < c) (ha : a.natAbs < 2 ^ 53) (hc : c.natAbs < 2 ^ 52) (hp : (c * a).natAbs < 2 ^ 53) : mul (HF (2 * c)) (HF a) = HF (c * a) := by
  obtain ⟨m, e, hd, hv⟩ := hf_dec ha
  obtain ⟨k, f, hd2, hv2⟩ := hf_dec (n := 2 * c) (by omega)
  have R := mul_right hd2 hd
  have e1 : (decide (2 * c < 0) != decide (a < 0)) = decide (c * a < 0) := by
    have q2 : ¬ 2 * c < 0 := by omega
    simp only [q2, decide_false, Bool.false_bne]
    exact decide_eq_decide.mpr ⟨fun h => Int.mul_neg_of_pos_of_neg hc0 h, fun h => by
      rcases Int.lt_or_le a 0 with q | q
      · exact q
      · have := Int.mul_nonneg (Int.le_of_lt hc0) q; omega⟩
  rw [e1, hv, hv2, natAbs_pow_mul, natAbs_pow_mul] at R
  refine hf_eq hp R (Nat.two_pow_pos _) ?_
  rw [Int.natAbs_mul c a, p74, show (2 * c).natAbs = 2 * c.natAbs by omega]
  exact mulK' _ _ _
/-- a positive half integer times a whole number -/
theorem hf_half_mul {a c : Int} (ha0 : 0 < a) (ha : a.natAbs < 2 ^ 53) (hc : c.natAbs < 2 ^ 52) (hp : (a * c).natAbs < 2 ^ 53) : mul (HF a) (HF (2 * c)) = HF (a * c) := by
  obtain ⟨m, e, hd, hv⟩ := hf_dec ha
  obtain ⟨k, f, hd2, hv2⟩ := hf_dec (n := 2 * c) (by omega)
  have R := mul_right hd hd2
  have e1 : (decide (a < 0) != decide (2 * c < 0)) = decide (a * c < 0) := by
    have q2 : ¬ a < 0 := by omega
    simp only [q2, decide_false, Bool.false_bne]
    exact decide_eq_decide.mpr ⟨fun h => Int.mul_neg_of_pos_of_neg ha0 (by omega), fun h => by
      rcases Int.lt_or_le c 0 with q | q
      · omega
      · have := Int.mul_nonneg (Int.le_of_lt ha0) q; omega⟩
  rw [e1, hv, hv2, natAbs_pow_mul, natAbs_pow_mul] at R
  refine hf_eq hp R (Nat.two_pow_pos _) ?_
  rw [Int.natAbs_mul a c, p74, show (2 * c).natAbs = 2 * c.natAbs by omega]
  exact mulK _ _ _
end Mine
-- FM2
namespace Mine
set_option maxRecDepth 20000
open PySem PySem.Float64 PySem.Flt
theorem pw (a b : Nat) : (2 : Int) ^ (a + b) = 2 ^ a * 2 ^ b := Int.pow_add 2 a b
theorem floor_val {x : UInt64} {a : Bool} {m : Nat} {e : Int} (hd : decode x = .fin a m e) : floorOf a m e = val x / 2 ^ 1074 := by
  have he := decode_ge hd
  have hv : val x = sgn a m * 2 ^ (e + 1074).toNat := by rw [val_eq hd, sgn_mul, Int.natCast_pow]; rfl
  unfold floorOf
  by_cases h : e ≥ 0
  · rw [if_pos h, hv, show (e + 1074).toNat = e.toNat + 1074 by omega, pw, ← Int.mul_assoc, Int.mul_ediv_cancel _ (Int.ne_of_gt (pow_pos' _))]
  · rw [if_neg h, hv]
    have e1 : (1074 : Nat) = (-e).toNat + (e + 1074).toNat := by omega
    have e2 : (2 : Int) ^ 1074 = 2 ^ (-e).toNat * 2 ^ (e + 1074).toNat := by rw [← pw, ← e1]
    rw [e2, Int.mul_ediv_mul_of_pos_left _ _ (pow_pos' _), Int.fdiv_eq_ediv_of_nonneg _ (Int.le_of_lt (pow_pos' _))]
theorem ceil_val {x : UInt64} {a : Bool} {m : Nat} {e : Int} (hd : decode x = .fin a m e) : ceilOf a m e = -((-val x) / 2 ^ 1074) := by
  have hd2 := neg_decode hd
  unfold ceilOf
  rw [floor_val hd2, neg_val hd]
theorem trunc_val {x : UInt64} {a : Bool} {m : Nat} {e : Int} {k : Int} (hd : decode x = .fin a m e) (hv : val x = k * 2 ^ 1074) : truncOf a m e = k := by
  unfold truncOf
  cases a
  · rw [if_neg (by decide), floor_val hd, hv, Int.mul_ediv_cancel _ (Int.ne_of_gt (pow_pos' _))]
  · rw [if_pos rfl, ceil_val hd, hv, ← Int.neg_mul, Int.mul_ediv_cancel _ (Int.ne_of_gt (pow_pos' _)), Int.neg_neg]
theorem fin_of {x : UInt64} {a : Bool} {m : Nat} {e : Int} (hd : decode x = .fin a m e) : isFinite x = true := by unfold isFinite; rw [hd]
theorem toInt_of {f : Bool → Nat → Int → Int} {x : UInt64} {a : Bool} {m : Nat} {e : Int} (hd : decode x = .fin a m e) : toInt f x = f a m e := by unfold toInt; rw [hd]
/-- x is finite and its floor is k -/
def FloorIs (x : UInt64) (k : Int) : Prop := isFinite x = true ∧ toInt floorOf x = k
def CeilIs (x : UInt64) (k : Int) : Prop := isFinite x = true ∧ toInt ceilOf x = k
def TruncIs (x : UInt64) (k : Int) : Prop := isFinite x = true ∧ toInt truncOf x = k
theorem p1073 : (2 : Int) ^ 1074 = 2 ^ 1073 * 2 := pw 1073 1
theorem floor_hf {n : Int} (h : n.natAbs < 2 ^ 53) : FloorIs (HF n) (n / 2) := by
  obtain ⟨m, e, hd, hv⟩ := hf_dec h
  refine ⟨fin_of hd, ?_⟩
  rw [toInt_of hd, floor_val hd, hv, p1073, Int.mul_comm n, Int.mul_ediv_mul_of_pos _ _ (pow_pos' _)]
theorem ceil_hf {n : Int} (h : n.natAbs < 2 ^ 53) : CeilIs (HF n) (-((-n) / 2)) := by
  obtain ⟨m, e, hd, hv⟩ := hf_dec h
  refine ⟨fin_of hd, ?_⟩
  rw [toInt_of hd, ceil_val hd, hv, p1073, ← Int.neg_mul, Int.mul_comm (-n), Int.mul_ediv_mul_of_pos _ _ (pow_pos' _)]
theorem trunc_hf {n k : Int} (h : n.natAbs < 2 ^ 53) (hk : n = 2 * k) : TruncIs (HF n) k := by
  obtain ⟨m, e, hd, hv⟩ := hf_dec h
  refine ⟨fin_of hd, ?_⟩
  rw [toInt_of hd, trunc_val hd (k := k)]
  rw [hv, hk, p1073, Int.mul_comm 2 k, Int.mul_assoc, Int.mul_comm 2]
theorem floor_between {x : UInt64} {a : Bool} {m : Nat} {e : Int} {k : Int} (hd : decode x = .fin a m e) (h1 : k * 2 ^ 1074 ≤ val x) (h2 : val x < (k + 1) * 2 ^ 1074) : FloorIs x k := by
  refine ⟨fin_of hd, ?_⟩
  rw [toInt_of hd, floor_val hd]
  have hp := pow_pos' 1074
  generalize (2 : Int) ^ 1074 = K at *
  exact Int.le_antisymm (Int.le_of_lt_add_one (Int.ediv_lt_of_lt_mul hp h2)) ((Int.le_ediv_iff_mul_le hp).mpr h1)
theorem ceil_between {x : UInt64} {a : Bool} {m : Nat} {e : Int} {k : Int} (hd : decode x = .fin a m e) (h1 : (k - 1) * 2 ^ 1074 < val x) (h2 : val x ≤ k * 2 ^ 1074) : CeilIs x k := by
  refine ⟨fin_of hd, ?_⟩
  rw [toInt_of hd, ceil_val hd]
  have hp := pow_pos' 1074
  generalize (2 : Int) ^ 1074 = K at *
  have h3 : (-val x) / K < -k + 1 := Int.ediv_lt_of_lt_mul hp (by rw [Int.add_mul, Int.neg_mul]; rw [Int.sub_mul] at h1; omega)
  have h4 : -k ≤ (-val x) / K := (Int.le_ediv_iff_mul_le hp).mpr (by rw [Int.neg_mul]; omega)
  omega
theorem p20 : (2 : Int) ^ 1074 = 2 ^ 20 * 2 ^ 1054 := by rw [← pw]
theorem rep20 {k : Int} (hk : k.natAbs ≤ 2 ^ 32) : Rep (k * 2 ^ 1074) := rep_of (by omega) (by decide)
theorem right_floor {r : UInt64} {neg : Bool} {W D : Nat} (R : Right r neg W D) (hD : 0 < D) {k : Int} (hk : k.natAbs < 2 ^ 32)
    (h1 : (D : Int) * (k * 2 ^ 1074) ≤ sgn neg W) (h2 : sgn neg W ≤ (D : Int) * (((k + 1) * 2 ^ 20 - 1) * 2 ^ 1054)) : FloorIs r k := by
  obtain ⟨⟨m, e, hd⟩, ha, hb⟩ := round_between R hD (rep20 (by omega)) (rep_of (N := (k + 1) * 2 ^ 20 - 1) (k := 1054) (by omega) (by decide)) h1 h2
  refine floor_between hd ha (Int.lt_of_le_of_lt hb ?_)
  rw [p20, ← Int.mul_assoc]
  exact Int.mul_lt_mul_of_pos_right (by omega) (pow_pos' _)
theorem right_ceil {r : UInt64} {neg : Bool} {W D : Nat} (R : Right r neg W D) (hD : 0 < D) {k : Int} (hk : k.natAbs < 2 ^ 32)
    (h1 : (D : Int) * (((k - 1) * 2 ^ 20 + 1) * 2 ^ 1054) ≤ sgn neg W) (h2 : sgn neg W ≤ (D : Int) * (k * 2 ^ 1074)) : CeilIs r k := by
  obtain ⟨⟨m, e, hd⟩, ha, hb⟩ := round_between R hD (rep_of (N := (k - 1) * 2 ^ 20 + 1) (k := 1054) (by omega) (by decide)) (rep20 (by omega)) h1 h2
  refine ceil_between hd (Int.lt_of_lt_of_le ?_ ha) hb
  rw [p20, ← Int.mul_assoc]
  exact Int.mul_lt_mul_of_pos_right (by omega) (pow_pos' _)
theorem sgn_val {x : UInt64} {a : Bool} {m : Nat} {e : Int} (hd : decode x = .fin a m e) : sgn a (val x).natAbs = val x := by
  rw [val_natAbs hd, val_eq hd]
/-- the floor of a quotient -/
theorem floor_div {x y : UInt64} {a : Bool} {m k' : Nat} {e f : Int} {k : Int} (hx : decode x = .fin a m e) (hy : decode y = .fin false k' f) (hY : 0 < val y) (hk : k.natAbs < 2 ^ 32)
    (h1 : k * val y ≤ val x) (h2 : 2 ^ 20 * val x ≤ ((k + 1) * 2 ^ 20 - 1) * val y) : FloorIs (div x y) k := by
  have hk0 : k' ≠ 0 := by
    intro q
    have := val_natAbs hy
    rw [q] at this
    omega
  have R := div_right hx hy hk0
  have es : sgn (a != false) ((val x).natAbs * 2 ^ 1074) = val x * 2 ^ 1074 := by
    rw [Bool.bne_false, sgn_mul, sgn_val hx, Int.natCast_pow]; rfl
  have eD : (((val y).natAbs : Nat) : Int) = val y := by omega
  have hp := pow_pos' 1074
  have hq := pow_pos' 1054
  refine right_floor R (by omega) hk ?_ ?_
  · rw [es, eD, ← Int.mul_assoc, Int.mul_comm (val y)]
    exact Int.mul_le_mul_of_nonneg_right h1 (Int.le_of_lt hp)
  · rw [es, eD, p20, ← Int.mul_assoc, ← Int.mul_assoc]
    refine Int.mul_le_mul_of_nonneg_right ?_ (Int.le_of_lt hq)
    rw [Int.mul_comm (val x), Int.mul_comm (val y)]
    exact h2
theorem ceil_div {x y : UInt64} {a : Bool} {m k' : Nat} {e f : Int} {k : Int} (hx : decode x = .fin a m e) (hy : decode y = .fin false k' f) (hY : 0 < val y) (hk : k.natAbs < 2 ^ 32)
    (h1 : ((k - 1) * 2 ^ 20 + 1) * val y ≤ 2 ^ 20 * val x) (h2 : val x ≤ k * val y) : CeilIs (div x y) k := by
  have hk0 : k' ≠ 0 := by
    intro q
    have := val_natAbs hy
    rw [q] at this
    omega
  have R := div_right hx hy hk0
  have es : sgn (a != false) ((val x).natAbs * 2 ^ 1074) = val x * 2 ^ 1074 := by
    rw [Bool.bne_false, sgn_mul, sgn_val hx, Int.natCast_pow]; rfl
  have eD : (((val y).natAbs : Nat) : Int) = val y := by omega
  have hp := pow_pos' 1074
  have hq := pow_pos' 1054
  refine right_ceil R (by omega) hk ?_ ?_
  · rw [es, eD, p20, ← Int.mul_assoc, ← Int.mul_assoc]
    refine Int.mul_le_mul_of_nonneg_right ?_ (Int.le_of_lt hq)
    rw [Int.mul_comm (val x), Int.mul_comm (val y)]
    exact h1
  · rw [es, eD, ← Int.mul_assoc, Int.mul_comm (val y)]
    exact Int.mul_le_mul_of_nonneg_right h2 (Int.le_of_lt hp)
theorem sc {a b : Int} {k : Nat} (h : a ≤ b) : a * 2 ^ k ≤ b * 2 ^ k := Int.mul_le_mul_of_nonneg_right h (Int.le_of_lt (pow_pos' k))
/-- the quotient's number: q = a / b, from below -/
theorem floor_hf_div {a b : Int} (ha : a.natAbs < 2 ^ 50) (hb0 : 0 < b) (hb : b ≤ 2 ^ 20) (hk : (a / b).natAbs < 2 ^ 32) : FloorIs (div (HF a) (HF b)) (a / b) := by
  obtain ⟨m, e, hd, hv⟩ := hf_dec (n := a) (by omega)
  obtain ⟨k, f, hd2, hv2⟩ := hf_dec (n := b) (by omega)
  have q2 : ¬ b < 0 := by omega
  simp only [q2, decide_false] at hd2
  have hm : a % b + b * (a / b) = a := Int.emod_add_mul_ediv a b
  have hm2 := Int.emod_lt_of_pos a hb0
  have hm3 := Int.emod_nonneg a (Int.ne_of_gt hb0)
  refine floor_div hd hd2 (by rw [hv2]; exact Int.mul_pos hb0 (pow_pos' _)) hk ?_ ?_
  · rw [hv, hv2, ← Int.mul_assoc]
    refine sc ?_
    rw [Int.mul_comm]; omega
  · rw [hv, hv2, ← Int.mul_assoc, ← Int.mul_assoc]
    refine sc ?_
    have e1 : ((a / b + 1) * 2 ^ 20 - 1) * b = 2 ^ 20 * (b * (a / b)) + 2 ^ 20 * b - b := by
      rw [Int.sub_mul, Int.one_mul, Int.add_mul, Int.add_mul, Int.one_mul]
      have : a / b * 2 ^ 20 * b = 2 ^ 20 * (b * (a / b)) := by ac_rfl
      omega
    rw [e1]
    omega
theorem ceil_hf_div {a b : Int} (ha : a.natAbs < 2 ^ 50) (hb0 : 0 < b) (hb : b ≤ 2 ^ 20) (hk : ((-a) / b).natAbs < 2 ^ 32) : CeilIs (div (HF a) (HF b)) (-((-a) / b)) := by
  obtain ⟨m, e, hd, hv⟩ := hf_dec (n := a) (by omega)
  obtain ⟨k, f, hd2, hv2⟩ := hf_dec (n := b) (by omega)
  have q2 : ¬ b < 0 := by omega
  simp only [q2, decide_false] at hd2
  have hm : (-a) % b + b * ((-a) / b) = -a := Int.emod_add_mul_ediv (-a) b
  have hm2 := Int.emod_lt_of_pos (-a) hb0
  have hm3 := Int.emod_nonneg (-a) (Int.ne_of_gt hb0)
  refine ceil_div hd hd2 (by rw [hv2]; exact Int.mul_pos hb0 (pow_pos' _)) (by omega) ?_ ?_
  · rw [hv, hv2, ← Int.mul_assoc, ← Int.mul_assoc]
    refine sc ?_
    generalize hq : (-a) / b = q at *
    have e1 : ((-q - 1) * 2 ^ 20 + 1) * b = -(2 ^ 20 * (b * q)) - 2 ^ 20 * b + b := by
      rw [Int.add_mul, Int.one_mul, Int.sub_mul, Int.sub_mul, Int.one_mul]
      have : -q * 2 ^ 20 * b = -(2 ^ 20 * (b * q)) := by rw [Int.neg_mul, Int.neg_mul]; congr 1; ac_rfl
      omega
    rw [e1]
    omega
  · rw [hv, hv2, ← Int.mul_assoc]
    refine sc ?_
    rw [Int.neg_mul, Int.mul_comm]; omega
/-- two ints' quotient -/
theorem floor_frac {a b : Int} (ha : a.natAbs < 2 ^ 50) (hb0 : 0 < b) (hb : b ≤ 2 ^ 20) (hk : (a / b).natAbs < 2 ^ 32) : FloorIs (ofFrac (decide (a < 0) != decide (b < 0)) a.natAbs b.natAbs) (a / b) := by
  have q2 : ¬ b < 0 := by omega
  have R : Right (ofFrac (decide (a < 0) != decide (b < 0)) a.natAbs b.natAbs) (decide (a < 0)) (a.natAbs * 2 ^ 1074) b.natAbs := by
    simp only [q2, decide_false, Bool.bne_false]
    exact ofFrac_right (by omega) rfl (by omega)
  have es : sgn (decide (a < 0)) (a.natAbs * 2 ^ 1074) = a * 2 ^ 1074 := by
    rw [sgn_mul, Int.natCast_pow]
    congr 1
    unfold sgn
    by_cases q : a < 0
    · simp only [q, decide_true, if_true]; omega
    · simp only [q, decide_false, Bool.false_eq_true, if_false]; omega
  have eD : ((b.natAbs : Nat) : Int) = b := by omega
  have hm : a % b + b * (a / b) = a := Int.emod_add_mul_ediv a b
  have hm2 := Int.emod_lt_of_pos a hb0
  have hm3 := Int.emod_nonneg a (Int.ne_of_gt hb0)
  refine right_floor R (by omega) hk ?_ ?_
  · rw [es, eD, ← Int.mul_assoc]
    exact sc (by omega)
  · rw [es, eD, p20, ← Int.mul_assoc, ← Int.mul_assoc]
    refine sc ?_
    have e1 : b * ((a / b + 1) * 2 ^ 20 - 1) = 2 ^ 20 * (b * (a / b)) + 2 ^ 20 * b - b := by
      rw [Int.mul_sub, Int.mul_one, ← Int.mul_assoc, Int.mul_add, Int.mul_one, Int.add_mul]
      omega
    rw [e1]
    omega
theorem compare_scale' (a b : Int) (k : Nat) : compare (a * 2 ^ k) (b * 2 ^ k) = compare a b := by
  have hK := pow_pos' k
  rcases Int.lt_trichotomy a b with h | h | h
  · rw [Int.compare_eq_lt.mpr h, Int.compare_eq_lt.mpr (Int.mul_lt_mul_of_pos_right h hK)]
  · subst h; simp
  · rw [Int.compare_eq_gt.mpr h, Int.compare_eq_gt.mpr (Int.mul_lt_mul_of_pos_right h hK)]
theorem cmp_hf {a b : Int} (ha : a.natAbs < 2 ^ 53) (hb : b.natAbs < 2 ^ 53) : cmp (HF a) (HF b) = some (compare a b) := by
  obtain ⟨m, e, hd, hv⟩ := hf_dec ha
  obtain ⟨k, f, hd2, hv2⟩ := hf_dec hb
  rw [cmp_right hd hd2, hv, hv2, compare_scale']
theorem cmpInt_hf {a b : Int} (ha : a.natAbs < 2 ^ 53) : cmpInt (HF a) b = some (compare a (2 * b)) := by
  obtain ⟨m, e, hd, hv⟩ := hf_dec ha
  rw [cmpInt_right hd, hv, p1073, Int.mul_comm (2 ^ 1073) 2, ← Int.mul_assoc, Int.mul_comm b 2, compare_scale']
end Mine
-- FM3
namespace Mine
set_option maxRecDepth 20000
open PySem PySem.Float64 PySem.Flt
/-! the remainder -/
theorem fmod_hf {a b : Int} (ha : a.natAbs < 2 ^ 53) (hb0 : 0 < b) (hb : b.natAbs < 2 ^ 53) :
    Right (fmod (HF a) (HF b)) (decide (a < 0)) ((a.natAbs % b.natAbs) * 2 ^ 1073) 1 := by
  obtain ⟨m, e, hd, hv⟩ := hf_dec ha
  obtain ⟨k, f, hd2, hv2⟩ := hf_dec hb
  have he := decode_ge hd
  have hf := decode_ge hd2
  have n1 := val_natAbs hd
  have n2 := val_natAbs hd2
  rw [hv, natAbs_pow_mul] at n1
  rw [hv2, natAbs_pow_mul] at n2
  have hk0 : k ≠ 0 := by
    intro q
    rw [q, Nat.zero_mul] at n2
    have := Nat.mul_pos (show 0 < b.natAbs by omega) (Nat.two_pow_pos 1073)
    omega
  have hfm : fmod (HF a) (HF b) = ofBin (decide (a < 0)) ((m * 2 ^ (e - min e f).toNat) % (k * 2 ^ (f - min e f).toNat)) (min e f) := by
    unfold fmod
    rw [hd, hd2]
    simp only
    rw [if_neg (by simpa using hk0)]
    rfl
  rw [hfm]
  unfold ofBin
  refine ofFrac_right (shift_pos _ _ _ (by decide)) ?_ (by decide)
  have := shift_one ((m * 2 ^ (e - min e f).toNat) % (k * 2 ^ (f - min e f).toNat)) (min e f) 1074 (by omega)
  rw [Nat.mul_one]
  refine this.trans ?_
  congr 1
  have c : (min e f + ((1074 : Nat) : Int)).toNat = (min e f + 1074).toNat := rfl
  rw [c, ← Nat.mul_mod_mul_right, Nat.mul_assoc, Nat.mul_assoc, ← Nat.pow_add, ← Nat.pow_add]
  have e1 : (e - min e f).toNat + (min e f + 1074).toNat = (e + 1074).toNat := by omega
  have e2 : (f - min e f).toNat + (min e f + 1074).toNat = (f + 1074).toNat := by omega
  rw [e1, e2, ← n1, ← n2, Nat.mul_mod_mul_right]
theorem zeroF (n : Bool) : isZero (zero n) = true := by cases n <;> decide +kernel
theorem lt_zero_hf {a : Int} (ha : a.natAbs < 2 ^ 53) : lt (HF a) (zero false) = decide (a < 0) := by
  unfold lt
  rw [zero_hf, cmp_hf ha (by decide)]
  rcases Int.lt_trichotomy a 0 with h | h | h
  · rw [Int.compare_eq_lt.mpr h, decide_eq_true h]; rfl
  · subst h; rfl
  · rw [Int.compare_eq_gt.mpr h, decide_eq_false (by omega)]; rfl
theorem isZero_hf {a : Int} (ha : a.natAbs < 2 ^ 53) : isZero (HF a) = decide (a = 0) := by
  obtain ⟨m, e, hd, hv⟩ := hf_dec ha
  have n1 := val_natAbs hd
  rw [hv, natAbs_pow_mul] at n1
  unfold isZero
  rw [hd]
  by_cases q : a = 0
  · rw [decide_eq_true q]
    have : m = 0 := by
      rw [q] at n1
      rcases Nat.eq_zero_or_pos m with h | h
      · exact h
      · have := Nat.mul_pos h (Nat.two_pow_pos (e + 1074).toNat)
        have z : (0 : Int).natAbs * 2 ^ 1073 = 0 := Nat.zero_mul _
        omega
    subst this; rfl
  · rw [decide_eq_false q]
    have : m ≠ 0 := by
      intro h
      rw [h, Nat.zero_mul] at n1
      have := Nat.mul_pos (show 0 < a.natAbs by omega) (Nat.two_pow_pos 1073)
      omega
    cases m with
    | zero => exact absurd rfl this
    | succ m => rfl
theorem emod_neg_case {a b : Int} {X r : Nat} (q : a < 0) (hb0 : 0 < b) (h : ((a.natAbs : Nat) : Int) = b * (X : Int) + (r : Int)) (h1 : 0 < (r : Int)) (h2 : (r : Int) < b) : a % b = -(r : Int) + b := by
  have e3 : a = (b - (r : Int)) + b * (-(X : Int) - 1) := by
    have : b * (-(X : Int) - 1) = -(b * (X : Int)) - b := by rw [Int.mul_sub, Int.mul_neg, Int.mul_one]
    rw [this]; omega
  have e4 : a % b = (b - (r : Int)) % b := by
    conv => lhs; rw [e3]
    rw [Int.add_mul_emod_self_left]
  rw [e4, Int.emod_eq_of_lt (by omega) (by omega)]
  omega
theorem mod_hf {a b : Int} (ha : a.natAbs < 2 ^ 52) (hb0 : 0 < b) (hb : b.natAbs < 2 ^ 52) : (divmod (HF a) (HF b)).2 = HF (a % b) := by
  have R := fmod_hf (a := a) (b := b) (by omega) hb0 (by omega)
  have hlt : a.natAbs % b.natAbs < b.natAbs := Nat.mod_lt _ (by omega)
  have hla := lt_zero_hf (a := b) (by omega)
  have q2 : ¬ b < 0 := by omega
  rw [decide_eq_false q2] at hla
  have hm2 := Int.emod_lt_of_pos a hb0
  have hm3 := Int.emod_nonneg a (Int.ne_of_gt hb0)
  unfold divmod
  simp only
  by_cases h0 : a.natAbs % b.natAbs = 0
  · -- no rest
    rw [h0, Nat.zero_mul] at R
    have er : fmod (HF a) (HF b) = zero (decide (a < 0)) := right_exact R (by decide) (t := 0) (by decide) (by rw [V_zero])
    rw [er, zeroF]
    simp only [if_true]
    have hab : a % b = 0 := by
      have : (b.natAbs : Nat) ∣ a.natAbs := Nat.dvd_of_mod_eq_zero h0
      exact Int.emod_eq_zero_of_dvd (Int.natAbs_dvd_natAbs.mp this)
    rw [hab, ← zero_hf]
    unfold copysign
    have hn : isNaN (zero false) = false := by decide +kernel
    have hz : (zero false).toNat % 2 ^ 63 = 0 := by decide +kernel
    rw [hn, hz]
    have hs : signBit (HF b) = false := by
      obtain ⟨t, ht, hv⟩ := hf_rep (n := b) (by omega)
      have e := right_exact (hf_right b) (by decide) ht (by rw [hv]; omega)
      rw [e, decide_eq_false q2]
      have ht2 : t < 2 ^ 63 := by unfold infMag at ht; omega
      unfold signBit
      rw [pack_toNat false ht2]
      have e0 : ((if false = true then 2 ^ 63 else 0) + t) / 2 ^ 63 = 0 := by
        simp only [Bool.false_eq_true, if_false]; omega
      rw [e0]; rfl
    rw [hs]; rfl
  · -- a rest
    have hlt2 : (a.natAbs % b.natAbs) < 2 ^ 53 := by omega
    by_cases q : a < 0
    · have er : fmod (HF a) (HF b) = HF (-((a.natAbs % b.natAbs : Nat) : Int)) := by
        refine hf_eq (n := -((a.natAbs % b.natAbs : Nat) : Int)) (by omega) (W := (a.natAbs % b.natAbs) * 2 ^ 1073) (D := 1) ?_ (by decide) ?_
        · have : decide (-((a.natAbs % b.natAbs : Nat) : Int) < 0) = decide (a < 0) := decide_eq_decide.mpr (by omega)
          rw [this]; exact R
        · rw [Nat.one_mul, Int.natAbs_neg, Int.natAbs_natCast]
      rw [er, isZero_hf (by omega), decide_eq_false (by omega), hla, lt_zero_hf (by omega), decide_eq_true (by omega)]
      simp only [Bool.false_eq_true, if_false]
      rw [if_pos (by decide), hf_add (by omega) (by omega) (by omega)]
      have e2 : (b.natAbs : Int) = b := by omega
      have hA := Nat.div_add_mod a.natAbs b.natAbs
      have hB : ((a.natAbs : Nat) : Int) = b * ((a.natAbs / b.natAbs : Nat) : Int) + ((a.natAbs % b.natAbs : Nat) : Int) := by
        rw [← e2]; exact_mod_cast hA.symm
      exact congrArg HF (emod_neg_case q hb0 hB (by omega) (by omega)).symm
    · have er : fmod (HF a) (HF b) = HF ((a.natAbs % b.natAbs : Nat) : Int) := by
        refine hf_eq (n := ((a.natAbs % b.natAbs : Nat) : Int)) (by omega) (W := (a.natAbs % b.natAbs) * 2 ^ 1073) (D := 1) ?_ (by decide) ?_
        · have : decide (((a.natAbs % b.natAbs : Nat) : Int) < 0) = decide (a < 0) := decide_eq_decide.mpr (by omega)
          rw [this]; exact R
        · rw [Nat.one_mul, Int.natAbs_natCast]
      rw [er, isZero_hf (by omega), decide_eq_false (by omega), hla, lt_zero_hf (by omega), decide_eq_false (by omega)]
      simp only [Bool.false_eq_true, if_false]
      rw [if_neg (by decide)]
      have e1 : a = (a.natAbs : Int) := by omega
      have e2 : (b.natAbs : Int) = b := by omega
      have e3 : a % b = ((a.natAbs % b.natAbs : Nat) : Int) := by
        conv => lhs; rw [e1, ← e2]
        rfl
      exact congrArg HF e3.symm
/-! the constants -/
theorem c_half : (0x3fe0000000000000 : UInt64) = HF 1 := by decide +kernel
theorem c_greg : (0x413a445180000000 : UInt64) = HF 3442851 := by decide +kernel
theorem c_isl : (0x413dbb1780000000 : UInt64) = HF 3896879 := by decide +kernel
theorem c_cop : (0x413bd90580000000 : UInt64) = HF 3650059 := by decide +kernel
theorem c_295 : (0x403d800000000000 : UInt64) = HF 59 := by decide +kernel
theorem c_1524 : (0x4097d20000000000 : UInt64) = HF 3049 := by decide +kernel
/-! Julian: 122.1, 365.25, 30.6001 -/
def K122 : UInt64 := 0x405e866666666666
def K365 : UInt64 := 0x4076d40000000000
def K306 : UInt64 := 0x403e99a027525461
def nfin (x : UInt64) : Option (Bool × Nat × Int) := match decode x with
  | .fin a m e => some (a, m, e)
  | _ => none
theorem nfin_of {x : UInt64} {a : Bool} {m : Nat} {e : Int} (h : nfin x = some (a, m, e)) : decode x = .fin a m e := by
  unfold nfin at h
  split at h
  · rename_i h2; cases h; exact h2
  · cases h
theorem dec122 : decode K122 = .fin false 8592023664092774 (-46) := nfin_of (by decide +kernel)
theorem dec365 : decode K365 = .fin false 6425545952722944 (-44) := nfin_of (by decide +kernel)
theorem dec306 : decode K306 = .fin false 8613162434843745 (-48) := nfin_of (by decide +kernel)
theorem val_lit {x : UInt64} {m : Nat} {e : Int} {j : Nat} (h : decode x = .fin false m e) (hj : (e + 1074).toNat = j) : val x = (m : Int) * 2 ^ j := by
  rw [val_eq h, hj]
  unfold sgn
  rw [if_neg (by decide), Int.natCast_mul, Int.natCast_pow]
  rfl
theorem val122 : val K122 = 8592023664092774 * 2 ^ 1028 := val_lit dec122 rfl
theorem val365 : val K365 = 6425545952722944 * 2 ^ 1030 := val_lit dec365 rfl
theorem pk (i j : Nat) (a : Int) : a * 2 ^ (i + j) = a * 2 ^ i * 2 ^ j := by rw [pw, Int.mul_assoc]
theorem jul_c {b : Int} (hb : b.natAbs < 2 ^ 34) : FloorIs (div (sub (ofInt b) K122) K365) ((8 * b - 977) / 2922) := by
  rw [hf_int (by omega)]
  obtain ⟨m, e, hd, hv⟩ := hf_dec (n := 2 * b) (by omega)
  have R := sub_right hd dec122
  have ev : val (HF (2 * b)) - val K122 = (b * 2 ^ 46 - 8592023664092774) * 2 ^ 1028 := by
    rw [hv, val122, Int.sub_mul, show (1073 : Nat) = 45 + 1028 from rfl, pk]
    congr 1
    congr 1
    omega
  rw [ev] at R
  have hne : (b * 2 ^ 46 - 8592023664092774) * 2 ^ 1028 ≠ 0 := Int.mul_ne_zero (by omega) (Int.ne_of_gt (pow_pos' _))
  have R2 := R.2 hne
  have es : sgn (decide ((b * 2 ^ 46 - 8592023664092774) * 2 ^ 1028 < 0)) ((b * 2 ^ 46 - 8592023664092774) * 2 ^ 1028).natAbs = (b * 2 ^ 46 - 8592023664092774) * 2 ^ 1028 := by
    generalize (b * 2 ^ 46 - 8592023664092774) * 2 ^ 1028 = z
    unfold sgn
    by_cases q : z < 0
    · rw [decide_eq_true q, if_pos rfl]; omega
    · rw [decide_eq_false q, if_neg (by decide)]; omega
  have hA : Rep ((8 * b - 977) * 2 ^ 1071) := rep_of (by omega) (by decide)
  have hB : Rep ((16 * b - 1953) * 2 ^ 1070) := rep_of (by omega) (by decide)
  obtain ⟨⟨m1, e1, hd1⟩, l1, l2⟩ := round_between R2 (by decide) hA hB (by
    rw [es, show ((1 : Nat) : Int) = 1 from rfl, Int.one_mul, show (1071 : Nat) = 43 + 1028 from rfl, pk]
    exact sc (by omega)) (by
    rw [es, show ((1 : Nat) : Int) = 1 from rfl, Int.one_mul, show (1070 : Nat) = 42 + 1028 from rfl, pk]
    exact sc (by omega))
  refine floor_div hd1 dec365 (by rw [val365]; exact Int.mul_pos (by decide) (pow_pos' _)) (by omega) ?_ ?_
  · refine Int.le_trans ?_ l1
    rw [val365, ← Int.mul_assoc, show (1071 : Nat) = 41 + 1030 from rfl, pk]
    exact sc (by omega)
  · refine Int.le_trans (Int.mul_le_mul_of_nonneg_left l2 (by decide)) ?_
    rw [val365, ← Int.mul_assoc, ← Int.mul_assoc, show (1070 : Nat) = 40 + 1030 from rfl, pk]
    exact sc (by omega)
theorem jul_d {c : Int} (hc : c.natAbs < 2 ^ 32) : FloorIs (mul K365 (ofInt c)) (1461 * c / 4) := by
  rw [hf_int (by omega)]
  obtain ⟨m, e, hd, hv⟩ := hf_dec (n := 2 * c) (by omega)
  have R := mul_right dec365 hd
  have e0 : (false != decide (2 * c < 0)) = decide (c < 0) := by
    rw [Bool.false_bne]; exact decide_eq_decide.mpr (by omega)
  have ev : (val K365).natAbs * (val (HF (2 * c))).natAbs = 2 ^ 1074 * ((1461 * c).natAbs * 2 ^ 1072) := by
    rw [val365, hv, natAbs_pow_mul, natAbs_pow_mul, show (2 * c).natAbs = 2 * c.natAbs by omega, show (1461 * c).natAbs = 1461 * c.natAbs by omega,
      show (6425545952722944 : Int).natAbs = 1461 * 2 ^ 42 from rfl]
    have h1 : (2 : Nat) ^ 1072 = 2 ^ 42 * 2 ^ 1030 := by rw [← Nat.pow_add]
    have h2 : (2 : Nat) ^ 1074 = 2 * 2 ^ 1073 := by rw [Nat.mul_comm]; exact p74
    rw [h1, h2]
    generalize (2 : Nat) ^ 42 = X
    generalize (2 : Nat) ^ 1030 = Y
    generalize (2 : Nat) ^ 1073 = Z
    ac_rfl
  rw [e0, ev] at R
  have es : sgn (decide (c < 0)) (2 ^ 1074 * ((1461 * c).natAbs * 2 ^ 1072)) = ((2 ^ 1074 : Nat) : Int) * (1461 * c * 2 ^ 1072) := by
    rw [Nat.mul_comm, sgn_mul, Int.mul_comm]
    congr 1
    rw [sgn_mul, Int.natCast_pow]
    congr 1
    unfold sgn
    by_cases q : c < 0
    · rw [decide_eq_true q, if_pos rfl]; omega
    · rw [decide_eq_false q, if_neg (by decide)]; omega
  have hA : Rep (1461 * c * 2 ^ 1072) := rep_of (by omega) (by decide)
  obtain ⟨⟨m1, e1, hd1⟩, l1, l2⟩ := round_between R (Nat.two_pow_pos _) hA hA (by rw [es]; exact Int.le_refl _) (by rw [es]; exact Int.le_refl _)
  have ee := Int.le_antisymm l1 l2
  refine ⟨fin_of hd1, ?_⟩
  rw [toInt_of hd1, floor_val hd1, ← ee, show (1074 : Nat) = 1072 + 2 from rfl, pw, Int.mul_comm (1461 * c), Int.mul_ediv_mul_of_pos _ _ (pow_pos' _)]
  rfl
theorem jul_eAll : (List.range 500).all (fun n => isFinite (div (ofInt (n : Int)) K306) && (toInt floorOf (div (ofInt (n : Int)) K306) == (10000 * (n : Int)) / 306001)) = true := by decide +kernel
theorem jul_e {n : Int} (h0 : 0 ≤ n) (h1 : n < 500) : FloorIs (div (ofInt n) K306) (10000 * n / 306001) := by
  obtain ⟨k, rfl⟩ := Int.eq_ofNat_of_zero_le h0
  have := List.all_eq_true.mp jul_eAll k (List.mem_range.mpr (by omega))
  simp only [Bool.and_eq_true, beq_iff_eq] at this
  exact this
theorem jul_mAll : (List.range 20).all (fun n => isFinite (mul K306 (ofInt (n : Int))) && (toInt floorOf (mul K306 (ofInt (n : Int))) == (306001 * (n : Int)) / 10000)) = true := by decide +kernel
theorem jul_m {n : Int} (h0 : 0 ≤ n) (h1 : n < 20) : FloorIs (mul K306 (ofInt n)) (306001 * n / 10000) := by
  obtain ⟨k, rfl⟩ := Int.eq_ofNat_of_zero_le h0
  have := List.all_eq_true.mp jul_mAll k (List.mem_range.mpr (by omega))
  simp only [Bool.and_eq_true, beq_iff_eq] at this
  exact this
/-! Gregorian: (367 m - 362) / 12 + adj + day -/
def gnum (n : Int) : UInt64 := ofFrac (decide (n < 0) != decide ((12 : Int) < 0)) n.natAbs (12 : Int).natAbs
def gval (m a d : Int) : UInt64 := add (add (gnum (367 * m - 362)) (ofInt a)) (ofInt d)
theorem g_all : (List.range 12).all (fun m => (List.range 3).all fun a => (List.range 31).all fun d =>
    isFinite (gval (m + 1 : Nat) (-(a : Int)) (d + 1 : Nat)) && (toInt floorOf (gval (m + 1 : Nat) (-(a : Int)) (d + 1 : Nat)) == (367 * ((m + 1 : Nat) : Int) - 362) / 12 + (-(a : Int)) + ((d + 1 : Nat) : Int))) = true := by decide +kernel
theorem g_floor {m a d : Int} (hm0 : 1 ≤ m) (hm1 : m ≤ 12) (ha0 : -2 ≤ a) (ha1 : a ≤ 0) (hd0 : 1 ≤ d) (hd1 : d ≤ 31) :
    FloorIs (gval m a d) ((367 * m - 362) / 12 + a + d) := by
  obtain ⟨k, rfl⟩ : ∃ k : Nat, m = ((k + 1 : Nat) : Int) := ⟨(m - 1).toNat, by omega⟩
  obtain ⟨i, rfl⟩ : ∃ i : Nat, a = -(i : Int) := ⟨(-a).toNat, by omega⟩
  obtain ⟨j, rfl⟩ : ∃ j : Nat, d = ((j + 1 : Nat) : Int) := ⟨(d - 1).toNat, by omega⟩
  have h1 := List.all_eq_true.mp g_all k (List.mem_range.mpr (by omega))
  have h2 := List.all_eq_true.mp h1 i (List.mem_range.mpr (by omega))
  have h3 := List.all_eq_true.mp h2 j (List.mem_range.mpr (by omega))
  simp only [Bool.and_eq_true, beq_iff_eq] at h3
  exact h3
end Mine
-- FR
namespace Mine
set_option maxRecDepth 20000
open PySem PySem.W PyProof.Rows PySem.Calls PySem.Flt
theorem fin_not_inf {x : UInt64} {a : Bool} {m : Nat} {e : Int} (hd : Float64.decode x = .fin a m e) : ¬ Float64.isInf x = true := by
  unfold Float64.isInf; rw [hd]; exact Bool.noConfusion
theorem int_not_inf {n : Int} (h : n.natAbs < 2 ^ 52) : ¬ Float64.isInf (Float64.ofInt n) = true := by
  rw [hf_int h]
  obtain ⟨m, e, hd, _⟩ := hf_dec (n := 2 * n) (by omega)
  exact fin_not_inf hd
theorem not_over' {n : Int} (h : n.natAbs < 2 ^ 52) : ¬ Over n := fun ho => int_not_inf h (inf_of_over ho)
theorem not_nan {x : UInt64} (h : Float64.isFinite x = true) : Float64.isNaN x = true → False := by
  intro q
  unfold Float64.isFinite at h
  unfold Float64.isNaN at q
  split at h
  · rename_i hd; rw [hd] at q; cases q
  · cases h
theorem not_inf {x : UInt64} (h : Float64.isFinite x = true) : Float64.isInf x = true → False := by
  intro q
  unfold Float64.isFinite at h
  unfold Float64.isInf at q
  split at h
  · rename_i hd; rw [hd] at q; cases q
  · cases h
section
variable {prog : Program} {w : World} {A : Around} {E : Value → Shared → Prop} {s : Shared} {x y : UInt64} {a b n : Int} {t u : Tok} {Q : Value → Shared → Prop}
theorem r_add_ff (hx : x = HF a) (hy : y = HF b) (bal : -4503599627370496 < a) (bau : a < 4503599627370496) (bbl : -4503599627370496 < b) (bbu : b < 4503599627370496) (h : Q (.float (HF (a + b)) s.toks) { s with toks := s.toks + 1 }) : wpAny (model prog w) A (binaryOp .Add (.float x t) (.float y u)) Q E s := by
  subst hx hy; refine AutoFloatOps.add_0 ?_; rw [hf_add (by omega) (by omega) (by omega)]; exact h
theorem r_sub_ff (hx : x = HF a) (hy : y = HF b) (bal : -4503599627370496 < a) (bau : a < 4503599627370496) (bbl : -4503599627370496 < b) (bbu : b < 4503599627370496) (h : Q (.float (HF (a - b)) s.toks) { s with toks := s.toks + 1 }) : wpAny (model prog w) A (binaryOp .Sub (.float x t) (.float y u)) Q E s := by
  subst hx hy; refine AutoFloatOps.sub_0 ?_; rw [hf_sub (by omega) (by omega) (by omega)]; exact h
theorem r_iadd_ff (hx : x = HF a) (hy : y = HF b) (bal : -4503599627370496 < a) (bau : a < 4503599627370496) (bbl : -4503599627370496 < b) (bbu : b < 4503599627370496) (h : Q (.float (HF (a + b)) s.toks) { s with toks := s.toks + 1 }) : wpAny (model prog w) A (inplaceOp .Add (.float x t) (.float y u)) Q E s := by
  subst hx hy; refine AutoFloatOps.iadd_0 ?_; rw [hf_add (by omega) (by omega) (by omega)]; exact h
theorem r_add_fi (hx : x = HF a) (bal : -4503599627370496 < a) (bau : a < 4503599627370496) (bbl : -2251799813685248 < n) (bbu : n < 2251799813685248) (h : Q (.float (HF (a + 2 * n)) s.toks) { s with toks := s.toks + 1 }) : wpAny (model prog w) A (binaryOp .Add (.float x t) (.int n u)) Q E s := by
  subst hx; refine AutoFloatOps.add_fi_1 (int_not_inf (by omega)) ?_; rw [hf_int (by omega), hf_add (by omega) (by omega) (by omega)]; exact h
theorem r_sub_fi (hx : x = HF a) (bal : -4503599627370496 < a) (bau : a < 4503599627370496) (bbl : -2251799813685248 < n) (bbu : n < 2251799813685248) (h : Q (.float (HF (a - 2 * n)) s.toks) { s with toks := s.toks + 1 }) : wpAny (model prog w) A (binaryOp .Sub (.float x t) (.int n u)) Q E s := by
  subst hx; refine AutoFloatOps.sub_fi_1 (int_not_inf (by omega)) ?_; rw [hf_int (by omega), hf_sub (by omega) (by omega) (by omega)]; exact h
theorem r_iadd_fi (hx : x = HF a) (bal : -4503599627370496 < a) (bau : a < 4503599627370496) (bbl : -2251799813685248 < n) (bbu : n < 2251799813685248) (h : Q (.float (HF (a + 2 * n)) s.toks) { s with toks := s.toks + 1 }) : wpAny (model prog w) A (inplaceOp .Add (.float x t) (.int n u)) Q E s := by
  subst hx; refine PySem.Flt.iadd_fi_1 (int_not_inf (by omega)) ?_; rw [hf_int (by omega), hf_add (by omega) (by omega) (by omega)]; exact h
theorem r_isub_fi (hx : x = HF a) (bal : -4503599627370496 < a) (bau : a < 4503599627370496) (bbl : -2251799813685248 < n) (bbu : n < 2251799813685248) (h : Q (.float (HF (a - 2 * n)) s.toks) { s with toks := s.toks + 1 }) : wpAny (model prog w) A (inplaceOp .Sub (.float x t) (.int n u)) Q E s := by
  subst hx; refine PySem.Flt.isub_fi_1 (int_not_inf (by omega)) ?_; rw [hf_int (by omega), hf_sub (by omega) (by omega) (by omega)]; exact h
theorem r_add_if (hx : x = HF a) (bal : -4503599627370496 < a) (bau : a < 4503599627370496) (bbl : -2251799813685248 < n) (bbu : n < 2251799813685248) (h : Q (.float (HF (2 * n + a)) s.toks) { s with toks := s.toks + 1 }) : wpAny (model prog w) A (binaryOp .Add (.int n u) (.float x t)) Q E s := by
  subst hx; refine AutoFloatOps.add_if_1 (int_not_inf (by omega)) ?_; rw [hf_int (by omega), hf_add (by omega) (by omega) (by omega)]; exact h
theorem r_sub_if (hx : x = HF a) (bal : -4503599627370496 < a) (bau : a < 4503599627370496) (bbl : -2251799813685248 < n) (bbu : n < 2251799813685248) (h : Q (.float (HF (2 * n - a)) s.toks) { s with toks := s.toks + 1 }) : wpAny (model prog w) A (binaryOp .Sub (.int n u) (.float x t)) Q E s := by
  subst hx; refine AutoFloatOps.sub_if_1 (int_not_inf (by omega)) ?_; rw [hf_int (by omega), hf_sub (by omega) (by omega) (by omega)]; exact h
/-- n the written, positive factor -/
theorem r_mul_fi (hx : x = HF a) (hn : 0 < n) (hn2 : n < 2 ^ 12) (bal : -1099511627776 < a) (bau : a < 1099511627776) (h : Q (.float (HF (n * a)) s.toks) { s with toks := s.toks + 1 }) : wpAny (model prog w) A (binaryOp .Mult (.float x t) (.int n u)) Q E s := by
  subst hx
  have hp : (n * a).natAbs < 2 ^ 53 := by
    rw [Int.natAbs_mul]
    have h1 : n.natAbs * a.natAbs ≤ 2 ^ 12 * 2 ^ 40 := Nat.mul_le_mul (by omega) (by omega)
    omega
  refine AutoFloatOps.mul_fi_1 (int_not_inf (by omega)) ?_
  rw [hf_int (by omega), hf_mul_int hn (by omega) (by omega) (by rw [Int.mul_comm]; exact hp), Int.mul_comm]
  exact h
theorem r_mul_if (hx : x = HF a) (hn : 0 < n) (hn2 : n < 2 ^ 12) (bal : -1099511627776 < a) (bau : a < 1099511627776) (h : Q (.float (HF (n * a)) s.toks) { s with toks := s.toks + 1 }) : wpAny (model prog w) A (binaryOp .Mult (.int n u) (.float x t)) Q E s := by
  subst hx
  have hp : (n * a).natAbs < 2 ^ 53 := by
    rw [Int.natAbs_mul]
    have h1 : n.natAbs * a.natAbs ≤ 2 ^ 12 * 2 ^ 40 := Nat.mul_le_mul (by omega) (by omega)
    omega
  refine AutoFloatOps.mul_if_1 (int_not_inf (by omega)) ?_
  rw [hf_int (by omega), hf_int_mul hn (by omega) (by omega) hp]
  exact h
/-- a the written, positive half integer -/
theorem r_mul_ci (hx : x = HF a) (ha : 0 < a) (ha2 : a < 2 ^ 12) (bnl : -1099511627776 < n) (bnu : n < 1099511627776) (h : Q (.float (HF (a * n)) s.toks) { s with toks := s.toks + 1 }) : wpAny (model prog w) A (binaryOp .Mult (.float x t) (.int n u)) Q E s := by
  subst hx
  have hp : (a * n).natAbs < 2 ^ 53 := by
    rw [Int.natAbs_mul]
    have h1 : a.natAbs * n.natAbs ≤ 2 ^ 12 * 2 ^ 40 := Nat.mul_le_mul (by omega) (by omega)
    omega
  refine AutoFloatOps.mul_fi_1 (int_not_inf (by omega)) ?_
  rw [hf_int (by omega), hf_half_mul ha (by omega) (by omega) hp]
  exact h
theorem r_mod_fi (hA : A.handled = none) (hx : x = HF a) (hn : 0 < n) (hn2 : n < 2 ^ 40) (bal : -4503599627370496 < a) (bau : a < 4503599627370496) (h : ∀ r, r = a % (2 * n) → 0 ≤ r → r < 2 * n → Q (.float (HF r) s.toks) { s with toks := s.toks + 1 }) : wpAny (model prog w) A (binaryOp .Mod (.float x t) (.int n u)) Q E s := by
  subst hx
  refine mod_fi hA (fun ho => absurd ho (not_over' (by omega))) (fun h0 => absurd h0 (by omega)) (fun _ _ => ?_)
  rw [hf_int (by omega), mod_hf (by omega) (by omega) (by omega)]
  exact h _ rfl (Int.emod_nonneg _ (by omega)) (Int.emod_lt_of_pos _ (by omega))
theorem r_div_fi (hA : A.handled = none) (hn : 0 < n) (hn2 : n < 2 ^ 40) (h : Q (.float (Float64.div x (HF (2 * n))) s.toks) { s with toks := s.toks + 1 }) : wpAny (model prog w) A (binaryOp .Div (.float x t) (.int n u)) Q E s := by
  refine truediv_fi hA (fun ho => absurd ho (not_over' (by omega))) (fun h0 => absurd h0 (by omega)) (fun _ _ => ?_)
  rw [hf_int (by omega)]
  exact h
theorem r_div_ff (hA : A.handled = none) (hy : y = HF b) (hb : 0 < b) (hb2 : b < 2 ^ 40) (h : Q (.float (Float64.div x (HF b)) s.toks) { s with toks := s.toks + 1 }) : wpAny (model prog w) A (binaryOp .Div (.float x t) (.float y u)) Q E s := by
  subst hy
  refine truediv_float_or hA (fun hz => ?_) (fun _ => h)
  rw [isZero_hf (by omega)] at hz
  exact absurd (of_decide_eq_true hz) (by omega)
theorem r_div_fc (hA : A.handled = none) (hz : Float64.isZero y = false) (h : Q (.float (Float64.div x y) s.toks) { s with toks := s.toks + 1 }) : wpAny (model prog w) A (binaryOp .Div (.float x t) (.float y u)) Q E s :=
  truediv_float_or hA (fun z => by rw [hz] at z; cases z) (fun _ => h)
theorem r_div_ic (hA : A.handled = none) (hnl : -2251799813685248 < n) (hnu : n < 2251799813685248) (hz : Float64.isZero y = false) (h : Q (.float (Float64.div (Float64.ofInt n) y) s.toks) { s with toks := s.toks + 1 }) : wpAny (model prog w) A (binaryOp .Div (.int n u) (.float y t)) Q E s :=
  truediv_if hA (fun ho => absurd ho (not_over' (by omega))) (fun _ z => by rw [hz] at z; cases z) (fun _ _ => h)
theorem r_div_ii (hA : A.handled = none) (hb : 0 < b) (hal : -1125899906842624 < a) (hau : a < 1125899906842624) (h : Q (.float (Float64.ofFrac (decide (a < 0) != decide (b < 0)) a.natAbs b.natAbs) s.toks) { s with toks := s.toks + 1 }) : wpAny (model prog w) A (binaryOp .Div (.int a t) (.int b u)) Q E s :=
  div_ii_fits hA (Nat.lt_of_lt_of_le (show a.natAbs < 2 ^ 50 by omega) (Nat.pow_le_pow_right (by decide) (by decide))) (fun h0 => absurd h0 (by omega)) (fun _ _ => h)
theorem r_sub_ic (hnl : -2251799813685248 < n) (hnu : n < 2251799813685248) (h : Q (.float (Float64.sub (Float64.ofInt n) x) s.toks) { s with toks := s.toks + 1 }) : wpAny (model prog w) A (binaryOp .Sub (.int n u) (.float x t)) Q E s :=
  AutoFloatOps.sub_if_1 (int_not_inf (by omega)) h
theorem r_mul_xi (hnl : -2251799813685248 < n) (hnu : n < 2251799813685248) (h : Q (.float (Float64.mul x (Float64.ofInt n)) s.toks) { s with toks := s.toks + 1 }) : wpAny (model prog w) A (binaryOp .Mult (.float x t) (.int n u)) Q E s :=
  AutoFloatOps.mul_fi_1 (int_not_inf (by omega)) h
theorem r_add_xi (hnl : -2251799813685248 < n) (hnu : n < 2251799813685248) (h : Q (.float (Float64.add x (Float64.ofInt n)) s.toks) { s with toks := s.toks + 1 }) : wpAny (model prog w) A (binaryOp .Add (.float x t) (.int n u)) Q E s :=
  AutoFloatOps.add_fi_1 (int_not_inf (by omega)) h
theorem r_floor (hA : A.handled = none) {k : Int} (hk : FloorIs x k) (h : Q (.int k s.toks) { s with toks := s.toks + 1 }) : wpAny (model prog w) A (call (.builtin "math.floor") [.float x t]) Q E s :=
  call_floor_float hA (fun q => absurd q (not_nan hk.1)) (fun q => absurd q (not_inf hk.1)) (fun _ => by rw [hk.2]; exact h)
theorem r_ceil (hA : A.handled = none) {k : Int} (hk : CeilIs x k) (h : Q (.int k s.toks) { s with toks := s.toks + 1 }) : wpAny (model prog w) A (call (.builtin "math.ceil") [.float x t]) Q E s :=
  call_ceil_float hA (fun q => absurd q (not_nan hk.1)) (fun q => absurd q (not_inf hk.1)) (fun _ => by rw [hk.2]; exact h)
theorem r_trunc (hA : A.handled = none) {k : Int} (hk : TruncIs x k) (h : Q (.int k s.toks) { s with toks := s.toks + 1 }) : wpAny (model prog w) A (call (.type "int") [.float x t]) Q E s :=
  call_int_float3 hA (fun q => absurd q (not_nan hk.1)) (fun q => absurd q (not_inf hk.1)) (fun _ => by rw [hk.2]; exact h)
/-- the value takes a name -/
theorem named {k : Int} {t' : Tok} {s' : Shared} (h : ∀ q, q = k → Q (.int q t') s') : Q (.int k t') s' := h k rfl
theorem r_lt_fi (hx : x = HF a) (bal : -4503599627370496 < a) (bau : a < 4503599627370496) (h : Q (.bool (decide (a < 2 * n))) s) : wpAny (model prog w) A (compareOp .Lt (.float x t) (.int n u)) Q E s := by
  subst hx
  refine lt_fi ?_
  have e : (Float64.cmpInt (HF a) n == some Ordering.lt) = decide (a < 2 * n) := by
    rw [cmpInt_hf (by omega)]
    rcases Int.lt_trichotomy a (2 * n) with q | q | q
    · rw [Int.compare_eq_lt.mpr q, decide_eq_true q]; rfl
    · rw [← q, decide_eq_false (by omega)]; simp
    · rw [Int.compare_eq_gt.mpr q, decide_eq_false (by omega)]; rfl
  rw [e]; exact h
theorem r_ne_ff (hx : x = HF a) (hy : y = HF b) (bal : -4503599627370496 < a) (bau : a < 4503599627370496) (bbl : -4503599627370496 < b) (bbu : b < 4503599627370496) (hab : a = b) (h : Q (.bool false) s) : wpAny (model prog w) A (compareOp .NotEq (.float x t) (.float y u)) Q E s := by
  subst hx hy hab
  refine AutoFloatOps.ne_0 ?_
  rw [cmp_hf (by omega) (by omega)]
  have : (some (compare a a) != some Ordering.eq) = false := by simp
  rw [this]; exact h
/-! floors and ceilings, with a named answer -/
theorem div_name {a b : Int} (hb : 0 < b) : b * (a / b) ≤ a ∧ a < b * (a / b) + b := by
  have hm : a % b + b * (a / b) = a := Int.emod_add_mul_ediv a b
  have hm2 := Int.emod_lt_of_pos a hb
  have hm3 := Int.emod_nonneg a (Int.ne_of_gt hb)
  omega
theorem div_small {a b : Int} (hb : 0 < b) (h1 : -(2 ^ 31) * b ≤ a) (h2 : a ≤ 2 ^ 31 * b) : (a / b).natAbs < 2 ^ 32 := by
  have e1 : -(2 ^ 31) ≤ a / b := (Int.le_ediv_iff_mul_le hb).mpr h1
  have e2 : a / b < 2 ^ 31 + 1 := Int.ediv_lt_of_lt_mul hb (by omega)
  omega
theorem r_floor_hf (hA : A.handled = none) (bal : -4503599627370496 < a) (bau : a < 4503599627370496) (h : ∀ q, q = a / 2 → Q (.int q s.toks) { s with toks := s.toks + 1 }) : wpAny (model prog w) A (call (.builtin "math.floor") [.float (HF a) t]) Q E s :=
  r_floor hA (floor_hf (by omega)) (h _ rfl)
theorem r_ceil_hf (hA : A.handled = none) (bal : -4503599627370496 < a) (bau : a < 4503599627370496) (h : ∀ q, a ≤ 2 * q → 2 * q < a + 2 → Q (.int q s.toks) { s with toks := s.toks + 1 }) : wpAny (model prog w) A (call (.builtin "math.ceil") [.float (HF a) t]) Q E s :=
  r_ceil hA (ceil_hf (by omega)) (h _ (by omega) (by omega))
theorem r_trunc_hf (hA : A.handled = none) (bal : -4503599627370496 < a) (bau : a < 4503599627370496) (he : a % 2 = 0) (h : ∀ q, a = 2 * q → Q (.int q s.toks) { s with toks := s.toks + 1 }) : wpAny (model prog w) A (call (.type "int") [.float (HF a) t]) Q E s :=
  r_trunc hA (trunc_hf (k := a / 2) (by omega) (by omega)) (h _ (by omega))
theorem r_floor_div (hA : A.handled = none) (hb : 0 < b) (hb2 : b ≤ 2 ^ 20) (bal : -1125899906842624 < a) (bau : a < 1125899906842624) (k1 : -(2 ^ 31) * b ≤ a) (k2 : a ≤ 2 ^ 31 * b)
    (h : ∀ q, q = a / b → Q (.int q s.toks) { s with toks := s.toks + 1 }) : wpAny (model prog w) A (call (.builtin "math.floor") [.float (Float64.div (HF a) (HF b)) t]) Q E s :=
  r_floor hA (floor_hf_div (by omega) hb hb2 (div_small hb k1 k2)) (h _ rfl)
theorem r_ceil_div (hA : A.handled = none) (hb : 0 < b) (hb2 : b ≤ 2 ^ 20) (bal : -1125899906842624 < a) (bau : a < 1125899906842624) (k1 : -(2 ^ 31) * b ≤ -a) (k2 : -a ≤ 2 ^ 31 * b)
    (h : ∀ q, a ≤ b * q → b * q < a + b → Q (.int q s.toks) { s with toks := s.toks + 1 }) : wpAny (model prog w) A (call (.builtin "math.ceil") [.float (Float64.div (HF a) (HF b)) t]) Q E s := by
  have hn := div_name (a := -a) hb
  have e : b * (-(-a / b)) = -(b * (-a / b)) := Int.mul_neg _ _
  exact r_ceil hA (ceil_hf_div (by omega) hb hb2 (div_small hb k1 k2)) (h _ (by rw [e]; omega) (by rw [e]; omega))
theorem r_floor_ii (hA : A.handled = none) (hb : 0 < b) (hb2 : b ≤ 2 ^ 20) (bal : -1125899906842624 < a) (bau : a < 1125899906842624) (k1 : -(2 ^ 31) * b ≤ a) (k2 : a ≤ 2 ^ 31 * b)
    (h : ∀ q, q = a / b → Q (.int q s.toks) { s with toks := s.toks + 1 }) : wpAny (model prog w) A (call (.builtin "math.floor") [.float (Float64.ofFrac (decide (a < 0) != decide (b < 0)) a.natAbs b.natAbs) t]) Q E s :=
  r_floor hA (floor_frac (by omega) hb hb2 (div_small hb k1 k2)) (h _ rfl)
theorem r_floor_jc (hA : A.handled = none) (hx : x = (Float64.div (Float64.sub (Float64.ofInt n) K122) K365)) (bnl : -17179869184 < n) (bnu : n < 17179869184) (h : ∀ q, q = (8 * n - 977) / 2922 → Q (.int q s.toks) { s with toks := s.toks + 1 }) :
    wpAny (model prog w) A (call (.builtin "math.floor") [.float x t]) Q E s := by
  subst hx; exact r_floor hA (jul_c (by omega)) (h _ rfl)
theorem r_floor_jd (hA : A.handled = none) (hx : x = (Float64.mul K365 (Float64.ofInt n))) (bnl : -4294967296 < n) (bnu : n < 4294967296) (h : ∀ q, q = 1461 * n / 4 → Q (.int q s.toks) { s with toks := s.toks + 1 }) :
    wpAny (model prog w) A (call (.builtin "math.floor") [.float x t]) Q E s := by
  subst hx; exact r_floor hA (jul_d (by omega)) (h _ rfl)
theorem r_floor_je (hA : A.handled = none) (hx : x = (Float64.div (Float64.ofInt n) K306)) (b0 : 0 ≤ n) (b1 : n < 500) (h : ∀ q, q = 10000 * n / 306001 → Q (.int q s.toks) { s with toks := s.toks + 1 }) :
    wpAny (model prog w) A (call (.builtin "math.floor") [.float x t]) Q E s := by
  subst hx; exact r_floor hA (jul_e b0 b1) (h _ rfl)
theorem r_floor_jm (hA : A.handled = none) (hx : x = (Float64.mul K306 (Float64.ofInt n))) (b0 : 0 ≤ n) (b1 : n < 20) (h : ∀ q, q = 306001 * n / 10000 → Q (.int q s.toks) { s with toks := s.toks + 1 }) :
    wpAny (model prog w) A (call (.builtin "math.floor") [.float x t]) Q E s := by
  subst hx; exact r_floor hA (jul_m b0 b1) (h _ rfl)
theorem r_floor_g (hA : A.handled = none) {mo d : Int} (hx : x = (gval mo a d)) (hm0 : 1 ≤ mo) (hm1 : mo ≤ 12) (ha0 : -2 ≤ a) (ha1 : a ≤ 0) (hd0 : 1 ≤ d) (hd1 : d ≤ 31)
    (h : ∀ q, q = (367 * mo - 362) / 12 → Q (.int (q + a + d) s.toks) { s with toks := s.toks + 1 }) :
    wpAny (model prog w) A (call (.builtin "math.floor") [.float x t]) Q E s := by
  subst hx; exact r_floor hA (g_floor hm0 hm1 ha0 ha1 hd0 hd1) (h _ rfl)
theorem r_mod_q (hA : A.handled = none) (hx : x = HF a) (hn : 0 < n) (hn2 : n < 2 ^ 40) (bal : -4503599627370496 < a) (bau : a < 4503599627370496) (h : ∀ r, r = a % (2 * n) → 0 ≤ r → r < 2 * n → Q (.float (HF r) s.toks) { s with toks := s.toks + 1 }) : wpAny (model prog w) A (binaryOp .Mod (.float x t) (.int n u)) Q E s :=
  r_mod_fi hA hx hn hn2 bal bau h
theorem r_add_it (h : Q (.int (a + 1) s.toks) { s with toks := s.toks + 1 }) : wpAny (model prog w) A (binaryOp .Add (.int a t) (.bool true)) Q E s := add_int_bool h
theorem r_add_i0 (h : Q (.int (a + 0) s.toks) { s with toks := s.toks + 1 }) : wpAny (model prog w) A (binaryOp .Add (.int a t) (.bool false)) Q E s := add_int_bool h
theorem r_sub_it (h : Q (.int (a - 1) s.toks) { s with toks := s.toks + 1 }) : wpAny (model prog w) A (binaryOp .Sub (.int a t) (.bool true)) Q E s := IntBool.sub_int_bool h
theorem r_sub_i0 (h : Q (.int (a - 0) s.toks) { s with toks := s.toks + 1 }) : wpAny (model prog w) A (binaryOp .Sub (.int a t) (.bool false)) Q E s := IntBool.sub_int_bool h
/-! ints by a written divisor -/
theorem r_mod_ii (hb : 0 < b) (h : Q (.int (a % b) s.toks) { s with toks := s.toks + 1 }) : wpAny (model prog w) A (binaryOp .Mod (.int a t) (.int b u)) Q E s := by
  refine mod_int' (by omega) ?_
  rw [Int.fmod_eq_emod_of_nonneg _ (by omega)]
  exact h
end
end Mine
-- HD
namespace Mine
open PySem PySem.W PyProof.Rows
set_option maxRecDepth 100000
set_option maxHeartbeats 8000000
open_top hd for PySem.Challenge.rw_ak5015_01
end Mine
-- CG
namespace Mine
set_option maxRecDepth 100000
set_option maxHeartbeats 8000000
open PySem PySem.W PyProof.Rows PySem.Calls
theorem still_CG : True := by w_top off; trivial
local macro_rules | `(tactic| walk_at "binaryOp Mod int int") => `(tactic| (k_here; (refine' Mine.r_mod_ii ?ba ?_; (case ba => decide); k_whole)))
local macro_rules | `(tactic| walk_at "ite") => `(tactic| (k_here; k_openite; first
  | (refine ite_pos (by ((try simp only [decide_eq_true_eq, beq_iff_eq, bne_iff_ne, ne_eq]); omega)) ?_)
  | (refine ite_neg (by ((try simp only [decide_eq_true_eq, beq_iff_eq, bne_iff_ne, ne_eq]); omega)) ?_)))
local macro_rules | `(tactic| walk_at "eval Name") => `(tactic| (k_here; (name_kind "globalImplicit"); k_dflt (refine' nameX_K ?F ?X ?T ?e ?_ ?a ?b; (case F => k_asm); (case X => k_asm); (case T => k_asm); (case a => rfl); (case b => rfl); (case e => k_is); k_whole)))
local macro_rules | `(tactic| walk_at "eval Name") => `(tactic| (k_here; (name_kind "local"); k_dflt (refine' nameX_L ?F ?v ?_ ?a ?b; (case F => k_asm); (case a => rfl); (case b => rfl); (case v => first | rfl | assumption); k_whole)))
local macro_rules | `(tactic| walk_at "binaryOp Add int bool") => `(tactic| (k_here; (first | with_reducible refine Mine.r_add_it ?_ | with_reducible refine Mine.r_add_i0 ?_)))
local macro_rules | `(tactic| walk_at "binaryOp Sub int bool") => `(tactic| (k_here; (first | with_reducible refine Mine.r_sub_it ?_ | with_reducible refine Mine.r_sub_i0 ?_)))
local macro_rules | `(tactic| walk_at "eval Call Name") => `(tactic| (k_here; k_dflt (refine Call_ ?_)))
local macro_rules | `(tactic| walk_at "exec If") => `(tactic| (k_here; k_dflt (refine wpAny_If ?_)))
local macro_rules | `(tactic| walk_at "binaryOp Add float float") => `(tactic| (k_here; (with_reducible refine' Mine.r_add_ff ?hx ?hy ?bal ?bau ?bbl ?bbu ?_); k_dflt ((case hx => first | with_reducible exact Mine.c_half | with_reducible exact Mine.c_greg | with_reducible exact Mine.c_isl | with_reducible exact Mine.c_cop | with_reducible exact Mine.c_295 | with_reducible exact Mine.c_1524 | with_reducible rfl); (case hy => first | with_reducible exact Mine.c_half | with_reducible exact Mine.c_greg | with_reducible exact Mine.c_isl | with_reducible exact Mine.c_cop | with_reducible exact Mine.c_295 | with_reducible exact Mine.c_1524 | with_reducible rfl); (case bal => first | decide | (law_clear; omega) | omega); (case bau => first | decide | (law_clear; omega) | omega); (case bbl => first | decide | (law_clear; omega) | omega); (case bbu => first | decide | (law_clear; omega) | omega); k_whole)))
local macro_rules | `(tactic| walk_at "binaryOp Sub float float") => `(tactic| (k_here; (with_reducible refine' Mine.r_sub_ff ?hx ?hy ?bal ?bau ?bbl ?bbu ?_); k_dflt ((case hx => first | with_reducible exact Mine.c_half | with_reducible exact Mine.c_greg | with_reducible exact Mine.c_isl | with_reducible exact Mine.c_cop | with_reducible exact Mine.c_295 | with_reducible exact Mine.c_1524 | with_reducible rfl); (case hy => first | with_reducible exact Mine.c_half | with_reducible exact Mine.c_greg | with_reducible exact Mine.c_isl | with_reducible exact Mine.c_cop | with_reducible exact Mine.c_295 | with_reducible exact Mine.c_1524 | with_reducible rfl); (case bal => first | decide | (law_clear; omega) | omega); (case bau => first | decide | (law_clear; omega) | omega); (case bbl => first | decide | (law_clear; omega) | omega); (case bbu => first | decide | (law_clear; omega) | omega); k_whole)))
local macro_rules | `(tactic| walk_at "inplaceOp Add float float") => `(tactic| (k_here; (with_reducible refine' Mine.r_iadd_ff ?hx ?hy ?bal ?bau ?bbl ?bbu ?_); k_dflt ((case hx => first | with_reducible exact Mine.c_half | with_reducible exact Mine.c_greg | with_reducible exact Mine.c_isl | with_reducible exact Mine.c_cop | with_reducible exact Mine.c_295 | with_reducible exact Mine.c_1524 | with_reducible rfl); (case hy => first | with_reducible exact Mine.c_half | with_reducible exact Mine.c_greg | with_reducible exact Mine.c_isl | with_reducible exact Mine.c_cop | with_reducible exact Mine.c_295 | with_reducible exact Mine.c_1524 | with_reducible rfl); (case bal => first | decide | (law_clear; omega) | omega); (case bau => first | decide | (law_clear; omega) | omega); (case bbl => first | decide | (law_clear; omega) | omega); (case bbu => first | decide | (law_clear; omega) | omega); k_whole)))
local macro_rules | `(tactic| walk_at "binaryOp Add float int") => `(tactic| (k_here; (with_reducible refine' Mine.r_add_xi ?hnl ?hnu ?_); k_dflt ((case hnl => first | decide | (law_clear; omega) | omega); (case hnu => first | decide | (law_clear; omega) | omega); k_whole)))
local macro_rules | `(tactic| walk_at "binaryOp Add float int") => `(tactic| (k_here; (with_reducible refine' Mine.r_add_fi ?hx ?bal ?bau ?bbl ?bbu ?_); k_dflt ((case hx => first | with_reducible exact Mine.c_half | with_reducible exact Mine.c_greg | with_reducible exact Mine.c_isl | with_reducible exact Mine.c_cop | with_reducible exact Mine.c_295 | with_reducible exact Mine.c_1524 | with_reducible rfl); (case bal => first | decide | (law_clear; omega) | omega); (case bau => first | decide | (law_clear; omega) | omega); (case bbl => first | decide | (law_clear; omega) | omega); (case bbu => first | decide | (law_clear; omega) | omega); k_whole)))
local macro_rules | `(tactic| walk_at "binaryOp Sub float int") => `(tactic| (k_here; (with_reducible refine' Mine.r_sub_fi ?hx ?bal ?bau ?bbl ?bbu ?_); k_dflt ((case hx => first | with_reducible exact Mine.c_half | with_reducible exact Mine.c_greg | with_reducible exact Mine.c_isl | with_reducible exact Mine.c_cop | with_reducible exact Mine.c_295 | with_reducible exact Mine.c_1524 | with_reducible rfl); (case bal => first | decide | (law_clear; omega) | omega); (case bau => first | decide | (law_clear; omega) | omega); (case bbl => first | decide | (law_clear; omega) | omega); (case bbu => first | decide | (law_clear; omega) | omega); k_whole)))
local macro_rules | `(tactic| walk_at "inplaceOp Add float int") => `(tactic| (k_here; (with_reducible refine' Mine.r_iadd_fi ?hx ?bal ?bau ?bbl ?bbu ?_); k_dflt ((case hx => first | with_reducible exact Mine.c_half | with_reducible exact Mine.c_greg | with_reducible exact Mine.c_isl | with_reducible exact Mine.c_cop | with_reducible exact Mine.c_295 | with_reducible exact Mine.c_1524 | with_reducible rfl); (case bal => first | decide | (law_clear; omega) | omega); (case bau => first | decide | (law_clear; omega) | omega); (case bbl => first | decide | (law_clear; omega) | omega); (case bbu => first | decide | (law_clear; omega) | omega); k_whole)))
local macro_rules | `(tactic| walk_at "inplaceOp Sub float int") => `(tactic| (k_here; (with_reducible refine' Mine.r_isub_fi ?hx ?bal ?bau ?bbl ?bbu ?_); k_dflt ((case hx => first | with_reducible exact Mine.c_half | with_reducible exact Mine.c_greg | with_reducible exact Mine.c_isl | with_reducible exact Mine.c_cop | with_reducible exact Mine.c_295 | with_reducible exact Mine.c_1524 | with_reducible rfl); (case bal => first | decide | (law_clear; omega) | omega); (case bau => first | decide | (law_clear; omega) | omega); (case bbl => first | decide | (law_clear; omega) | omega); (case bbu => first | decide | (law_clear; omega) | omega); k_whole)))
local macro_rules | `(tactic| walk_at "binaryOp Sub int float") => `(tactic| (k_here; (with_reducible refine' Mine.r_sub_ic ?hnl ?hnu ?_); k_dflt ((case hnl => first | decide | (law_clear; omega) | omega); (case hnu => first | decide | (law_clear; omega) | omega); k_whole)))
local macro_rules | `(tactic| walk_at "binaryOp Add int float") => `(tactic| (k_here; (with_reducible refine' Mine.r_add_if ?hx ?bal ?bau ?bbl ?bbu ?_); k_dflt ((case hx => first | with_reducible exact Mine.c_half | with_reducible exact Mine.c_greg | with_reducible exact Mine.c_isl | with_reducible exact Mine.c_cop | with_reducible exact Mine.c_295 | with_reducible exact Mine.c_1524 | with_reducible rfl); (case bal => first | decide | (law_clear; omega) | omega); (case bau => first | decide | (law_clear; omega) | omega); (case bbl => first | decide | (law_clear; omega) | omega); (case bbu => first | decide | (law_clear; omega) | omega); k_whole)))
local macro_rules | `(tactic| walk_at "binaryOp Sub int float") => `(tactic| (k_here; (with_reducible refine' Mine.r_sub_if ?hx ?bal ?bau ?bbl ?bbu ?_); k_dflt ((case hx => first | with_reducible exact Mine.c_half | with_reducible exact Mine.c_greg | with_reducible exact Mine.c_isl | with_reducible exact Mine.c_cop | with_reducible exact Mine.c_295 | with_reducible exact Mine.c_1524 | with_reducible rfl); (case bal => first | decide | (law_clear; omega) | omega); (case bau => first | decide | (law_clear; omega) | omega); (case bbl => first | decide | (law_clear; omega) | omega); (case bbu => first | decide | (law_clear; omega) | omega); k_whole)))
local macro_rules | `(tactic| walk_at "binaryOp Mult float int") => `(tactic| (k_here; (with_reducible refine' Mine.r_mul_xi ?hnl ?hnu ?_); k_dflt ((case hnl => first | decide | (law_clear; omega) | omega); (case hnu => first | decide | (law_clear; omega) | omega); k_whole)))
local macro_rules | `(tactic| walk_at "binaryOp Mult float int") => `(tactic| (k_here; (with_reducible refine' Mine.r_mul_ci ?hx ?ha ?ha2 ?bnl ?bnu ?_); k_dflt ((case hx => first | with_reducible exact Mine.c_half | with_reducible exact Mine.c_greg | with_reducible exact Mine.c_isl | with_reducible exact Mine.c_cop | with_reducible exact Mine.c_295 | with_reducible exact Mine.c_1524 | with_reducible rfl); (case ha => decide); (case ha2 => decide); (case bnl => first | decide | (law_clear; omega) | omega); (case bnu => first | decide | (law_clear; omega) | omega); k_whole)))
local macro_rules | `(tactic| walk_at "binaryOp Mult float int") => `(tactic| (k_here; (with_reducible refine' Mine.r_mul_fi ?hx ?hn ?hn2 ?bal ?bau ?_); k_dflt ((case hx => first | with_reducible exact Mine.c_half | with_reducible exact Mine.c_greg | with_reducible exact Mine.c_isl | with_reducible exact Mine.c_cop | with_reducible exact Mine.c_295 | with_reducible exact Mine.c_1524 | with_reducible rfl); (case hn => decide); (case hn2 => decide); (case bal => first | decide | (law_clear; omega) | omega); (case bau => first | decide | (law_clear; omega) | omega); k_whole)))
local macro_rules | `(tactic| walk_at "binaryOp Mult int float") => `(tactic| (k_here; (with_reducible refine' Mine.r_mul_if ?hx ?hn ?hn2 ?bal ?bau ?_); k_dflt ((case hx => first | with_reducible exact Mine.c_half | with_reducible exact Mine.c_greg | with_reducible exact Mine.c_isl | with_reducible exact Mine.c_cop | with_reducible exact Mine.c_295 | with_reducible exact Mine.c_1524 | with_reducible rfl); (case hn => decide); (case hn2 => decide); (case bal => first | decide | (law_clear; omega) | omega); (case bau => first | decide | (law_clear; omega) | omega); k_whole)))
local macro_rules | `(tactic| walk_at "binaryOp Mod float int") => `(tactic| (k_here; (with_reducible refine' Mine.r_mod_q ?hA ?hx ?hn ?hn2 ?bal ?bau ?_); k_dflt ((case hA => exact rfl); (case hx => first | with_reducible exact Mine.c_half | with_reducible exact Mine.c_greg | with_reducible exact Mine.c_isl | with_reducible exact Mine.c_cop | with_reducible exact Mine.c_295 | with_reducible exact Mine.c_1524 | with_reducible rfl); (case hn => decide); (case hn2 => decide); (case bal => first | decide | (law_clear; omega) | omega); (case bau => first | decide | (law_clear; omega) | omega); k_whole); intro r9 hr9 hr0 hr1))
local macro_rules | `(tactic| walk_at "binaryOp Div float int") => `(tactic| (k_here; (with_reducible refine' Mine.r_div_fi ?hA ?hn ?hn2 ?_); k_dflt ((case hA => exact rfl); (case hn => decide); (case hn2 => decide); k_whole)))
local macro_rules | `(tactic| walk_at "binaryOp Div float float") => `(tactic| (k_here; (with_reducible refine' Mine.r_div_fc ?hA ?hz ?_); k_dflt ((case hA => exact rfl); (case hz => decide +kernel); k_whole)))
local macro_rules | `(tactic| walk_at "binaryOp Div float float") => `(tactic| (k_here; (with_reducible refine' Mine.r_div_ff ?hA ?hy ?hb ?hb2 ?_); k_dflt ((case hA => exact rfl); (case hy => first | with_reducible exact Mine.c_half | with_reducible exact Mine.c_greg | with_reducible exact Mine.c_isl | with_reducible exact Mine.c_cop | with_reducible exact Mine.c_295 | with_reducible exact Mine.c_1524 | with_reducible rfl); (case hb => decide); (case hb2 => decide); k_whole)))
local macro_rules | `(tactic| walk_at "binaryOp Div int float") => `(tactic| (k_here; (with_reducible refine' Mine.r_div_ic ?hA ?hnl ?hnu ?hz ?_); k_dflt ((case hA => exact rfl); (case hnl => first | decide | (law_clear; omega) | omega); (case hnu => first | decide | (law_clear; omega) | omega); (case hz => decide +kernel); k_whole)))
local macro_rules | `(tactic| walk_at "binaryOp Div int int") => `(tactic| (k_here; (with_reducible refine' Mine.r_div_ii ?hA ?hb ?hal ?hau ?_); k_dflt ((case hA => exact rfl); (case hb => decide); (case hal => first | decide | (law_clear; omega) | omega); (case hau => first | decide | (law_clear; omega) | omega); k_whole)))
local macro_rules | `(tactic| walk_at "call builtin:math.floor") => `(tactic| (k_here; (with_reducible refine' Mine.r_floor_g ?hA ?hx ?hm0 ?hm1 ?ha0 ?ha1 ?hd0 ?hd1 ?_); k_dflt ((case hA => exact rfl); (case hx => first | with_reducible exact rfl | exact rfl); (case hm0 => first | decide | (law_clear; omega) | omega); (case hm1 => first | decide | (law_clear; omega) | omega); (case ha0 => first | decide | (law_clear; omega) | omega); (case ha1 => first | decide | (law_clear; omega) | omega); (case hd0 => first | decide | (law_clear; omega) | omega); (case hd1 => first | decide | (law_clear; omega) | omega); k_whole); intro q9 hq0))
local macro_rules | `(tactic| walk_at "call builtin:math.floor") => `(tactic| (k_here; (with_reducible refine' Mine.r_floor_jm ?hA ?hx ?b0 ?b1 ?_); k_dflt ((case hA => exact rfl); (case hx => first | with_reducible exact rfl | exact rfl); (case b0 => first | decide | (law_clear; omega) | omega); (case b1 => first | decide | (law_clear; omega) | omega); k_whole); intro q9 hq0))
local macro_rules | `(tactic| walk_at "call builtin:math.floor") => `(tactic| (k_here; (with_reducible refine' Mine.r_floor_je ?hA ?hx ?b0 ?b1 ?_); k_dflt ((case hA => exact rfl); (case hx => first | with_reducible exact rfl | exact rfl); (case b0 => first | decide | (law_clear; omega) | omega); (case b1 => first | decide | (law_clear; omega) | omega); k_whole); intro q9 hq0))
local macro_rules | `(tactic| walk_at "call builtin:math.floor") => `(tactic| (k_here; (with_reducible refine' Mine.r_floor_jd ?hA ?hx ?bnl ?bnu ?_); k_dflt ((case hA => exact rfl); (case hx => first | with_reducible exact rfl | exact rfl); (case bnl => first | decide | (law_clear; omega) | omega); (case bnu => first | decide | (law_clear; omega) | omega); k_whole); intro q9 hq0))
local macro_rules | `(tactic| walk_at "call builtin:math.floor") => `(tactic| (k_here; (with_reducible refine' Mine.r_floor_jc ?hA ?hx ?bnl ?bnu ?_); k_dflt ((case hA => exact rfl); (case hx => first | with_reducible exact rfl | exact rfl); (case bnl => first | decide | (law_clear; omega) | omega); (case bnu => first | decide | (law_clear; omega) | omega); k_whole); intro q9 hq0))
local macro_rules | `(tactic| walk_at "call builtin:math.floor") => `(tactic| (k_here; (with_reducible refine' Mine.r_floor_ii ?hA ?hb ?hb2 ?bal ?bau ?k1 ?k2 ?_); k_dflt ((case hA => exact rfl); (case hb => decide); (case hb2 => decide); (case bal => first | decide | (law_clear; omega) | omega); (case bau => first | decide | (law_clear; omega) | omega); (case k1 => first | decide | (law_clear; omega) | omega); (case k2 => first | decide | (law_clear; omega) | omega); k_whole); intro q9 hq0))
local macro_rules | `(tactic| walk_at "call builtin:math.floor") => `(tactic| (k_here; (with_reducible refine' Mine.r_floor_div ?hA ?hb ?hb2 ?bal ?bau ?k1 ?k2 ?_); k_dflt ((case hA => exact rfl); (case hb => decide); (case hb2 => decide); (case bal => first | decide | (law_clear; omega) | omega); (case bau => first | decide | (law_clear; omega) | omega); (case k1 => first | decide | (law_clear; omega) | omega); (case k2 => first | decide | (law_clear; omega) | omega); k_whole); intro q9 hq0))
local macro_rules | `(tactic| walk_at "call builtin:math.floor") => `(tactic| (k_here; (with_reducible refine' Mine.r_floor_hf ?hA ?bal ?bau ?_); k_dflt ((case hA => exact rfl); (case bal => first | decide | (law_clear; omega) | omega); (case bau => first | decide | (law_clear; omega) | omega); k_whole); intro q9 hq0))
local macro_rules | `(tactic| walk_at "call builtin:math.ceil") => `(tactic| (k_here; (with_reducible refine' Mine.r_ceil_div ?hA ?hb ?hb2 ?bal ?bau ?k1 ?k2 ?_); k_dflt ((case hA => exact rfl); (case hb => decide); (case hb2 => decide); (case bal => first | decide | (law_clear; omega) | omega); (case bau => first | decide | (law_clear; omega) | omega); (case k1 => first | decide | (law_clear; omega) | omega); (case k2 => first | decide | (law_clear; omega) | omega); k_whole); intro q9 hq0 hq1))
local macro_rules | `(tactic| walk_at "call builtin:math.ceil") => `(tactic| (k_here; (with_reducible refine' Mine.r_ceil_hf ?hA ?bal ?bau ?_); k_dflt ((case hA => exact rfl); (case bal => first | decide | (law_clear; omega) | omega); (case bau => first | decide | (law_clear; omega) | omega); k_whole); intro q9 hq0 hq1))
local macro_rules | `(tactic| walk_at "call type:int") => `(tactic| (k_here; (with_reducible refine' Mine.r_trunc_hf ?hA ?bal ?bau ?he ?_); k_dflt ((case hA => exact rfl); (case bal => first | decide | (law_clear; omega) | omega); (case bau => first | decide | (law_clear; omega) | omega); (case he => first | decide | (law_clear; omega) | omega); k_whole); intro q9 hq0))
local macro_rules | `(tactic| walk_at "compareOp Lt float int") => `(tactic| (k_here; (with_reducible refine' Mine.r_lt_fi ?hx ?bal ?bau ?_); k_dflt ((case hx => first | with_reducible exact Mine.c_half | with_reducible exact Mine.c_greg | with_reducible exact Mine.c_isl | with_reducible exact Mine.c_cop | with_reducible exact Mine.c_295 | with_reducible exact Mine.c_1524 | with_reducible rfl); (case bal => first | decide | (law_clear; omega) | omega); (case bau => first | decide | (law_clear; omega) | omega); k_whole)))
local macro_rules | `(tactic| walk_at "compareOp NotEq float float") => `(tactic| (k_here; (with_reducible refine' Mine.r_ne_ff ?hx ?hy ?bal ?bau ?bbl ?bbu ?hab ?_); k_dflt ((case hx => first | with_reducible exact Mine.c_half | with_reducible exact Mine.c_greg | with_reducible exact Mine.c_isl | with_reducible exact Mine.c_cop | with_reducible exact Mine.c_295 | with_reducible exact Mine.c_1524 | with_reducible rfl); (case hy => first | with_reducible exact Mine.c_half | with_reducible exact Mine.c_greg | with_reducible exact Mine.c_isl | with_reducible exact Mine.c_cop | with_reducible exact Mine.c_295 | with_reducible exact Mine.c_1524 | with_reducible rfl); (case bal => first | decide | (law_clear; omega) | omega); (case bau => first | decide | (law_clear; omega) | omega); (case bbl => first | decide | (law_clear; omega) | omega); (case bbu => first | decide | (law_clear; omega) | omega); (case hab => omega); k_whole)))
/-- the call of the def at f, from a frame as KE/KCallBy's contracts have it -/
abbrev Goes (w : World) (dp un : Nat) (gd : Option (List Code)) (cn : Str) (cs : Scope) (L a : Addr) (ccd : Value) (cl : List (Str × Addr)) (outer : List Env) (f : Addr) (vs : List Value) (Q E : Value → Shared → Prop) (s : Shared) : Prop :=
  wpAny (model PySem.Challenge.rw_ak5015_01.row.prog w) (ktrTop dp un gd cn cs L a ccd cl outer) (call (.ref f) vs) Q E s
abbrev RetV (h₀ : Heap) (L : Addr) (m : Str → Option Value) (news : List (Addr × Obj)) (s : Shared) (Q : Value → Shared → Prop) (R : Tok → Value) : Prop :=
  ∀ (t : Tok) (h' : Heap) (tk' : Nat), Fr h₀ L h' m → News h₀ L h' news → Q (R t) { s with heap := h', toks := tk' }
abbrev tup3 (y m d : Int) (t1 t2 t3 : Tok) (c : Nat) : Obj := { cls := .type "tuple", data := .seq #[.int y t1, .int m t2, .int d t3] c }
abbrev RetT (h₀ : Heap) (L : Addr) (m : Str → Option Value) (news : List (Addr × Obj)) (s : Shared) (Q : Value → Shared → Prop) (y mo d : Int) : Prop :=
  ∀ (D : Addr) (t1 t2 t3 : Tok) (c : Nat) (h' : Heap) (tk' : Nat), Fr h₀ L h' m → News h₀ L h' ((D, tup3 y mo d t1 t2 t3 c) :: news) → AllLt D news → Q (.ref D) { s with heap := h', toks := tk' }
theorem retV {h₀ h' : Heap} {L : Addr} {m : Str → Option Value} {news : List (Addr × Obj)} {s : Shared} {Q : Value → Shared → Prop} {R : Tok → Value} {v : Value} (t : Tok) {tk' : Nat}
   (hret : RetV h₀ L m news s Q R) (e : v = R t) (F : Fr h₀ L h' m) (N : News h₀ L h' news) : Q v { s with heap := h', toks := tk' } := by
  subst e
  exact hret t h' tk' F N
theorem retF {h₀ h' : Heap} {L : Addr} {m : Str → Option Value} {news : List (Addr × Obj)} {s : Shared} {Q : Value → Shared → Prop} {n k : Int} {t : Tok} {tk' : Nat}
   (hret : RetV h₀ L m news s Q (fun t => .float (HF k) t)) (e : n = k) (F : Fr h₀ L h' m) (N : News h₀ L h' news) : Q (.float (HF n) t) { s with heap := h', toks := tk' } := by
  subst e
  exact hret t h' tk' F N
theorem retI {h₀ h' : Heap} {L : Addr} {m : Str → Option Value} {news : List (Addr × Obj)} {s : Shared} {Q : Value → Shared → Prop} {n k : Int} {t : Tok} {tk' : Nat}
   (hret : RetV h₀ L m news s Q (fun t => .int k t)) (e : n = k) (F : Fr h₀ L h' m) (N : News h₀ L h' news) : Q (.int n t) { s with heap := h', toks := tk' } := by
  subst e
  exact hret t h' tk' F N
/-- one in the leap years -/
def lpN (y : Int) : Int := if y % 4 = 0 ∧ (y % 100 ≠ 0 ∨ y % 400 = 0) then 1 else 0
theorem lpN_1 {y : Int} (h : y % 4 = 0 ∧ (y % 100 ≠ 0 ∨ y % 400 = 0)) : lpN y = 1 := if_pos h
theorem lpN_0 {y : Int} (h : ¬ (y % 4 = 0 ∧ (y % 100 ≠ 0 ∨ y % 400 = 0))) : lpN y = 0 := if_neg h
theorem lpN_b (y : Int) : 0 ≤ lpN y ∧ lpN y ≤ 1 := by unfold lpN; split <;> omega
theorem in_four {prog : Program} {w : World} {A : Around} {E : Value → Shared → Prop} {s : Shared} {tu : Addr} {items : Array Value} {x : Int} {u : Tok} {Q : Value → Shared → Prop} (ht : IsTup s.heap tu items) (hi : IntsAre items.toList [4, 6, 9, 11])
    (h1 : x = 4 ∨ x = 6 ∨ x = 9 ∨ x = 11 → Q (.bool true) s) (h2 : x ≠ 4 ∧ x ≠ 6 ∧ x ≠ 9 ∧ x ≠ 11 → Q (.bool false) s) : wpAny (model prog w) A (compareOp .In (.int x u) (.ref tu)) Q E s := by
  refine in_tuple_ints ht hi ?_
  by_cases h : x = 4 ∨ x = 6 ∨ x = 9 ∨ x = 11
  · have e : ([4, 6, 9, 11] : List Int).any (· == x) = true := by
      rcases h with rfl | rfl | rfl | rfl <;> rfl
    rw [e]; exact h1 h
  · have e : ([4, 6, 9, 11] : List Int).any (· == x) = false := by
      simp only [List.any_cons, List.any_nil, Bool.or_false, Bool.or_eq_false_iff, beq_eq_false_iff_ne]; omega
    rw [e]; exact h2 (by omega)
theorem in_four_are : ∀ {t1 t2 t3 t4 : Tok}, IntsAre (#[Value.int 4 t1, .int 6 t2, .int 9 t3, .int 11 t4] : Array Value).toList [4, 6, 9, 11] := by
  intros; exact .cons _ _ (.cons _ _ (.cons _ _ (.cons _ _ .nil)))
local macro_rules | `(tactic| walk_at "compareOp In int ref") => `(tactic| (k_here; k_dflt (refine' Mine.in_four (tupK ?X ?l) ?i ?_ ?_; (case X => k_in); (case l => k_is); (case i => exact in_four_are); all_goals intro hc)))
theorem cyc {y a c k e : Int} (hy : y - 1 = 400 * a + 100 * c + 4 * k + e) (c0 : 0 ≤ c) (c3 : c ≤ 3) (k0 : 0 ≤ k) (k24 : k ≤ 24) (e0 : 0 ≤ e) (e3 : e ≤ 3) :
    (y - 1) / 4 = 100 * a + 25 * c + k ∧ (y - 1) / 100 = 4 * a + c ∧ (y - 1) / 400 = a := by omega
theorem dm {x m q : Int} (hm : 0 < m) (hq : q = (2 * x) / (2 * m)) : ∃ r, x = m * q + r ∧ 0 ≤ r ∧ r < m ∧ (2 * x) % (2 * m) = 2 * r := by
  refine ⟨x % m, ?_, Int.emod_nonneg _ (Int.ne_of_gt hm), Int.emod_lt_of_pos _ hm, Int.mul_emod_mul_of_pos _ _ (by decide)⟩
  rw [hq, Int.mul_ediv_mul_of_pos _ _ (by decide : (0 : Int) < 2)]
  exact (Int.mul_ediv_add_emod x m).symm
theorem year_ok {n a r1 c r2 k r3 e y : Int} {D : Int} (hD : D = 2 * (n - 1721426)) (ha : a = D / (2 * 146097)) (hr1 : r1 = D % (2 * 146097)) (hc : c = r1 / (2 * 36524)) (hr2 : r2 = r1 % (2 * 36524)) (hk : k = r2 / (2 * 1461)) (hr3 : r3 = r2 % (2 * 1461)) (he : e = r3 / (2 * 365))
    (hn1 : -5000000000 ≤ n) (hn2 : n ≤ 5000000000)
    (hy : (c = 4 ∧ y = a * 400 + c * 100 + k * 4 + e) ∨ (c ≠ 4 ∧ e = 4 ∧ y = a * 400 + c * 100 + k * 4 + e) ∨ (c ≠ 4 ∧ e ≠ 4 ∧ y = a * 400 + c * 100 + k * 4 + e + 1)) :
    -20000000 ≤ y ∧ y ≤ 20000000 ∧ 365 * (y - 1) + (y - 1) / 4 - (y - 1) / 100 + (y - 1) / 400 + 1721425 < n ∧ n ≤ 365 * (y - 1) + (y - 1) / 4 - (y - 1) / 100 + (y - 1) / 400 + 1721425 + 365 + lpN y := by
  subst hD
  obtain ⟨s1, f1, g1, g1', m1⟩ := dm (by decide) ha
  rw [m1] at hr1
  subst hr1
  obtain ⟨s2, f2, g2, g2', m2⟩ := dm (by decide) hc
  rw [m2] at hr2
  subst hr2
  obtain ⟨s3, f3, g3, g3', m3⟩ := dm (by decide) hk
  rw [m3] at hr3
  subst hr3
  obtain ⟨s4, f4, g4, g4', m4⟩ := dm (by decide) he
  clear ha hc hk he m1 m2 m3 m4
  have c0 : 0 ≤ c ∧ c ≤ 4 := by omega
  have k0 : 0 ≤ k ∧ k ≤ 24 := by omega
  have e0 : 0 ≤ e ∧ e ≤ 4 := by omega
  have a0 : -40000 ≤ a ∧ a ≤ 40000 := by clear hy; omega
  have key : ∀ C K E' : Int, 0 ≤ C → C ≤ 3 → 0 ≤ K → K ≤ 24 → 0 ≤ E' → E' ≤ 3 → y - 1 = 400 * a + 100 * C + 4 * K + E' → 365 * (y - 1) + (y - 1) / 4 - (y - 1) / 100 + (y - 1) / 400 = 146097 * a + 36524 * C + 1461 * K + 365 * E' := by
    clear hy
    intro C K E' a1 a2 a3 a4 a5 a6 a7
    obtain ⟨b1, b2, b3⟩ := cyc a7 a1 a2 a3 a4 a5 a6
    rw [b1, b2, b3, a7]
    omega
  have l0 : 0 ≤ lpN y := by unfold lpN; split <;> decide
  have hyb : -20000000 ≤ y ∧ y ≤ 20000000 := by clear key; omega
  refine ⟨hyb.1, hyb.2, ?_⟩
  rcases hy with ⟨h, hy⟩ | ⟨h, h2, hy⟩ | ⟨h, h2, hy⟩
  · have z : s2 = 0 := by clear key l0; omega
    have z : k = 0 := by clear key l0; omega
    have z : e = 0 := by clear key l0; omega
    have := key 3 24 3 (by decide) (by decide) (by decide) (by decide) (by decide) (by decide) (by omega)
    have hl : lpN y = 1 := if_pos (by clear key this; omega)
    clear key
    rw [this, hl]; omega
  · have z2 : k ≤ 23 := by clear key l0; omega
    have := key c k 3 (by omega) (by omega) (by omega) (by omega) (by decide) (by decide) (by omega)
    have hl : lpN y = 1 := if_pos (by clear key this; omega)
    clear key
    rw [this, hl]; omega
  · have c3 : c ≤ 3 := by clear key hy f1 f2 f3 f4; omega
    have e3 : e ≤ 3 := by clear key hy f1 f2 f3 f4; omega
    have := key c k e c0.1 c3 k0.1 k0.2 e0.1 e3 (by rw [hy]; clear key f1 f2 f3 f4 hyb hy; omega)
    clear key hy hyb
    rw [this]
    clear this
    constructor
    · omega
    · have : n ≤ 146097 * a + 36524 * c + 1461 * k + 365 * e + 1721425 + 365 := by clear l0; omega
      exact Int.le_trans this (Int.le_add_of_nonneg_right l0)
def bodyOf (i : Nat) : List Stmt := match PySem.Challenge.pw_ak5015_01.main.body[i]? with
  | some (.FunctionDef _ _ b _ _ _ _ _ _ _) => b
  | _ => []
def scopeOf (i : Nat) : Scope := match PySem.Challenge.pw_ak5015_01.main.body[i]? with
  | some (.FunctionDef _ _ _ _ _ _ c _ _ _) => c
  | _ => { kind := .function, names := [], isGenerator := false, isCoroutine := false, more := [] }
section
variable {w : World} {p : Program} {loose : List Str} {mean : ExcName → Option Value} {mg mb : Str → Option Value} {dp un : Nat} {gd : Option (List Code)} {cn : Str} {cs : Scope} {a : Addr} {ccd : Value} {cl : List (Str × Addr)} {outer : List Env} {A₀ : Around} {base h₀ : Heap} {L : Addr} {m : Str → Option Value} {news : List (Addr × Obj)} {s : Shared} {Q E : Value → Shared → Prop}
theorem isleap_c (y : Int) (t : Tok) (B : Below A₀ base outer h₀) (F : Fr h₀ L s.heap m) (X : (hd.heap_39 w.params).In h₀) (N : News h₀ L s.heap news) (T : Top p loose mean mg mb h₀) (hk : cs.kind = .function)
    (hdp : dp + 1 < recursionLimit) (hun : un + 8 < cLine)
   
    (h1 : lpN y = 1 → RetV h₀ L m news s Q fun _ => .bool true)
    (h2 : lpN y = 0 → RetV h₀ L m news s Q fun _ => .bool false) :
    Goes w dp un gd cn cs L a ccd cl outer 50 [.int y t] Q E s := by
  unfold Goes
  revert X; k_fill; intro X
  refine wpAny_call ?_
  k_dflt (refine' code_def (binds := [(Str.ofString "year", .int y t)]) ?k1 ?k2 ?k3 ?k4 ?k5 ?kA ?kF ?kK ?k6 ?k7 ?k8 ?k9 ?kB ?_ ?c2 ?c3 ?c4 ?c5; (case kA => exact rfl); (case kF => exact rfl); (case kK => assumption); (case k1 => k_asm); (case k2 => k_asm); (case k3 => k_asm); (case k4 => k_asm); (case k5 => k_asm); (case k6 => k_is); (case k7 => k_is); (case k8 => (dsimp only [ktrTop]; omega)); (case k9 => exact BindsTo.of_eq rfl); (case c5 => decide); (case kB => exact locs rfl); (case c2 => exact rfl); (case c3 => exact rfl); (case c4 => exact rfl); k_whole; intro g' L' h' FG' F' N' B' X' T'; (try dsimp only); (try k_fold))
  k_steps
  · have hc : lpN y = 1 := lpN_1 (by omega)
    have he : (y % 100 != 0) = true := by simp only [bne_iff_ne]; omega
    rw [he]
    exact retV (s := s) 0 (h1 hc) rfl (by k_asm) (by k_asm)
  · by_cases h : y % 400 = 0
    · have hc : lpN y = 1 := lpN_1 (by omega)
      have he : (y % 400 == 0) = true := by simp only [beq_iff_eq]; omega
      rw [he]
      exact retV (s := s) 0 (h1 hc) rfl (by k_asm) (by k_asm)
    · have hc : lpN y = 0 := lpN_0 (by omega)
      have he : (y % 400 == 0) = false := by simp only [beq_eq_false_iff_ne]; omega
      rw [he]
      exact retV (s := s) 0 (h2 hc) rfl (by k_asm) (by k_asm)
  · have hc : lpN y = 0 := lpN_0 (by omega)
    have he : (y % 4 == 0) = false := by simp only [beq_eq_false_iff_ne]; omega
    rw [he]
    exact retV (s := s) 0 (h2 hc) rfl (by k_asm) (by k_asm)
local macro_rules | `(tactic| walk_at "call ref") => `(tactic| (k_here; (with_reducible show wpAny _ _ (call (Value.ref 50) _) _ _ _); k_dflt (refine' Mine.isleap_c _ _ ?k1 ?k2 ?k3 ?k4 ?k5 ?kK ?kd ?ku  ?_ ?_; (case k1 => k_asm); (case k2 => k_asm); (case k3 => k_asm); (case k4 => k_asm); (case k5 => k_asm); (case kK => first | exact rfl | assumption); (case kd => (dsimp only [ktrTop]; omega)); (case ku => (dsimp only [ktrTop]; omega)); all_goals (intro hc t9 h9 tk9 F9 N9; (try simp only [AllLt, and_true] at l9); (try dsimp only); (try k_sweep); (try k_fold)))))
theorem legal_g (y mo d : Int) (t1 t2 t3 : Tok) (B : Below A₀ base outer h₀) (F : Fr h₀ L s.heap m) (X : (hd.heap_39 w.params).In h₀) (N : News h₀ L s.heap news) (T : Top p loose mean mg mb h₀) (hk : cs.kind = .function)
    (hdp : dp + 3 < recursionLimit) (hun : un + 24 < cLine)
    (hd1 : 1 ≤ d) (hm2 : mo = 2 → d ≤ 28 + lpN y) (hm3 : mo = 4 ∨ mo = 6 ∨ mo = 9 ∨ mo = 11 → d ≤ 30) (hm4 : d ≤ 31)
    (h1 : RetV h₀ L m news s Q fun _ => .bool true) :
    Goes w dp un gd cn cs L a ccd cl outer 57 [.int y t1, .int mo t2, .int d t3] Q E s := by
  unfold Goes
  revert X; k_fill; intro X
  refine wpAny_call ?_
  k_dflt (refine' code_def (binds := [(Str.ofString "year", .int y t1), (Str.ofString "month", .int mo t2), (Str.ofString "day", .int d t3)]) ?k1 ?k2 ?k3 ?k4 ?k5 ?kA ?kF ?kK ?k6 ?k7 ?k8 ?k9 ?kB ?_ ?c2 ?c3 ?c4 ?c5; (case kA => exact rfl); (case kF => exact rfl); (case kK => assumption); (case k1 => k_asm); (case k2 => k_asm); (case k3 => k_asm); (case k4 => k_asm); (case k5 => k_asm); (case k6 => k_is); (case k7 => k_is); (case k8 => (dsimp only [ktrTop]; omega)); (case k9 => exact BindsTo.of_eq rfl); (case c5 => decide); (case kB => exact locs rfl); (case c2 => exact rfl); (case c3 => exact rfl); (case c4 => exact rfl); k_whole; intro g' L' h' FG' F' N' B' X' T'; (try dsimp only); (try k_fold))
  k_steps
  all_goals exact retV (s := s) 0 h1 rfl (by k_asm) (by k_asm)
local macro_rules | `(tactic| walk_at "call ref") => `(tactic| (k_here; (with_reducible show wpAny _ _ (call (Value.ref 57) _) _ _ _); k_dflt (refine' Mine.legal_g _ _ _ _ _ _ ?k1 ?k2 ?k3 ?k4 ?k5 ?kK ?kd ?ku ?hd1 ?hm2 ?hm3 ?hm4 ?_; (case k1 => k_asm); (case k2 => k_asm); (case k3 => k_asm); (case k4 => k_asm); (case k5 => k_asm); (case kK => first | exact rfl | assumption); (case kd => (dsimp only [ktrTop]; omega)); (case ku => (dsimp only [ktrTop]; omega)); (case hd1 => first | omega | assumption); (case hm2 => first | omega | assumption); (case hm3 => first | omega | assumption); (case hm4 => first | omega | assumption); all_goals (intro t9 h9 tk9 F9 N9; (try simp only [AllLt, and_true] at l9); (try dsimp only); (try k_sweep); (try k_fold)))))
theorem tojd_g (y mo d : Int) (t1 t2 t3 : Tok) (B : Below A₀ base outer h₀) (F : Fr h₀ L s.heap m) (X : (hd.heap_39 w.params).In h₀) (N : News h₀ L s.heap news) (T : Top p loose mean mg mb h₀) (hk : cs.kind = .function)
    (hdp : dp + 5 < recursionLimit) (hun : un + 40 < cLine)
    (hy1 : -30000000 ≤ y) (hy2 : y ≤ 30000000) (hmo1 : 1 ≤ mo) (hmo2 : mo ≤ 12) (hd1 : 1 ≤ d) (hm2 : mo = 2 → d ≤ 28 + lpN y) (hm3 : mo = 4 ∨ mo = 6 ∨ mo = 9 ∨ mo = 11 → d ≤ 30) (hm4 : d ≤ 31)
    (h1 : ∀ M, (mo ≤ 2 → M = 365 * (y - 1) + (y - 1) / 4 - (y - 1) / 100 + (y - 1) / 400 + 1721425 + (367 * mo - 362) / 12 + d) → (2 < mo → M = 365 * (y - 1) + (y - 1) / 4 - (y - 1) / 100 + (y - 1) / 400 + 1721425 + (367 * mo - 362) / 12 + d - 2 + lpN y) → RetV h₀ L m news s Q fun t => .float (HF (2 * M - 1)) t) :
    Goes w dp un gd cn cs L a ccd cl outer 64 [.int y t1, .int mo t2, .int d t3] Q E s := by
  unfold Goes
  revert X; k_fill; intro X
  refine wpAny_call ?_
  k_dflt (refine' code_def (binds := [(Str.ofString "year", .int y t1), (Str.ofString "month", .int mo t2), (Str.ofString "day", .int d t3)]) ?k1 ?k2 ?k3 ?k4 ?k5 ?kA ?kF ?kK ?k6 ?k7 ?k8 ?k9 ?kB ?_ ?c2 ?c3 ?c4 ?c5; (case kA => exact rfl); (case kF => exact rfl); (case kK => assumption); (case k1 => k_asm); (case k2 => k_asm); (case k3 => k_asm); (case k4 => k_asm); (case k5 => k_asm); (case k6 => k_is); (case k7 => k_is); (case k8 => (dsimp only [ktrTop]; omega)); (case k9 => exact BindsTo.of_eq rfl); (case c5 => decide); (case kB => exact locs rfl); (case c2 => exact rfl); (case c3 => exact rfl); (case c4 => exact rfl); k_whole; intro g' L' h' FG' F' N' B' X' T'; (try dsimp only); (try k_fold))
  k_steps
  · have hr := h1 (365 * (y - 1) + (y - 1) / 4 - (y - 1) / 100 + (y - 1) / 400 + 1721425 + (367 * mo - 362) / 12 + d) (fun _ => rfl) (fun h => absurd h (by omega))
    exact retF (s := s) hr (by omega) (by k_asm) (by k_asm)
  all_goals
    have hr := h1 (365 * (y - 1) + (y - 1) / 4 - (y - 1) / 100 + (y - 1) / 400 + 1721425 + (367 * mo - 362) / 12 + d - 2 + lpN y) (fun h => absurd h (by omega)) (fun _ => rfl)
    exact retF (s := s) hr (by omega) (by k_asm) (by k_asm)
local macro_rules | `(tactic| walk_at "call ref") => `(tactic| (k_here; (with_reducible show wpAny _ _ (call (Value.ref 64) _) _ _ _); k_dflt (refine' Mine.tojd_g _ _ _ _ _ _ ?k1 ?k2 ?k3 ?k4 ?k5 ?kK ?kd ?ku ?hy1 ?hy2 ?hmo1 ?hmo2 ?hd1 ?hm2 ?hm3 ?hm4 ?_; (case k1 => k_asm); (case k2 => k_asm); (case k3 => k_asm); (case k4 => k_asm); (case k5 => k_asm); (case kK => first | exact rfl | assumption); (case kd => (dsimp only [ktrTop]; omega)); (case ku => (dsimp only [ktrTop]; omega)); (case hy1 => first | omega | assumption); (case hy2 => first | omega | assumption); (case hmo1 => first | omega | assumption); (case hmo2 => first | omega | assumption); (case hd1 => first | omega | assumption); (case hm2 => first | omega | assumption); (case hm3 => first | omega | assumption); (case hm4 => first | omega | assumption); all_goals (intro M9 hM1 hM2 t9 h9 tk9 F9 N9; (first | (replace hM1 := hM1 (by omega); clear hM2) | (replace hM2 := hM2 (by omega); clear hM1) | skip); (try simp only [AllLt, and_true] at l9); (try dsimp only); (try k_sweep); (try k_fold)))))
theorem rest_g (y n : Int) (tY tW : Tok) (g : Heap) (L' : Addr) (m' : Str → Option Value) (QQ : Flow → Shared → Prop) (EE : Value → Shared → Prop)
    (B' : Below (ktrTop dp un gd cn cs L a ccd cl outer) base (envX cn cs L a ccd cl :: outer) g) (F' : Fr g L' s.heap m') (X' : (hd.heap_39 w.params).In g) (N' : News g L' s.heap news) (T' : Top p loose mean mg mb g)
    (hdp : dp + 7 < recursionLimit) (hun : un + 60 < cLine)
    (my : m' (Str.ofString "year") = some (.int y tY)) (W : Int) (mw : m' (Str.ofString "wjd") = some (.float (HF W) tW)) (hW : W = 2 * n - 1)
    (hY : -20000000 ≤ y ∧ y ≤ 20000000 ∧ 365 * (y - 1) + (y - 1) / 4 - (y - 1) / 100 + (y - 1) / 400 + 1721425 < n ∧ n ≤ 365 * (y - 1) + (y - 1) / 4 - (y - 1) / 100 + (y - 1) / 400 + 1721425 + 365 + lpN y)
    (hret : ∀ mo d, 1 ≤ mo → mo ≤ 12 → 1 ≤ d → (mo = 2 → d ≤ 28 + lpN y) → (mo = 4 ∨ mo = 6 ∨ mo = 9 ∨ mo = 11 → d ≤ 30) → d ≤ 31 → (mo ≤ 2 → n = 365 * (y - 1) + (y - 1) / 4 - (y - 1) / 100 + (y - 1) / 400 + 1721425 + (367 * mo - 362) / 12 + d) → (2 < mo → n = 365 * (y - 1) + (y - 1) / 4 - (y - 1) / 100 + (y - 1) / 400 + 1721425 + (367 * mo - 362) / 12 + d - 2 + lpN y) → ∀ (D : Addr) (t1 t2 t3 : Tok) (c : Nat) (h' : Heap) (tk' : Nat) (m'' : Str → Option Value), Fr g L' h' m'' → News g L' h' ((D, tup3 y mo d t1 t2 t3 c) :: news) → AllLt D news → QQ (.ret (.ref D)) { s with heap := h', toks := tk' }) :
    wpAny (model PySem.Challenge.rw_ak5015_01.row.prog w) ((ktrTop dp un gd cn cs L a ccd cl outer).deeper (envOf (Str.ofString "from_jd") (scopeOf 17) L' 71 (Value.ref 70))) (execs ((bodyOf 17).drop 11) (envOf (Str.ofString "from_jd") (scopeOf 17) L' 71 (Value.ref 70))) QQ EE s := by
  subst hW
  obtain ⟨hy1, hy2, hn1, hn2⟩ := hY
  revert X'; k_fill; intro X'
  have hlp := lpN_b y
  show wpAny _ (Around.deeper _ (envOf _ ⟨_, _, _, _, _⟩ _ _ _)) (execs (_ :: _ :: _ :: _ :: _ :: _ :: []) (envOf _ ⟨_, _, _, _, _⟩ _ _ _)) _ _ _
  k_steps
  all_goals
    refine' hret _ _ ?_ ?_ ?_ ?_ ?_ ?_ ?_ ?_ _ _ _ _ _ _ _ _ ?F ?N ?l
    (case F => k_asm)
    (case N => k_asm)
    (case l => first | k_asm | exact allLt_of (by assumption))
    all_goals (intros; first | (law_clear; omega) | omega)
theorem fromjd_g (n : Int) (t1 : Tok) (B : Below A₀ base outer h₀) (F : Fr h₀ L s.heap m) (X : (hd.heap_39 w.params).In h₀) (N : News h₀ L s.heap news) (T : Top p loose mean mg mb h₀) (hk : cs.kind = .function)
    (hdp : dp + 7 < recursionLimit) (hun : un + 60 < cLine)
    (hn1 : -5000000000 ≤ n) (hn2 : n ≤ 5000000000)
    (h1 : ∀ y mo d, 1 ≤ mo → mo ≤ 12 → 1 ≤ d → (mo = 2 → d ≤ 28 + lpN y) → (mo = 4 ∨ mo = 6 ∨ mo = 9 ∨ mo = 11 → d ≤ 30) → d ≤ 31 → (mo ≤ 2 → n = 365 * (y - 1) + (y - 1) / 4 - (y - 1) / 100 + (y - 1) / 400 + 1721425 + (367 * mo - 362) / 12 + d) → (2 < mo → n = 365 * (y - 1) + (y - 1) / 4 - (y - 1) / 100 + (y - 1) / 400 + 1721425 + (367 * mo - 362) / 12 + d - 2 + lpN y) → RetT h₀ L m news s Q y mo d) :
    Goes w dp un gd cn cs L a ccd cl outer 71 [.float (HF (2 * n - 1)) t1] Q E s := by
  unfold Goes
  revert X; k_fill; intro X
  refine wpAny_call ?_
  k_dflt (refine' code_def (binds := [(Str.ofString "jd", .float (HF (2 * n - 1)) t1)]) ?k1 ?k2 ?k3 ?k4 ?k5 ?kA ?kF ?kK ?k6 ?k7 ?k8 ?k9 ?kB ?_ ?c2 ?c3 ?c4 ?c5; (case kA => exact rfl); (case kF => exact rfl); (case kK => assumption); (case k1 => k_asm); (case k2 => k_asm); (case k3 => k_asm); (case k4 => k_asm); (case k5 => k_asm); (case k6 => k_is); (case k7 => k_is); (case k8 => (dsimp only [ktrTop]; omega)); (case k9 => exact BindsTo.of_eq rfl); (case c5 => decide); (case kB => exact locs rfl); (case c2 => exact rfl); (case c3 => exact rfl); (case c4 => exact rfl); k_whole; intro g' L' h' FG' F' N' B' X' T'; (try dsimp only); (try k_fold))
  repeat' ((fail_if_success (with_reducible show wpAny _ _ (execs (Stmt.Assign [Expr.Name (Str.ofString "yearday") _] _ _ :: _) _) _ _ _)); first | (k_unfold; (try dsimp only)) | (k_end; kc_close) | walk1 | (dsimp only; walk1) | (leave1; walk_say "STEP leave1"; (try dsimp only)) | fail "no step")
  all_goals (try dsimp only)
  all_goals
    refine' Mine.rest_g _ n _ _ _ _ _ _ _ ?B ?F ?X ?N ?T ?d ?u ?my _ ?mw ?_ ?_ ?_
    (case B => k_asm)
    (case F => k_asm)
    (case X => k_asm)
    (case N => k_asm)
    (case T => k_asm)
    (case d => omega)
    (case u => omega)
    (case my => rfl)
    (case mw => rfl)
    · (law_clear; omega)
    · law_clear
      refine year_ok (n := n) (D := _) ?_ (by assumption) (by assumption) (by assumption) (by assumption) (by assumption) (by assumption) (by assumption) hn1 hn2 ?_
      · omega
      · first | exact .inl ⟨by omega, rfl⟩ | exact .inr (.inl ⟨by omega, by omega, rfl⟩) | exact .inr (.inr ⟨by omega, by omega, rfl⟩)
    · intro mo d g1 g2 g3 g4 g5 g6 g7 g8 D t1' t2' t3' c' h' tk' m'' F' N' l'
      k_steps
      exact h1 _ mo d g1 g2 g3 g4 g5 g6 g7 g8 D _ _ _ _ _ _ (by k_asm) (by k_asm) l'
end
end Mine
-- CJ
namespace Mine
set_option maxRecDepth 100000
set_option maxHeartbeats 8000000
open PySem PySem.W PyProof.Rows PySem.Calls
theorem still_CJ : True := by w_top off; trivial
local macro_rules | `(tactic| walk_at "binaryOp Mod int int") => `(tactic| (k_here; (refine' Mine.r_mod_ii ?ba ?_; (case ba => decide); k_whole)))
local macro_rules | `(tactic| walk_at "ite") => `(tactic| (k_here; k_openite; first
  | (refine ite_pos (by ((try simp only [decide_eq_true_eq, beq_iff_eq, bne_iff_ne, ne_eq]); omega)) ?_)
  | (refine ite_neg (by ((try simp only [decide_eq_true_eq, beq_iff_eq, bne_iff_ne, ne_eq]); omega)) ?_)))
local macro_rules | `(tactic| walk_at "eval Name") => `(tactic| (k_here; (name_kind "globalImplicit"); k_dflt (refine' nameX_K ?F ?X ?T ?e ?_ ?a ?b; (case F => k_asm); (case X => k_asm); (case T => k_asm); (case a => rfl); (case b => rfl); (case e => k_is); k_whole)))
local macro_rules | `(tactic| walk_at "eval Name") => `(tactic| (k_here; (name_kind "local"); k_dflt (refine' nameX_L ?F ?v ?_ ?a ?b; (case F => k_asm); (case a => rfl); (case b => rfl); (case v => first | rfl | assumption); k_whole)))
local macro_rules | `(tactic| walk_at "binaryOp Add int bool") => `(tactic| (k_here; (first | with_reducible refine Mine.r_add_it ?_ | with_reducible refine Mine.r_add_i0 ?_)))
local macro_rules | `(tactic| walk_at "binaryOp Sub int bool") => `(tactic| (k_here; (first | with_reducible refine Mine.r_sub_it ?_ | with_reducible refine Mine.r_sub_i0 ?_)))
local macro_rules | `(tactic| walk_at "eval Call Name") => `(tactic| (k_here; k_dflt (refine Call_ ?_)))
local macro_rules | `(tactic| walk_at "exec If") => `(tactic| (k_here; k_dflt (refine wpAny_If ?_)))
local macro_rules | `(tactic| walk_at "binaryOp Add float float") => `(tactic| (k_here; (with_reducible refine' Mine.r_add_ff ?hx ?hy ?bal ?bau ?bbl ?bbu ?_); k_dflt ((case hx => first | with_reducible exact Mine.c_half | with_reducible exact Mine.c_greg | with_reducible exact Mine.c_isl | with_reducible exact Mine.c_cop | with_reducible exact Mine.c_295 | with_reducible exact Mine.c_1524 | with_reducible rfl); (case hy => first | with_reducible exact Mine.c_half | with_reducible exact Mine.c_greg | with_reducible exact Mine.c_isl | with_reducible exact Mine.c_cop | with_reducible exact Mine.c_295 | with_reducible exact Mine.c_1524 | with_reducible rfl); (case bal => first | decide | (law_clear; omega) | omega); (case bau => first | decide | (law_clear; omega) | omega); (case bbl => first | decide | (law_clear; omega) | omega); (case bbu => first | decide | (law_clear; omega) | omega); k_whole)))
local macro_rules | `(tactic| walk_at "binaryOp Sub float float") => `(tactic| (k_here; (with_reducible refine' Mine.r_sub_ff ?hx ?hy ?bal ?bau ?bbl ?bbu ?_); k_dflt ((case hx => first | with_reducible exact Mine.c_half | with_reducible exact Mine.c_greg | with_reducible exact Mine.c_isl | with_reducible exact Mine.c_cop | with_reducible exact Mine.c_295 | with_reducible exact Mine.c_1524 | with_reducible rfl); (case hy => first | with_reducible exact Mine.c_half | with_reducible exact Mine.c_greg | with_reducible exact Mine.c_isl | with_reducible exact Mine.c_cop | with_reducible exact Mine.c_295 | with_reducible exact Mine.c_1524 | with_reducible rfl); (case bal => first | decide | (law_clear; omega) | omega); (case bau => first | decide | (law_clear; omega) | omega); (case bbl => first | decide | (law_clear; omega) | omega); (case bbu => first | decide | (law_clear; omega) | omega); k_whole)))
local macro_rules | `(tactic| walk_at "inplaceOp Add float float") => `(tactic| (k_here; (with_reducible refine' Mine.r_iadd_ff ?hx ?hy ?bal ?bau ?bbl ?bbu ?_); k_dflt ((case hx => first | with_reducible exact Mine.c_half | with_reducible exact Mine.c_greg | with_reducible exact Mine.c_isl | with_reducible exact Mine.c_cop | with_reducible exact Mine.c_295 | with_reducible exact Mine.c_1524 | with_reducible rfl); (case hy => first | with_reducible exact Mine.c_half | with_reducible exact Mine.c_greg | with_reducible exact Mine.c_isl | with_reducible exact Mine.c_cop | with_reducible exact Mine.c_295 | with_reducible exact Mine.c_1524 | with_reducible rfl); (case bal => first | decide | (law_clear; omega) | omega); (case bau => first | decide | (law_clear; omega) | omega); (case bbl => first | decide | (law_clear; omega) | omega); (case bbu => first | decide | (law_clear; omega) | omega); k_whole)))
local macro_rules | `(tactic| walk_at "binaryOp Add float int") => `(tactic| (k_here; (with_reducible refine' Mine.r_add_xi ?hnl ?hnu ?_); k_dflt ((case hnl => first | decide | (law_clear; omega) | omega); (case hnu => first | decide | (law_clear; omega) | omega); k_whole)))
local macro_rules | `(tactic| walk_at "binaryOp Add float int") => `(tactic| (k_here; (with_reducible refine' Mine.r_add_fi ?hx ?bal ?bau ?bbl ?bbu ?_); k_dflt ((case hx => first | with_reducible exact Mine.c_half | with_reducible exact Mine.c_greg | with_reducible exact Mine.c_isl | with_reducible exact Mine.c_cop | with_reducible exact Mine.c_295 | with_reducible exact Mine.c_1524 | with_reducible rfl); (case bal => first | decide | (law_clear; omega) | omega); (case bau => first | decide | (law_clear; omega) | omega); (case bbl => first | decide | (law_clear; omega) | omega); (case bbu => first | decide | (law_clear; omega) | omega); k_whole)))
local macro_rules | `(tactic| walk_at "binaryOp Sub float int") => `(tactic| (k_here; (with_reducible refine' Mine.r_sub_fi ?hx ?bal ?bau ?bbl ?bbu ?_); k_dflt ((case hx => first | with_reducible exact Mine.c_half | with_reducible exact Mine.c_greg | with_reducible exact Mine.c_isl | with_reducible exact Mine.c_cop | with_reducible exact Mine.c_295 | with_reducible exact Mine.c_1524 | with_reducible rfl); (case bal => first | decide | (law_clear; omega) | omega); (case bau => first | decide | (law_clear; omega) | omega); (case bbl => first | decide | (law_clear; omega) | omega); (case bbu => first | decide | (law_clear; omega) | omega); k_whole)))
local macro_rules | `(tactic| walk_at "inplaceOp Add float int") => `(tactic| (k_here; (with_reducible refine' Mine.r_iadd_fi ?hx ?bal ?bau ?bbl ?bbu ?_); k_dflt ((case hx => first | with_reducible exact Mine.c_half | with_reducible exact Mine.c_greg | with_reducible exact Mine.c_isl | with_reducible exact Mine.c_cop | with_reducible exact Mine.c_295 | with_reducible exact Mine.c_1524 | with_reducible rfl); (case bal => first | decide | (law_clear; omega) | omega); (case bau => first | decide | (law_clear; omega) | omega); (case bbl => first | decide | (law_clear; omega) | omega); (case bbu => first | decide | (law_clear; omega) | omega); k_whole)))
local macro_rules | `(tactic| walk_at "inplaceOp Sub float int") => `(tactic| (k_here; (with_reducible refine' Mine.r_isub_fi ?hx ?bal ?bau ?bbl ?bbu ?_); k_dflt ((case hx => first | with_reducible exact Mine.c_half | with_reducible exact Mine.c_greg | with_reducible exact Mine.c_isl | with_reducible exact Mine.c_cop | with_reducible exact Mine.c_295 | with_reducible exact Mine.c_1524 | with_reducible rfl); (case bal => first | decide | (law_clear; omega) | omega); (case bau => first | decide | (law_clear; omega) | omega); (case bbl => first | decide | (law_clear; omega) | omega); (case bbu => first | decide | (law_clear; omega) | omega); k_whole)))
local macro_rules | `(tactic| walk_at "binaryOp Sub int float") => `(tactic| (k_here; (with_reducible refine' Mine.r_sub_ic ?hnl ?hnu ?_); k_dflt ((case hnl => first | decide | (law_clear; omega) | omega); (case hnu => first | decide | (law_clear; omega) | omega); k_whole)))
local macro_rules | `(tactic| walk_at "binaryOp Add int float") => `(tactic| (k_here; (with_reducible refine' Mine.r_add_if ?hx ?bal ?bau ?bbl ?bbu ?_); k_dflt ((case hx => first | with_reducible exact Mine.c_half | with_reducible exact Mine.c_greg | with_reducible exact Mine.c_isl | with_reducible exact Mine.c_cop | with_reducible exact Mine.c_295 | with_reducible exact Mine.c_1524 | with_reducible rfl); (case bal => first | decide | (law_clear; omega) | omega); (case bau => first | decide | (law_clear; omega) | omega); (case bbl => first | decide | (law_clear; omega) | omega); (case bbu => first | decide | (law_clear; omega) | omega); k_whole)))
local macro_rules | `(tactic| walk_at "binaryOp Sub int float") => `(tactic| (k_here; (with_reducible refine' Mine.r_sub_if ?hx ?bal ?bau ?bbl ?bbu ?_); k_dflt ((case hx => first | with_reducible exact Mine.c_half | with_reducible exact Mine.c_greg | with_reducible exact Mine.c_isl | with_reducible exact Mine.c_cop | with_reducible exact Mine.c_295 | with_reducible exact Mine.c_1524 | with_reducible rfl); (case bal => first | decide | (law_clear; omega) | omega); (case bau => first | decide | (law_clear; omega) | omega); (case bbl => first | decide | (law_clear; omega) | omega); (case bbu => first | decide | (law_clear; omega) | omega); k_whole)))
local macro_rules | `(tactic| walk_at "binaryOp Mult float int") => `(tactic| (k_here; (with_reducible refine' Mine.r_mul_xi ?hnl ?hnu ?_); k_dflt ((case hnl => first | decide | (law_clear; omega) | omega); (case hnu => first | decide | (law_clear; omega) | omega); k_whole)))
local macro_rules | `(tactic| walk_at "binaryOp Mult float int") => `(tactic| (k_here; (with_reducible refine' Mine.r_mul_ci ?hx ?ha ?ha2 ?bnl ?bnu ?_); k_dflt ((case hx => first | with_reducible exact Mine.c_half | with_reducible exact Mine.c_greg | with_reducible exact Mine.c_isl | with_reducible exact Mine.c_cop | with_reducible exact Mine.c_295 | with_reducible exact Mine.c_1524 | with_reducible rfl); (case ha => decide); (case ha2 => decide); (case bnl => first | decide | (law_clear; omega) | omega); (case bnu => first | decide | (law_clear; omega) | omega); k_whole)))
local macro_rules | `(tactic| walk_at "binaryOp Mult float int") => `(tactic| (k_here; (with_reducible refine' Mine.r_mul_fi ?hx ?hn ?hn2 ?bal ?bau ?_); k_dflt ((case hx => first | with_reducible exact Mine.c_half | with_reducible exact Mine.c_greg | with_reducible exact Mine.c_isl | with_reducible exact Mine.c_cop | with_reducible exact Mine.c_295 | with_reducible exact Mine.c_1524 | with_reducible rfl); (case hn => decide); (case hn2 => decide); (case bal => first | decide | (law_clear; omega) | omega); (case bau => first | decide | (law_clear; omega) | omega); k_whole)))
local macro_rules | `(tactic| walk_at "binaryOp Mult int float") => `(tactic| (k_here; (with_reducible refine' Mine.r_mul_if ?hx ?hn ?hn2 ?bal ?bau ?_); k_dflt ((case hx => first | with_reducible exact Mine.c_half | with_reducible exact Mine.c_greg | with_reducible exact Mine.c_isl | with_reducible exact Mine.c_cop | with_reducible exact Mine.c_295 | with_reducible exact Mine.c_1524 | with_reducible rfl); (case hn => decide); (case hn2 => decide); (case bal => first | decide | (law_clear; omega) | omega); (case bau => first | decide | (law_clear; omega) | omega); k_whole)))
local macro_rules | `(tactic| walk_at "binaryOp Mod float int") => `(tactic| (k_here; (with_reducible refine' Mine.r_mod_q ?hA ?hx ?hn ?hn2 ?bal ?bau ?_); k_dflt ((case hA => exact rfl); (case hx => first | with_reducible exact Mine.c_half | with_reducible exact Mine.c_greg | with_reducible exact Mine.c_isl | with_reducible exact Mine.c_cop | with_reducible exact Mine.c_295 | with_reducible exact Mine.c_1524 | with_reducible rfl); (case hn => decide); (case hn2 => decide); (case bal => first | decide | (law_clear; omega) | omega); (case bau => first | decide | (law_clear; omega) | omega); k_whole); intro r9 hr9 hr0 hr1))
local macro_rules | `(tactic| walk_at "binaryOp Div float int") => `(tactic| (k_here; (with_reducible refine' Mine.r_div_fi ?hA ?hn ?hn2 ?_); k_dflt ((case hA => exact rfl); (case hn => decide); (case hn2 => decide); k_whole)))
local macro_rules | `(tactic| walk_at "binaryOp Div float float") => `(tactic| (k_here; (with_reducible refine' Mine.r_div_fc ?hA ?hz ?_); k_dflt ((case hA => exact rfl); (case hz => decide +kernel); k_whole)))
local macro_rules | `(tactic| walk_at "binaryOp Div float float") => `(tactic| (k_here; (with_reducible refine' Mine.r_div_ff ?hA ?hy ?hb ?hb2 ?_); k_dflt ((case hA => exact rfl); (case hy => first | with_reducible exact Mine.c_half | with_reducible exact Mine.c_greg | with_reducible exact Mine.c_isl | with_reducible exact Mine.c_cop | with_reducible exact Mine.c_295 | with_reducible exact Mine.c_1524 | with_reducible rfl); (case hb => decide); (case hb2 => decide); k_whole)))
local macro_rules | `(tactic| walk_at "binaryOp Div int float") => `(tactic| (k_here; (with_reducible refine' Mine.r_div_ic ?hA ?hnl ?hnu ?hz ?_); k_dflt ((case hA => exact rfl); (case hnl => first | decide | (law_clear; omega) | omega); (case hnu => first | decide | (law_clear; omega) | omega); (case hz => decide +kernel); k_whole)))
local macro_rules | `(tactic| walk_at "binaryOp Div int int") => `(tactic| (k_here; (with_reducible refine' Mine.r_div_ii ?hA ?hb ?hal ?hau ?_); k_dflt ((case hA => exact rfl); (case hb => decide); (case hal => first | decide | (law_clear; omega) | omega); (case hau => first | decide | (law_clear; omega) | omega); k_whole)))
local macro_rules | `(tactic| walk_at "call builtin:math.floor") => `(tactic| (k_here; (with_reducible refine' Mine.r_floor_g ?hA ?hx ?hm0 ?hm1 ?ha0 ?ha1 ?hd0 ?hd1 ?_); k_dflt ((case hA => exact rfl); (case hx => first | with_reducible exact rfl | exact rfl); (case hm0 => first | decide | (law_clear; omega) | omega); (case hm1 => first | decide | (law_clear; omega) | omega); (case ha0 => first | decide | (law_clear; omega) | omega); (case ha1 => first | decide | (law_clear; omega) | omega); (case hd0 => first | decide | (law_clear; omega) | omega); (case hd1 => first | decide | (law_clear; omega) | omega); k_whole); intro q9 hq0))
local macro_rules | `(tactic| walk_at "call builtin:math.floor") => `(tactic| (k_here; (with_reducible refine' Mine.r_floor_jm ?hA ?hx ?b0 ?b1 ?_); k_dflt ((case hA => exact rfl); (case hx => first | with_reducible exact rfl | exact rfl); (case b0 => first | decide | (law_clear; omega) | omega); (case b1 => first | decide | (law_clear; omega) | omega); k_whole); intro q9 hq0))
local macro_rules | `(tactic| walk_at "call builtin:math.floor") => `(tactic| (k_here; (with_reducible refine' Mine.r_floor_je ?hA ?hx ?b0 ?b1 ?_); k_dflt ((case hA => exact rfl); (case hx => first | with_reducible exact rfl | exact rfl); (case b0 => first | decide | (law_clear; omega) | omega); (case b1 => first | decide | (law_clear; omega) | omega); k_whole); intro q9 hq0))
local macro_rules | `(tactic| walk_at "call builtin:math.floor") => `(tactic| (k_here; (with_reducible refine' Mine.r_floor_jd ?hA ?hx ?bnl ?bnu ?_); k_dflt ((case hA => exact rfl); (case hx => first | with_reducible exact rfl | exact rfl); (case bnl => first | decide | (law_clear; omega) | omega); (case bnu => first | decide | (law_clear; omega) | omega); k_whole); intro q9 hq0))
local macro_rules | `(tactic| walk_at "call builtin:math.floor") => `(tactic| (k_here; (with_reducible refine' Mine.r_floor_jc ?hA ?hx ?bnl ?bnu ?_); k_dflt ((case hA => exact rfl); (case hx => first | with_reducible exact rfl | exact rfl); (case bnl => first | decide | (law_clear; omega) | omega); (case bnu => first | decide | (law_clear; omega) | omega); k_whole); intro q9 hq0))
local macro_rules | `(tactic| walk_at "call builtin:math.floor") => `(tactic| (k_here; (with_reducible refine' Mine.r_floor_ii ?hA ?hb ?hb2 ?bal ?bau ?k1 ?k2 ?_); k_dflt ((case hA => exact rfl); (case hb => decide); (case hb2 => decide); (case bal => first | decide | (law_clear; omega) | omega); (case bau => first | decide | (law_clear; omega) | omega); (case k1 => first | decide | (law_clear; omega) | omega); (case k2 => first | decide | (law_clear; omega) | omega); k_whole); intro q9 hq0))
local macro_rules | `(tactic| walk_at "call builtin:math.floor") => `(tactic| (k_here; (with_reducible refine' Mine.r_floor_div ?hA ?hb ?hb2 ?bal ?bau ?k1 ?k2 ?_); k_dflt ((case hA => exact rfl); (case hb => decide); (case hb2 => decide); (case bal => first | decide | (law_clear; omega) | omega); (case bau => first | decide | (law_clear; omega) | omega); (case k1 => first | decide | (law_clear; omega) | omega); (case k2 => first | decide | (law_clear; omega) | omega); k_whole); intro q9 hq0))
local macro_rules | `(tactic| walk_at "call builtin:math.floor") => `(tactic| (k_here; (with_reducible refine' Mine.r_floor_hf ?hA ?bal ?bau ?_); k_dflt ((case hA => exact rfl); (case bal => first | decide | (law_clear; omega) | omega); (case bau => first | decide | (law_clear; omega) | omega); k_whole); intro q9 hq0))
local macro_rules | `(tactic| walk_at "call builtin:math.ceil") => `(tactic| (k_here; (with_reducible refine' Mine.r_ceil_div ?hA ?hb ?hb2 ?bal ?bau ?k1 ?k2 ?_); k_dflt ((case hA => exact rfl); (case hb => decide); (case hb2 => decide); (case bal => first | decide | (law_clear; omega) | omega); (case bau => first | decide | (law_clear; omega) | omega); (case k1 => first | decide | (law_clear; omega) | omega); (case k2 => first | decide | (law_clear; omega) | omega); k_whole); intro q9 hq0 hq1))
local macro_rules | `(tactic| walk_at "call builtin:math.ceil") => `(tactic| (k_here; (with_reducible refine' Mine.r_ceil_hf ?hA ?bal ?bau ?_); k_dflt ((case hA => exact rfl); (case bal => first | decide | (law_clear; omega) | omega); (case bau => first | decide | (law_clear; omega) | omega); k_whole); intro q9 hq0 hq1))
local macro_rules | `(tactic| walk_at "call type:int") => `(tactic| (k_here; (with_reducible refine' Mine.r_trunc_hf ?hA ?bal ?bau ?he ?_); k_dflt ((case hA => exact rfl); (case bal => first | decide | (law_clear; omega) | omega); (case bau => first | decide | (law_clear; omega) | omega); (case he => first | decide | (law_clear; omega) | omega); k_whole); intro q9 hq0))
local macro_rules | `(tactic| walk_at "compareOp Lt float int") => `(tactic| (k_here; (with_reducible refine' Mine.r_lt_fi ?hx ?bal ?bau ?_); k_dflt ((case hx => first | with_reducible exact Mine.c_half | with_reducible exact Mine.c_greg | with_reducible exact Mine.c_isl | with_reducible exact Mine.c_cop | with_reducible exact Mine.c_295 | with_reducible exact Mine.c_1524 | with_reducible rfl); (case bal => first | decide | (law_clear; omega) | omega); (case bau => first | decide | (law_clear; omega) | omega); k_whole)))
local macro_rules | `(tactic| walk_at "compareOp NotEq float float") => `(tactic| (k_here; (with_reducible refine' Mine.r_ne_ff ?hx ?hy ?bal ?bau ?bbl ?bbu ?hab ?_); k_dflt ((case hx => first | with_reducible exact Mine.c_half | with_reducible exact Mine.c_greg | with_reducible exact Mine.c_isl | with_reducible exact Mine.c_cop | with_reducible exact Mine.c_295 | with_reducible exact Mine.c_1524 | with_reducible rfl); (case hy => first | with_reducible exact Mine.c_half | with_reducible exact Mine.c_greg | with_reducible exact Mine.c_isl | with_reducible exact Mine.c_cop | with_reducible exact Mine.c_295 | with_reducible exact Mine.c_1524 | with_reducible rfl); (case bal => first | decide | (law_clear; omega) | omega); (case bau => first | decide | (law_clear; omega) | omega); (case bbl => first | decide | (law_clear; omega) | omega); (case bbu => first | decide | (law_clear; omega) | omega); (case hab => omega); k_whole)))
theorem jcum1 {mo : Int} (h1 : 1 ≤ mo) (h2 : mo ≤ 2) : 306001 * (mo + 12 + 1) / 10000 = (367 * mo - 362) / 12 + 428 := by
  have : mo = 1 ∨ mo = 2 := by omega
  rcases this with rfl | rfl <;> decide
theorem jcum2 {mo : Int} (h1 : 2 < mo) (h2 : mo ≤ 12) : 306001 * (mo + 1) / 10000 = (367 * mo - 362) / 12 + 61 := by
  have : mo = 3 ∨ mo = 4 ∨ mo = 5 ∨ mo = 6 ∨ mo = 7 ∨ mo = 8 ∨ mo = 9 ∨ mo = 10 ∨ mo = 11 ∨ mo = 12 := by omega
  rcases this with rfl | rfl | rfl | rfl | rfl | rfl | rfl | rfl | rfl | rfl <;> decide
abbrev JOk (n y mo d : Int) : Prop := 1 ≤ mo ∧ mo ≤ 12 ∧ 1 ≤ d ∧ (mo = 2 → d ≤ 29 - (y % 4 + 3) / 4) ∧ (mo = 4 ∨ mo = 6 ∨ mo = 9 ∨ mo = 11 → d ≤ 30) ∧ d ≤ 31 ∧ (mo ≤ 2 → n = 365 * (y + 4712) + (y + 4715) / 4 + (367 * mo - 362) / 12 + d - 1) ∧ (2 < mo → n = 365 * (y + 4712) + (y + 4715) / 4 + (367 * mo - 362) / 12 + d - 2 - (y % 4 + 3) / 4)
theorem jul_back {n a c dd e f : Int} (ha : a = (2 * n - 1 + 1) / 2) (hc : c = (8 * (a + 1524) - 977) / 2922) (hd : dd = 1461 * c / 4) (he : e = 10000 * (a + 1524 - dd) / 306001) (hf : f = 306001 * e / 10000) :
    (e < 14 → JOk n (c - 4716) (e - 1) (a + 1524 - dd - f)) ∧ (¬ e < 14 → JOk n (c - 4715) (e - 13) (a + 1524 - dd - f)) := by
  have ea : a = n := by omega
  clear ha
  subst ea
  have hx1 : 123 ≤ a + 1524 - dd := by clear he hf; omega
  have hx2 : a + 1524 - dd ≤ 488 := by clear he hf; omega
  have he2 : e = 4 ∨ e = 5 ∨ e = 6 ∨ e = 7 ∨ e = 8 ∨ e = 9 ∨ e = 10 ∨ e = 11 ∨ e = 12 ∨ e = 13 ∨ e = 14 ∨ e = 15 := by clear hc hd hf; omega
  obtain ⟨x, hx⟩ : ∃ x, x = a + 1524 - dd := ⟨_, rfl⟩
  rw [← hx] at he hx1 hx2
  have hxe : 306001 * e ≤ 10000 * x ∧ 10000 * x < 306001 * e + 306001 := by clear hc hd hf hx; omega
  clear he
  obtain ⟨k, j, hk, hj0, hj3⟩ : ∃ k j, c = 4 * k + j ∧ 0 ≤ j ∧ j ≤ 3 := ⟨c / 4, c % 4, by omega, by omega, by omega⟩
  have hdk : dd = 1461 * k + 365 * j + j / 4 := by clear hc hf hx hxe; omega
  have hj4 : j / 4 = 0 := by omega
  rw [hj4] at hdk
  have hxu : j = 3 ∨ x ≤ 487 := by clear hf hxe hd; omega
  clear hc hd
  unfold JOk
  subst hk
  have y1 : (4 * k + j - 4716 + 4715) / 4 = k + (j + 3) / 4 - 1 := by omega
  have y2 : (4 * k + j - 4715 + 4715) / 4 = k := by omega
  have y3 : (4 * k + j - 4716) % 4 = j := by omega
  have y4 : (4 * k + j - 4715) % 4 = (j + 1) % 4 := by omega
  rw [y1, y2, y3, y4]
  clear y1 y2 y3 y4
  subst hdk
  have hjj : j = 0 ∨ j = 1 ∨ j = 2 ∨ j = 3 := by omega
  rw [← hx]
  rcases he2 with rfl | rfl | rfl | rfl | rfl | rfl | rfl | rfl | rfl | rfl | rfl | rfl <;> rcases hjj with rfl | rfl | rfl | rfl <;>
    (subst hf; constructor <;> intro hh <;> first | exact absurd hh (by decide) | omega)
section
variable {w : World} {p : Program} {loose : List Str} {mean : ExcName → Option Value} {mg mb : Str → Option Value} {dp un : Nat} {gd : Option (List Code)} {cn : Str} {cs : Scope} {a : Addr} {ccd : Value} {cl : List (Str × Addr)} {outer : List Env} {A₀ : Around} {base h₀ : Heap} {L : Addr} {m : Str → Option Value} {news : List (Addr × Obj)} {s : Shared} {Q E : Value → Shared → Prop}
local macro_rules | `(tactic| walk_at "compareOp In int ref") => `(tactic| (k_here; k_dflt (refine' Mine.in_four (tupK ?X ?l) ?i ?_ ?_; (case X => k_in); (case l => k_is); (case i => exact in_four_are); all_goals intro hc)))
local macro_rules | `(tactic| walk_at "call ref") => `(tactic| (k_here; (with_reducible show wpAny _ _ (call (Value.ref 50) _) _ _ _); k_dflt (refine' Mine.isleap_c _ _ ?k1 ?k2 ?k3 ?k4 ?k5 ?kK ?kd ?ku  ?_ ?_; (case k1 => k_asm); (case k2 => k_asm); (case k3 => k_asm); (case k4 => k_asm); (case k5 => k_asm); (case kK => first | exact rfl | assumption); (case kd => (dsimp only [ktrTop]; omega)); (case ku => (dsimp only [ktrTop]; omega)); all_goals (intro hc t9 h9 tk9 F9 N9; (try simp only [AllLt, and_true] at l9); (try dsimp only); (try k_sweep); (try k_fold)))))
local macro_rules | `(tactic| walk_at "call ref") => `(tactic| (k_here; (with_reducible show wpAny _ _ (call (Value.ref 57) _) _ _ _); k_dflt (refine' Mine.legal_g _ _ _ _ _ _ ?k1 ?k2 ?k3 ?k4 ?k5 ?kK ?kd ?ku ?hd1 ?hm2 ?hm3 ?hm4 ?_; (case k1 => k_asm); (case k2 => k_asm); (case k3 => k_asm); (case k4 => k_asm); (case k5 => k_asm); (case kK => first | exact rfl | assumption); (case kd => (dsimp only [ktrTop]; omega)); (case ku => (dsimp only [ktrTop]; omega)); (case hd1 => first | omega | assumption); (case hm2 => first | omega | assumption); (case hm3 => first | omega | assumption); (case hm4 => first | omega | assumption); all_goals (intro t9 h9 tk9 F9 N9; (try simp only [AllLt, and_true] at l9); (try dsimp only); (try k_sweep); (try k_fold)))))
local macro_rules | `(tactic| walk_at "call ref") => `(tactic| (k_here; (with_reducible show wpAny _ _ (call (Value.ref 64) _) _ _ _); k_dflt (refine' Mine.tojd_g _ _ _ _ _ _ ?k1 ?k2 ?k3 ?k4 ?k5 ?kK ?kd ?ku ?hy1 ?hy2 ?hmo1 ?hmo2 ?hd1 ?hm2 ?hm3 ?hm4 ?_; (case k1 => k_asm); (case k2 => k_asm); (case k3 => k_asm); (case k4 => k_asm); (case k5 => k_asm); (case kK => first | exact rfl | assumption); (case kd => (dsimp only [ktrTop]; omega)); (case ku => (dsimp only [ktrTop]; omega)); (case hy1 => first | omega | assumption); (case hy2 => first | omega | assumption); (case hmo1 => first | omega | assumption); (case hmo2 => first | omega | assumption); (case hd1 => first | omega | assumption); (case hm2 => first | omega | assumption); (case hm3 => first | omega | assumption); (case hm4 => first | omega | assumption); all_goals (intro M9 hM1 hM2 t9 h9 tk9 F9 N9; (first | (replace hM1 := hM1 (by omega); clear hM2) | (replace hM2 := hM2 (by omega); clear hM1) | skip); (try simp only [AllLt, and_true] at l9); (try dsimp only); (try k_sweep); (try k_fold)))))
local macro_rules | `(tactic| walk_at "call ref") => `(tactic| (k_here; (with_reducible show wpAny _ _ (call (Value.ref 71) _) _ _ _); k_dflt (refine' Mine.fromjd_g _ _ ?k1 ?k2 ?k3 ?k4 ?k5 ?kK ?kd ?ku ?hn1 ?hn2 ?_; (case k1 => k_asm); (case k2 => k_asm); (case k3 => k_asm); (case k4 => k_asm); (case k5 => k_asm); (case kK => first | exact rfl | assumption); (case kd => (dsimp only [ktrTop]; omega)); (case ku => (dsimp only [ktrTop]; omega)); (case hn1 => first | omega | assumption); (case hn2 => first | omega | assumption); all_goals (intro y9 mo9 d9 g1 g2 g3 g4 g5 g6 g7 g8 D9 u1 u2 u3 c9 h9 tk9 F9 N9 l9; (try simp only [AllLt, and_true] at l9); (try dsimp only); (try k_sweep); (try k_fold)))))
theorem tojd_n (n y mo d : Int) (t1 t2 t3 : Tok) (B : Below A₀ base outer h₀) (F : Fr h₀ L s.heap m) (X : (hd.heap_39 w.params).In h₀) (N : News h₀ L s.heap news) (T : Top p loose mean mg mb h₀) (hk : cs.kind = .function)
    (hdp : dp + 5 < recursionLimit) (hun : un + 40 < cLine)
    (e7 : mo ≤ 2 → n = 365 * (y - 1) + (y - 1) / 4 - (y - 1) / 100 + (y - 1) / 400 + 1721425 + (367 * mo - 362) / 12 + d) (e8 : 2 < mo → n = 365 * (y - 1) + (y - 1) / 4 - (y - 1) / 100 + (y - 1) / 400 + 1721425 + (367 * mo - 362) / 12 + d - 2 + lpN y) (e1 : 1 ≤ mo) (e2 : mo ≤ 12) (e3 : 1 ≤ d) (e4 : mo = 2 → d ≤ 28 + lpN y) (e5 : mo = 4 ∨ mo = 6 ∨ mo = 9 ∨ mo = 11 → d ≤ 30) (e6 : d ≤ 31) (hn1 : -5000000000 ≤ n) (hn2 : n ≤ 5000000000)
    (h1 : RetV h₀ L m news s Q fun t => .float (HF (2 * n - 1)) t) :
    Goes w dp un gd cn cs L a ccd cl outer 64 [.int y t1, .int mo t2, .int d t3] Q E s := by
  have hlp := lpN_b y
  have hyb : -20000000 ≤ y ∧ y ≤ 20000000 := by
    by_cases q : mo ≤ 2
    · have := e7 q; clear e7 e8 e4 e5; omega
    · have := e8 (by omega); clear e7 e8 e4 e5; omega
  refine tojd_g y mo d t1 t2 t3 B F X N T hk hdp hun (by omega) (by omega) e1 e2 e3 e4 e5 e6 (fun M hM1 hM2 => ?_)
  have hMn : M = n := by
    by_cases q : mo ≤ 2
    · rw [hM1 q, e7 q]
    · rw [hM2 (by omega), e8 (by omega)]
  subst hMn
  exact h1
local macro_rules | `(tactic| walk_at "call ref") => `(tactic| (k_here; (with_reducible show wpAny _ _ (call (Value.ref 64) _) _ _ _); k_dflt (refine' Mine.tojd_n _ _ _ _ _ _ _ ?k1 ?k2 ?k3 ?k4 ?k5 ?kK ?kd ?ku ?e7 ?e8 ?e1 ?e2 ?e3 ?e4 ?e5 ?e6 ?hn1 ?hn2 ?_; (case k1 => k_asm); (case k2 => k_asm); (case k3 => k_asm); (case k4 => k_asm); (case k5 => k_asm); (case kK => first | exact rfl | assumption); (case kd => (dsimp only [ktrTop]; omega)); (case ku => (dsimp only [ktrTop]; omega)); (case e7 => first | assumption | omega); (case e8 => first | assumption | omega); (case e1 => first | assumption | omega); (case e2 => first | assumption | omega); (case e3 => first | assumption | omega); (case e4 => first | assumption | omega); (case e5 => first | assumption | omega); (case e6 => first | assumption | omega); (case hn1 => first | assumption | omega); (case hn2 => first | assumption | omega); all_goals (intro t9 h9 tk9 F9 N9; (try simp only [AllLt, and_true] at l9); (try dsimp only); (try k_sweep); (try k_fold)))))
theorem jleap_c (y : Int) (t : Tok) (B : Below A₀ base outer h₀) (F : Fr h₀ L s.heap m) (X : (hd.heap_39 w.params).In h₀) (N : News h₀ L s.heap news) (T : Top p loose mean mg mb h₀) (hk : cs.kind = .function)
    (hdp : dp + 1 < recursionLimit) (hun : un + 8 < cLine)
   
    (h1 : y % 4 = 0 → RetV h₀ L m news s Q fun _ => .bool true)
    (h2 : y % 4 ≠ 0 → RetV h₀ L m news s Q fun _ => .bool false) :
    Goes w dp un gd cn cs L a ccd cl outer 79 [.int y t] Q E s := by
  unfold Goes
  revert X; k_fill; intro X
  refine wpAny_call ?_
  k_dflt (refine' code_def (binds := [(Str.ofString "year", .int y t)]) ?k1 ?k2 ?k3 ?k4 ?k5 ?kA ?kF ?kK ?k6 ?k7 ?k8 ?k9 ?kB ?_ ?c2 ?c3 ?c4 ?c5; (case kA => exact rfl); (case kF => exact rfl); (case kK => assumption); (case k1 => k_asm); (case k2 => k_asm); (case k3 => k_asm); (case k4 => k_asm); (case k5 => k_asm); (case k6 => k_is); (case k7 => k_is); (case k8 => (dsimp only [ktrTop]; omega)); (case k9 => exact BindsTo.of_eq rfl); (case c5 => decide); (case kB => exact locs rfl); (case c2 => exact rfl); (case c3 => exact rfl); (case c4 => exact rfl); k_whole; intro g' L' h' FG' F' N' B' X' T'; (try dsimp only); (try k_fold))
  k_steps
  by_cases h : y % 4 = 0
  · have he : (y % 4 == 0) = true := by simp only [beq_iff_eq]; omega
    rw [he]
    exact retV (s := s) 0 (h1 h) rfl (by k_asm) (by k_asm)
  · have he : (y % 4 == 0) = false := by simp only [beq_eq_false_iff_ne]; omega
    rw [he]
    exact retV (s := s) 0 (h2 h) rfl (by k_asm) (by k_asm)
local macro_rules | `(tactic| walk_at "call ref") => `(tactic| (k_here; (with_reducible show wpAny _ _ (call (Value.ref 79) _) _ _ _); k_dflt (refine' Mine.jleap_c _ _ ?k1 ?k2 ?k3 ?k4 ?k5 ?kK ?kd ?ku  ?_ ?_; (case k1 => k_asm); (case k2 => k_asm); (case k3 => k_asm); (case k4 => k_asm); (case k5 => k_asm); (case kK => first | exact rfl | assumption); (case kd => (dsimp only [ktrTop]; omega)); (case ku => (dsimp only [ktrTop]; omega)); all_goals (intro hc t9 h9 tk9 F9 N9; (try simp only [AllLt, and_true] at l9); (try dsimp only); (try k_sweep); (try k_fold)))))
theorem jml_c (y mo : Int) (t1 t2 : Tok) (B : Below A₀ base outer h₀) (F : Fr h₀ L s.heap m) (X : (hd.heap_39 w.params).In h₀) (N : News h₀ L s.heap news) (T : Top p loose mean mg mb h₀) (hk : cs.kind = .function)
    (hdp : dp + 3 < recursionLimit) (hun : un + 24 < cLine)
   
    (h1 : ∀ k, (mo = 2 → k = 29 - (y % 4 + 3) / 4) → (mo = 4 ∨ mo = 6 ∨ mo = 9 ∨ mo = 11 → k = 30) → (mo ≠ 2 → mo ≠ 4 → mo ≠ 6 → mo ≠ 9 → mo ≠ 11 → k = 31) → RetV h₀ L m news s Q fun t => .int k t) :
    Goes w dp un gd cn cs L a ccd cl outer 86 [.int y t1, .int mo t2] Q E s := by
  unfold Goes
  revert X; k_fill; intro X
  refine wpAny_call ?_
  k_dflt (refine' code_def (binds := [(Str.ofString "year", .int y t1), (Str.ofString "month", .int mo t2)]) ?k1 ?k2 ?k3 ?k4 ?k5 ?kA ?kF ?kK ?k6 ?k7 ?k8 ?k9 ?kB ?_ ?c2 ?c3 ?c4 ?c5; (case kA => exact rfl); (case kF => exact rfl); (case kK => assumption); (case k1 => k_asm); (case k2 => k_asm); (case k3 => k_asm); (case k4 => k_asm); (case k5 => k_asm); (case k6 => k_is); (case k7 => k_is); (case k8 => (dsimp only [ktrTop]; omega)); (case k9 => exact BindsTo.of_eq rfl); (case c5 => decide); (case kB => exact locs rfl); (case c2 => exact rfl); (case c3 => exact rfl); (case c4 => exact rfl); k_whole; intro g' L' h' FG' F' N' B' X' T'; (try dsimp only); (try k_fold))
  k_steps
  all_goals
    refine retI (s := s) (h1 _ ?_ ?_ ?_) rfl (by k_asm) (by k_asm)
    all_goals (intros; omega)
local macro_rules | `(tactic| walk_at "call ref") => `(tactic| (k_here; (with_reducible show wpAny _ _ (call (Value.ref 86) _) _ _ _); k_dflt (refine' Mine.jml_c _ _ _ _ ?k1 ?k2 ?k3 ?k4 ?k5 ?kK ?kd ?ku  ?_; (case k1 => k_asm); (case k2 => k_asm); (case k3 => k_asm); (case k4 => k_asm); (case k5 => k_asm); (case kK => first | exact rfl | assumption); (case kd => (dsimp only [ktrTop]; omega)); (case ku => (dsimp only [ktrTop]; omega)); all_goals (intro k9 hk1 hk2 hk3 t9 h9 tk9 F9 N9; (try simp only [AllLt, and_true] at l9); (try dsimp only); (try k_sweep); (try k_fold)))))
theorem jlegal_c (y mo d : Int) (t1 t2 t3 : Tok) (B : Below A₀ base outer h₀) (F : Fr h₀ L s.heap m) (X : (hd.heap_39 w.params).In h₀) (N : News h₀ L s.heap news) (T : Top p loose mean mg mb h₀) (hk : cs.kind = .function)
    (hdp : dp + 5 < recursionLimit) (hun : un + 40 < cLine)
    (hd1 : 1 ≤ d) (hm2 : mo = 2 → d ≤ 29 - (y % 4 + 3) / 4) (hm3 : mo = 4 ∨ mo = 6 ∨ mo = 9 ∨ mo = 11 → d ≤ 30) (hm4 : d ≤ 31)
    (h1 : RetV h₀ L m news s Q fun _ => .bool true) :
    Goes w dp un gd cn cs L a ccd cl outer 93 [.int y t1, .int mo t2, .int d t3] Q E s := by
  unfold Goes
  revert X; k_fill; intro X
  refine wpAny_call ?_
  k_dflt (refine' code_def (binds := [(Str.ofString "year", .int y t1), (Str.ofString "month", .int mo t2), (Str.ofString "day", .int d t3)]) ?k1 ?k2 ?k3 ?k4 ?k5 ?kA ?kF ?kK ?k6 ?k7 ?k8 ?k9 ?kB ?_ ?c2 ?c3 ?c4 ?c5; (case kA => exact rfl); (case kF => exact rfl); (case kK => assumption); (case k1 => k_asm); (case k2 => k_asm); (case k3 => k_asm); (case k4 => k_asm); (case k5 => k_asm); (case k6 => k_is); (case k7 => k_is); (case k8 => (dsimp only [ktrTop]; omega)); (case k9 => exact BindsTo.of_eq rfl); (case c5 => decide); (case kB => exact locs rfl); (case c2 => exact rfl); (case c3 => exact rfl); (case c4 => exact rfl); k_whole; intro g' L' h' FG' F' N' B' X' T'; (try dsimp only); (try k_fold))
  k_steps
  all_goals exact retV (s := s) 0 h1 rfl (by k_asm) (by k_asm)
local macro_rules | `(tactic| walk_at "call ref") => `(tactic| (k_here; (with_reducible show wpAny _ _ (call (Value.ref 93) _) _ _ _); k_dflt (refine' Mine.jlegal_c _ _ _ _ _ _ ?k1 ?k2 ?k3 ?k4 ?k5 ?kK ?kd ?ku ?hd1 ?hm2 ?hm3 ?hm4 ?_; (case k1 => k_asm); (case k2 => k_asm); (case k3 => k_asm); (case k4 => k_asm); (case k5 => k_asm); (case kK => first | exact rfl | assumption); (case kd => (dsimp only [ktrTop]; omega)); (case ku => (dsimp only [ktrTop]; omega)); (case hd1 => first | omega | assumption); (case hm2 => first | omega | assumption); (case hm3 => first | omega | assumption); (case hm4 => first | omega | assumption); all_goals (intro t9 h9 tk9 F9 N9; (try simp only [AllLt, and_true] at l9); (try dsimp only); (try k_sweep); (try k_fold)))))
theorem jtojd_c (y mo d : Int) (t1 t2 t3 : Tok) (B : Below A₀ base outer h₀) (F : Fr h₀ L s.heap m) (X : (hd.heap_39 w.params).In h₀) (N : News h₀ L s.heap news) (T : Top p loose mean mg mb h₀) (hk : cs.kind = .function)
    (hdp : dp + 7 < recursionLimit) (hun : un + 56 < cLine)
    (hy1 : -30000000 ≤ y) (hy2 : y ≤ 30000000) (hmo1 : 1 ≤ mo) (hmo2 : mo ≤ 12) (hd1 : 1 ≤ d) (hm2 : mo = 2 → d ≤ 29 - (y % 4 + 3) / 4) (hm3 : mo = 4 ∨ mo = 6 ∨ mo = 9 ∨ mo = 11 → d ≤ 30) (hm4 : d ≤ 31)
    (h1 : ∀ M, (mo ≤ 2 → M = 365 * (y + 4712) + (y + 4715) / 4 + (367 * mo - 362) / 12 + d - 1) → (2 < mo → M = 365 * (y + 4712) + (y + 4715) / 4 + (367 * mo - 362) / 12 + d - 2 - (y % 4 + 3) / 4) → RetV h₀ L m news s Q fun t => .float (HF (2 * M - 1)) t) :
    Goes w dp un gd cn cs L a ccd cl outer 107 [.int y t1, .int mo t2, .int d t3] Q E s := by
  unfold Goes
  revert X; k_fill; intro X
  refine wpAny_call ?_
  k_dflt (refine' code_def (binds := [(Str.ofString "year", .int y t1), (Str.ofString "month", .int mo t2), (Str.ofString "day", .int d t3)]) ?k1 ?k2 ?k3 ?k4 ?k5 ?kA ?kF ?kK ?k6 ?k7 ?k8 ?k9 ?kB ?_ ?c2 ?c3 ?c4 ?c5; (case kA => exact rfl); (case kF => exact rfl); (case kK => assumption); (case k1 => k_asm); (case k2 => k_asm); (case k3 => k_asm); (case k4 => k_asm); (case k5 => k_asm); (case k6 => k_is); (case k7 => k_is); (case k8 => (dsimp only [ktrTop]; omega)); (case k9 => exact BindsTo.of_eq rfl); (case c5 => decide); (case kB => exact locs rfl); (case c2 => exact rfl); (case c3 => exact rfl); (case c4 => exact rfl); k_whole; intro g' L' h' FG' F' N' B' X' T'; (try dsimp only); (try k_fold))
  k_steps
  · have hr := h1 (365 * (y + 4712) + (y + 4715) / 4 + (367 * mo - 362) / 12 + d - 1) (fun _ => rfl) (fun h => absurd h (by omega))
    have hc := jcum1 hmo1 (by omega)
    exact retF (s := s) hr (by law_clear; omega) (by k_asm) (by k_asm)
  · have hr := h1 (365 * (y + 4712) + (y + 4715) / 4 + (367 * mo - 362) / 12 + d - 2 - (y % 4 + 3) / 4) (fun h => absurd h (by omega)) (fun _ => rfl)
    have hc := jcum2 (by omega) hmo2
    exact retF (s := s) hr (by law_clear; omega) (by k_asm) (by k_asm)
local macro_rules | `(tactic| walk_at "call ref") => `(tactic| (k_here; (with_reducible show wpAny _ _ (call (Value.ref 107) _) _ _ _); k_dflt (refine' Mine.jtojd_c _ _ _ _ _ _ ?k1 ?k2 ?k3 ?k4 ?k5 ?kK ?kd ?ku ?hy1 ?hy2 ?hmo1 ?hmo2 ?hd1 ?hm2 ?hm3 ?hm4 ?_; (case k1 => k_asm); (case k2 => k_asm); (case k3 => k_asm); (case k4 => k_asm); (case k5 => k_asm); (case kK => first | exact rfl | assumption); (case kd => (dsimp only [ktrTop]; omega)); (case ku => (dsimp only [ktrTop]; omega)); (case hy1 => first | omega | assumption); (case hy2 => first | omega | assumption); (case hmo1 => first | omega | assumption); (case hmo2 => first | omega | assumption); (case hd1 => first | omega | assumption); (case hm2 => first | omega | assumption); (case hm3 => first | omega | assumption); (case hm4 => first | omega | assumption); all_goals (intro M9 hM1 hM2 t9 h9 tk9 F9 N9; (first | (replace hM1 := hM1 (by omega); clear hM2) | (replace hM2 := hM2 (by omega); clear hM1) | skip); (try simp only [AllLt, and_true] at l9); (try dsimp only); (try k_sweep); (try k_fold)))))
theorem jtojd_n (n y mo d : Int) (t1 t2 t3 : Tok) (B : Below A₀ base outer h₀) (F : Fr h₀ L s.heap m) (X : (hd.heap_39 w.params).In h₀) (N : News h₀ L s.heap news) (T : Top p loose mean mg mb h₀) (hk : cs.kind = .function)
    (hdp : dp + 7 < recursionLimit) (hun : un + 56 < cLine)
    (e7 : mo ≤ 2 → n = 365 * (y + 4712) + (y + 4715) / 4 + (367 * mo - 362) / 12 + d - 1) (e8 : 2 < mo → n = 365 * (y + 4712) + (y + 4715) / 4 + (367 * mo - 362) / 12 + d - 2 - (y % 4 + 3) / 4) (e1 : 1 ≤ mo) (e2 : mo ≤ 12) (e3 : 1 ≤ d) (e4 : mo = 2 → d ≤ 29 - (y % 4 + 3) / 4) (e5 : mo = 4 ∨ mo = 6 ∨ mo = 9 ∨ mo = 11 → d ≤ 30) (e6 : d ≤ 31) (hn1 : -5000000000 ≤ n) (hn2 : n ≤ 5000000000)
    (h1 : RetV h₀ L m news s Q fun t => .float (HF (2 * n - 1)) t) :
    Goes w dp un gd cn cs L a ccd cl outer 107 [.int y t1, .int mo t2, .int d t3] Q E s := by
  have hyb : -20000000 ≤ y ∧ y ≤ 20000000 := by
    by_cases q : mo ≤ 2
    · have := e7 q; clear e7 e8 e4 e5; omega
    · have := e8 (by omega); clear e7 e8 e4 e5; omega
  refine jtojd_c y mo d t1 t2 t3 B F X N T hk hdp hun (by omega) (by omega) e1 e2 e3 e4 e5 e6 (fun M hM1 hM2 => ?_)
  have hMn : M = n := by
    by_cases q : mo ≤ 2
    · rw [hM1 q, e7 q]
    · rw [hM2 (by omega), e8 (by omega)]
  subst hMn
  exact h1
local macro_rules | `(tactic| walk_at "call ref") => `(tactic| (k_here; (with_reducible show wpAny _ _ (call (Value.ref 107) _) _ _ _); k_dflt (refine' Mine.jtojd_n _ _ _ _ _ _ _ ?k1 ?k2 ?k3 ?k4 ?k5 ?kK ?kd ?ku ?e7 ?e8 ?e1 ?e2 ?e3 ?e4 ?e5 ?e6 ?hn1 ?hn2 ?_; (case k1 => k_asm); (case k2 => k_asm); (case k3 => k_asm); (case k4 => k_asm); (case k5 => k_asm); (case kK => first | exact rfl | assumption); (case kd => (dsimp only [ktrTop]; omega)); (case ku => (dsimp only [ktrTop]; omega)); (case e7 => first | assumption | omega); (case e8 => first | assumption | omega); (case e1 => first | assumption | omega); (case e2 => first | assumption | omega); (case e3 => first | assumption | omega); (case e4 => first | assumption | omega); (case e5 => first | assumption | omega); (case e6 => first | assumption | omega); (case hn1 => first | assumption | omega); (case hn2 => first | assumption | omega); all_goals (intro t9 h9 tk9 F9 N9; (try simp only [AllLt, and_true] at l9); (try dsimp only); (try k_sweep); (try k_fold)))))
theorem jfromjd_c (n : Int) (t1 : Tok) (B : Below A₀ base outer h₀) (F : Fr h₀ L s.heap m) (X : (hd.heap_39 w.params).In h₀) (N : News h₀ L s.heap news) (T : Top p loose mean mg mb h₀) (hk : cs.kind = .function)
    (hdp : dp + 2 < recursionLimit) (hun : un + 16 < cLine)
    (hn1 : -5000000000 ≤ n) (hn2 : n ≤ 5000000000)
    (h1 : ∀ y mo d, 1 ≤ mo → mo ≤ 12 → 1 ≤ d → (mo = 2 → d ≤ 29 - (y % 4 + 3) / 4) → (mo = 4 ∨ mo = 6 ∨ mo = 9 ∨ mo = 11 → d ≤ 30) → d ≤ 31 → (mo ≤ 2 → n = 365 * (y + 4712) + (y + 4715) / 4 + (367 * mo - 362) / 12 + d - 1) → (2 < mo → n = 365 * (y + 4712) + (y + 4715) / 4 + (367 * mo - 362) / 12 + d - 2 - (y % 4 + 3) / 4) → RetT h₀ L m news s Q y mo d) :
    Goes w dp un gd cn cs L a ccd cl outer 100 [.float (HF (2 * n - 1)) t1] Q E s := by
  unfold Goes
  revert X; k_fill; intro X
  refine wpAny_call ?_
  k_dflt (refine' code_def (binds := [(Str.ofString "jd", .float (HF (2 * n - 1)) t1)]) ?k1 ?k2 ?k3 ?k4 ?k5 ?kA ?kF ?kK ?k6 ?k7 ?k8 ?k9 ?kB ?_ ?c2 ?c3 ?c4 ?c5; (case kA => exact rfl); (case kF => exact rfl); (case kK => assumption); (case k1 => k_asm); (case k2 => k_asm); (case k3 => k_asm); (case k4 => k_asm); (case k5 => k_asm); (case k6 => k_is); (case k7 => k_is); (case k8 => (dsimp only [ktrTop]; omega)); (case k9 => exact BindsTo.of_eq rfl); (case c5 => decide); (case kB => exact locs rfl); (case c2 => exact rfl); (case c3 => exact rfl); (case c4 => exact rfl); k_whole; intro g' L' h' FG' F' N' B' X' T'; (try dsimp only); (try k_fold))
  k_steps
  · have J := Mine.jul_back (n := n) (by assumption) (by assumption) (by assumption) (by assumption) (by assumption)
    obtain ⟨g1, g2, g3, g4, g5, g6, g7, g8⟩ := J.1 (by assumption)
    exact h1 _ _ _ g1 g2 g3 g4 g5 g6 g7 g8 _ _ _ _ _ _ _ (by k_asm) (by k_asm) (by first | k_asm | exact allLt_of (by assumption))
  · have J := Mine.jul_back (n := n) (by assumption) (by assumption) (by assumption) (by assumption) (by assumption)
    obtain ⟨g1, g2, g3, g4, g5, g6, g7, g8⟩ := J.2 (by assumption)
    exact h1 _ _ _ g1 g2 g3 g4 g5 g6 g7 g8 _ _ _ _ _ _ _ (by k_asm) (by k_asm) (by first | k_asm | exact allLt_of (by assumption))
local macro_rules | `(tactic| walk_at "call ref") => `(tactic| (k_here; (with_reducible show wpAny _ _ (call (Value.ref 100) _) _ _ _); k_dflt (refine' Mine.jfromjd_c _ _ ?k1 ?k2 ?k3 ?k4 ?k5 ?kK ?kd ?ku ?hn1 ?hn2 ?_; (case k1 => k_asm); (case k2 => k_asm); (case k3 => k_asm); (case k4 => k_asm); (case k5 => k_asm); (case kK => first | exact rfl | assumption); (case kd => (dsimp only [ktrTop]; omega)); (case ku => (dsimp only [ktrTop]; omega)); (case hn1 => first | omega | assumption); (case hn2 => first | omega | assumption); all_goals (intro y9 mo9 d9 g1 g2 g3 g4 g5 g6 g7 g8 D9 u1 u2 u3 c9 h9 tk9 F9 N9 l9; (try simp only [AllLt, and_true] at l9); (try dsimp only); (try k_sweep); (try k_fold)))))
theorem fgj_c (n y mo d : Int) (t1 t2 t3 : Tok) (B : Below A₀ base outer h₀) (F : Fr h₀ L s.heap m) (X : (hd.heap_39 w.params).In h₀) (N : News h₀ L s.heap news) (T : Top p loose mean mg mb h₀) (hk : cs.kind = .function)
    (hdp : dp + 9 < recursionLimit) (hun : un + 72 < cLine)
    (e7 : mo ≤ 2 → n = 365 * (y - 1) + (y - 1) / 4 - (y - 1) / 100 + (y - 1) / 400 + 1721425 + (367 * mo - 362) / 12 + d) (e8 : 2 < mo → n = 365 * (y - 1) + (y - 1) / 4 - (y - 1) / 100 + (y - 1) / 400 + 1721425 + (367 * mo - 362) / 12 + d - 2 + lpN y) (e1 : 1 ≤ mo) (e2 : mo ≤ 12) (e3 : 1 ≤ d) (e4 : mo = 2 → d ≤ 28 + lpN y) (e5 : mo = 4 ∨ mo = 6 ∨ mo = 9 ∨ mo = 11 → d ≤ 30) (e6 : d ≤ 31) (hn1 : -5000000000 ≤ n) (hn2 : n ≤ 5000000000)
    (h1 : ∀ y mo d, 1 ≤ mo → mo ≤ 12 → 1 ≤ d → (mo = 2 → d ≤ 29 - (y % 4 + 3) / 4) → (mo = 4 ∨ mo = 6 ∨ mo = 9 ∨ mo = 11 → d ≤ 30) → d ≤ 31 → (mo ≤ 2 → n = 365 * (y + 4712) + (y + 4715) / 4 + (367 * mo - 362) / 12 + d - 1) → (2 < mo → n = 365 * (y + 4712) + (y + 4715) / 4 + (367 * mo - 362) / 12 + d - 2 - (y % 4 + 3) / 4) → RetT h₀ L m news s Q y mo d) :
    Goes w dp un gd cn cs L a ccd cl outer 114 [.int y t1, .int mo t2, .int d t3] Q E s := by
  unfold Goes
  revert X; k_fill; intro X
  refine wpAny_call ?_
  k_dflt (refine' code_def (binds := [(Str.ofString "year", .int y t1), (Str.ofString "month", .int mo t2), (Str.ofString "day", .int d t3)]) ?k1 ?k2 ?k3 ?k4 ?k5 ?kA ?kF ?kK ?k6 ?k7 ?k8 ?k9 ?kB ?_ ?c2 ?c3 ?c4 ?c5; (case kA => exact rfl); (case kF => exact rfl); (case kK => assumption); (case k1 => k_asm); (case k2 => k_asm); (case k3 => k_asm); (case k4 => k_asm); (case k5 => k_asm); (case k6 => k_is); (case k7 => k_is); (case k8 => (dsimp only [ktrTop]; omega)); (case k9 => exact BindsTo.of_eq rfl); (case c5 => decide); (case kB => exact locs rfl); (case c2 => exact rfl); (case c3 => exact rfl); (case c4 => exact rfl); k_whole; intro g' L' h' FG' F' N' B' X' T'; (try dsimp only); (try k_fold))
  k_steps
  all_goals
    refine' h1 _ _ _ ?_ ?_ ?_ ?_ ?_ ?_ ?_ ?_ _ _ _ _ _ _ _ ?F ?N ?l
    (case F => k_asm)
    (case N => k_asm)
    (case l => first | k_asm | exact allLt_of (by assumption))
    all_goals assumption
theorem tgj_c (n y mo d : Int) (t1 t2 t3 : Tok) (B : Below A₀ base outer h₀) (F : Fr h₀ L s.heap m) (X : (hd.heap_39 w.params).In h₀) (N : News h₀ L s.heap news) (T : Top p loose mean mg mb h₀) (hk : cs.kind = .function)
    (hdp : dp + 9 < recursionLimit) (hun : un + 72 < cLine)
    (e7 : mo ≤ 2 → n = 365 * (y + 4712) + (y + 4715) / 4 + (367 * mo - 362) / 12 + d - 1) (e8 : 2 < mo → n = 365 * (y + 4712) + (y + 4715) / 4 + (367 * mo - 362) / 12 + d - 2 - (y % 4 + 3) / 4) (e1 : 1 ≤ mo) (e2 : mo ≤ 12) (e3 : 1 ≤ d) (e4 : mo = 2 → d ≤ 29 - (y % 4 + 3) / 4) (e5 : mo = 4 ∨ mo = 6 ∨ mo = 9 ∨ mo = 11 → d ≤ 30) (e6 : d ≤ 31) (hn1 : -5000000000 ≤ n) (hn2 : n ≤ 5000000000)
    (h1 : ∀ y mo d, 1 ≤ mo → mo ≤ 12 → 1 ≤ d → (mo = 2 → d ≤ 28 + lpN y) → (mo = 4 ∨ mo = 6 ∨ mo = 9 ∨ mo = 11 → d ≤ 30) → d ≤ 31 → (mo ≤ 2 → n = 365 * (y - 1) + (y - 1) / 4 - (y - 1) / 100 + (y - 1) / 400 + 1721425 + (367 * mo - 362) / 12 + d) → (2 < mo → n = 365 * (y - 1) + (y - 1) / 4 - (y - 1) / 100 + (y - 1) / 400 + 1721425 + (367 * mo - 362) / 12 + d - 2 + lpN y) → RetT h₀ L m news s Q y mo d) :
    Goes w dp un gd cn cs L a ccd cl outer 121 [.int y t1, .int mo t2, .int d t3] Q E s := by
  unfold Goes
  revert X; k_fill; intro X
  refine wpAny_call ?_
  k_dflt (refine' code_def (binds := [(Str.ofString "year", .int y t1), (Str.ofString "month", .int mo t2), (Str.ofString "day", .int d t3)]) ?k1 ?k2 ?k3 ?k4 ?k5 ?kA ?kF ?kK ?k6 ?k7 ?k8 ?k9 ?kB ?_ ?c2 ?c3 ?c4 ?c5; (case kA => exact rfl); (case kF => exact rfl); (case kK => assumption); (case k1 => k_asm); (case k2 => k_asm); (case k3 => k_asm); (case k4 => k_asm); (case k5 => k_asm); (case k6 => k_is); (case k7 => k_is); (case k8 => (dsimp only [ktrTop]; omega)); (case k9 => exact BindsTo.of_eq rfl); (case c5 => decide); (case kB => exact locs rfl); (case c2 => exact rfl); (case c3 => exact rfl); (case c4 => exact rfl); k_whole; intro g' L' h' FG' F' N' B' X' T'; (try dsimp only); (try k_fold))
  k_steps
  all_goals
    refine' h1 _ _ _ ?_ ?_ ?_ ?_ ?_ ?_ ?_ ?_ _ _ _ _ _ _ _ ?F ?N ?l
    (case F => k_asm)
    (case N => k_asm)
    (case l => first | k_asm | exact allLt_of (by assumption))
    all_goals assumption
end
end Mine
-- CI
namespace Mine
set_option maxRecDepth 100000
set_option maxHeartbeats 8000000
open PySem PySem.W PyProof.Rows PySem.Calls
theorem still_CI : True := by w_top off; trivial
local macro_rules | `(tactic| walk_at "binaryOp Mod int int") => `(tactic| (k_here; (refine' Mine.r_mod_ii ?ba ?_; (case ba => decide); k_whole)))
local macro_rules | `(tactic| walk_at "ite") => `(tactic| (k_here; k_openite; first
  | (refine ite_pos (by ((try simp only [decide_eq_true_eq, beq_iff_eq, bne_iff_ne, ne_eq]); omega)) ?_)
  | (refine ite_neg (by ((try simp only [decide_eq_true_eq, beq_iff_eq, bne_iff_ne, ne_eq]); omega)) ?_)))
local macro_rules | `(tactic| walk_at "eval Name") => `(tactic| (k_here; (name_kind "globalImplicit"); k_dflt (refine' nameX_K ?F ?X ?T ?e ?_ ?a ?b; (case F => k_asm); (case X => k_asm); (case T => k_asm); (case a => rfl); (case b => rfl); (case e => k_is); k_whole)))
local macro_rules | `(tactic| walk_at "eval Name") => `(tactic| (k_here; (name_kind "local"); k_dflt (refine' nameX_L ?F ?v ?_ ?a ?b; (case F => k_asm); (case a => rfl); (case b => rfl); (case v => first | rfl | assumption); k_whole)))
local macro_rules | `(tactic| walk_at "binaryOp Add int bool") => `(tactic| (k_here; (first | with_reducible refine Mine.r_add_it ?_ | with_reducible refine Mine.r_add_i0 ?_)))
local macro_rules | `(tactic| walk_at "binaryOp Sub int bool") => `(tactic| (k_here; (first | with_reducible refine Mine.r_sub_it ?_ | with_reducible refine Mine.r_sub_i0 ?_)))
local macro_rules | `(tactic| walk_at "eval Call Name") => `(tactic| (k_here; k_dflt (refine Call_ ?_)))
local macro_rules | `(tactic| walk_at "exec If") => `(tactic| (k_here; k_dflt (refine wpAny_If ?_)))
local macro_rules | `(tactic| walk_at "binaryOp Add float float") => `(tactic| (k_here; (with_reducible refine' Mine.r_add_ff ?hx ?hy ?bal ?bau ?bbl ?bbu ?_); k_dflt ((case hx => first | with_reducible exact Mine.c_half | with_reducible exact Mine.c_greg | with_reducible exact Mine.c_isl | with_reducible exact Mine.c_cop | with_reducible exact Mine.c_295 | with_reducible exact Mine.c_1524 | with_reducible rfl); (case hy => first | with_reducible exact Mine.c_half | with_reducible exact Mine.c_greg | with_reducible exact Mine.c_isl | with_reducible exact Mine.c_cop | with_reducible exact Mine.c_295 | with_reducible exact Mine.c_1524 | with_reducible rfl); (case bal => first | decide | (law_clear; omega) | omega); (case bau => first | decide | (law_clear; omega) | omega); (case bbl => first | decide | (law_clear; omega) | omega); (case bbu => first | decide | (law_clear; omega) | omega); k_whole)))
local macro_rules | `(tactic| walk_at "binaryOp Sub float float") => `(tactic| (k_here; (with_reducible refine' Mine.r_sub_ff ?hx ?hy ?bal ?bau ?bbl ?bbu ?_); k_dflt ((case hx => first | with_reducible exact Mine.c_half | with_reducible exact Mine.c_greg | with_reducible exact Mine.c_isl | with_reducible exact Mine.c_cop | with_reducible exact Mine.c_295 | with_reducible exact Mine.c_1524 | with_reducible rfl); (case hy => first | with_reducible exact Mine.c_half | with_reducible exact Mine.c_greg | with_reducible exact Mine.c_isl | with_reducible exact Mine.c_cop | with_reducible exact Mine.c_295 | with_reducible exact Mine.c_1524 | with_reducible rfl); (case bal => first | decide | (law_clear; omega) | omega); (case bau => first | decide | (law_clear; omega) | omega); (case bbl => first | decide | (law_clear; omega) | omega); (case bbu => first | decide | (law_clear; omega) | omega); k_whole)))
local macro_rules | `(tactic| walk_at "inplaceOp Add float float") => `(tactic| (k_here; (with_reducible refine' Mine.r_iadd_ff ?hx ?hy ?bal ?bau ?bbl ?bbu ?_); k_dflt ((case hx => first | with_reducible exact Mine.c_half | with_reducible exact Mine.c_greg | with_reducible exact Mine.c_isl | with_reducible exact Mine.c_cop | with_reducible exact Mine.c_295 | with_reducible exact Mine.c_1524 | with_reducible rfl); (case hy => first | with_reducible exact Mine.c_half | with_reducible exact Mine.c_greg | with_reducible exact Mine.c_isl | with_reducible exact Mine.c_cop | with_reducible exact Mine.c_295 | with_reducible exact Mine.c_1524 | with_reducible rfl); (case bal => first | decide | (law_clear; omega) | omega); (case bau => first | decide | (law_clear; omega) | omega); (case bbl => first | decide | (law_clear; omega) | omega); (case bbu => first | decide | (law_clear; omega) | omega); k_whole)))
local macro_rules | `(tactic| walk_at "binaryOp Add float int") => `(tactic| (k_here; (with_reducible refine' Mine.r_add_xi ?hnl ?hnu ?_); k_dflt ((case hnl => first | decide | (law_clear; omega) | omega); (case hnu => first | decide | (law_clear; omega) | omega); k_whole)))
local macro_rules | `(tactic| walk_at "binaryOp Add float int") => `(tactic| (k_here; (with_reducible refine' Mine.r_add_fi ?hx ?bal ?bau ?bbl ?bbu ?_); k_dflt ((case hx => first | with_reducible exact Mine.c_half | with_reducible exact Mine.c_greg | with_reducible exact Mine.c_isl | with_reducible exact Mine.c_cop | with_reducible exact Mine.c_295 | with_reducible exact Mine.c_1524 | with_reducible rfl); (case bal => first | decide | (law_clear; omega) | omega); (case bau => first | decide | (law_clear; omega) | omega); (case bbl => first | decide | (law_clear; omega) | omega); (case bbu => first | decide | (law_clear; omega) | omega); k_whole)))
local macro_rules | `(tactic| walk_at "binaryOp Sub float int") => `(tactic| (k_here; (with_reducible refine' Mine.r_sub_fi ?hx ?bal ?bau ?bbl ?bbu ?_); k_dflt ((case hx => first | with_reducible exact Mine.c_half | with_reducible exact Mine.c_greg | with_reducible exact Mine.c_isl | with_reducible exact Mine.c_cop | with_reducible exact Mine.c_295 | with_reducible exact Mine.c_1524 | with_reducible rfl); (case bal => first | decide | (law_clear; omega) | omega); (case bau => first | decide | (law_clear; omega) | omega); (case bbl => first | decide | (law_clear; omega) | omega); (case bbu => first | decide | (law_clear; omega) | omega); k_whole)))
local macro_rules | `(tactic| walk_at "inplaceOp Add float int") => `(tactic| (k_here; (with_reducible refine' Mine.r_iadd_fi ?hx ?bal ?bau ?bbl ?bbu ?_); k_dflt ((case hx => first | with_reducible exact Mine.c_half | with_reducible exact Mine.c_greg | with_reducible exact Mine.c_isl | with_reducible exact Mine.c_cop | with_reducible exact Mine.c_295 | with_reducible exact Mine.c_1524 | with_reducible rfl); (case bal => first | decide | (law_clear; omega) | omega); (case bau => first | decide | (law_clear; omega) | omega); (case bbl => first | decide | (law_clear; omega) | omega); (case bbu => first | decide | (law_clear; omega) | omega); k_whole)))
local macro_rules | `(tactic| walk_at "inplaceOp Sub float int") => `(tactic| (k_here; (with_reducible refine' Mine.r_isub_fi ?hx ?bal ?bau ?bbl ?bbu ?_); k_dflt ((case hx => first | with_reducible exact Mine.c_half | with_reducible exact Mine.c_greg | with_reducible exact Mine.c_isl | with_reducible exact Mine.c_cop | with_reducible exact Mine.c_295 | with_reducible exact Mine.c_1524 | with_reducible rfl); (case bal => first | decide | (law_clear; omega) | omega); (case bau => first | decide | (law_clear; omega) | omega); (case bbl => first | decide | (law_clear; omega) | omega); (case bbu => first | decide | (law_clear; omega) | omega); k_whole)))
local macro_rules | `(tactic| walk_at "binaryOp Sub int float") => `(tactic| (k_here; (with_reducible refine' Mine.r_sub_ic ?hnl ?hnu ?_); k_dflt ((case hnl => first | decide | (law_clear; omega) | omega); (case hnu => first | decide | (law_clear; omega) | omega); k_whole)))
local macro_rules | `(tactic| walk_at "binaryOp Add int float") => `(tactic| (k_here; (with_reducible refine' Mine.r_add_if ?hx ?bal ?bau ?bbl ?bbu ?_); k_dflt ((case hx => first | with_reducible exact Mine.c_half | with_reducible exact Mine.c_greg | with_reducible exact Mine.c_isl | with_reducible exact Mine.c_cop | with_reducible exact Mine.c_295 | with_reducible exact Mine.c_1524 | with_reducible rfl); (case bal => first | decide | (law_clear; omega) | omega); (case bau => first | decide | (law_clear; omega) | omega); (case bbl => first | decide | (law_clear; omega) | omega); (case bbu => first | decide | (law_clear; omega) | omega); k_whole)))
local macro_rules | `(tactic| walk_at "binaryOp Sub int float") => `(tactic| (k_here; (with_reducible refine' Mine.r_sub_if ?hx ?bal ?bau ?bbl ?bbu ?_); k_dflt ((case hx => first | with_reducible exact Mine.c_half | with_reducible exact Mine.c_greg | with_reducible exact Mine.c_isl | with_reducible exact Mine.c_cop | with_reducible exact Mine.c_295 | with_reducible exact Mine.c_1524 | with_reducible rfl); (case bal => first | decide | (law_clear; omega) | omega); (case bau => first | decide | (law_clear; omega) | omega); (case bbl => first | decide | (law_clear; omega) | omega); (case bbu => first | decide | (law_clear; omega) | omega); k_whole)))
local macro_rules | `(tactic| walk_at "binaryOp Mult float int") => `(tactic| (k_here; (with_reducible refine' Mine.r_mul_xi ?hnl ?hnu ?_); k_dflt ((case hnl => first | decide | (law_clear; omega) | omega); (case hnu => first | decide | (law_clear; omega) | omega); k_whole)))
local macro_rules | `(tactic| walk_at "binaryOp Mult float int") => `(tactic| (k_here; (with_reducible refine' Mine.r_mul_ci ?hx ?ha ?ha2 ?bnl ?bnu ?_); k_dflt ((case hx => first | with_reducible exact Mine.c_half | with_reducible exact Mine.c_greg | with_reducible exact Mine.c_isl | with_reducible exact Mine.c_cop | with_reducible exact Mine.c_295 | with_reducible exact Mine.c_1524 | with_reducible rfl); (case ha => decide); (case ha2 => decide); (case bnl => first | decide | (law_clear; omega) | omega); (case bnu => first | decide | (law_clear; omega) | omega); k_whole)))
local macro_rules | `(tactic| walk_at "binaryOp Mult float int") => `(tactic| (k_here; (with_reducible refine' Mine.r_mul_fi ?hx ?hn ?hn2 ?bal ?bau ?_); k_dflt ((case hx => first | with_reducible exact Mine.c_half | with_reducible exact Mine.c_greg | with_reducible exact Mine.c_isl | with_reducible exact Mine.c_cop | with_reducible exact Mine.c_295 | with_reducible exact Mine.c_1524 | with_reducible rfl); (case hn => decide); (case hn2 => decide); (case bal => first | decide | (law_clear; omega) | omega); (case bau => first | decide | (law_clear; omega) | omega); k_whole)))
local macro_rules | `(tactic| walk_at "binaryOp Mult int float") => `(tactic| (k_here; (with_reducible refine' Mine.r_mul_if ?hx ?hn ?hn2 ?bal ?bau ?_); k_dflt ((case hx => first | with_reducible exact Mine.c_half | with_reducible exact Mine.c_greg | with_reducible exact Mine.c_isl | with_reducible exact Mine.c_cop | with_reducible exact Mine.c_295 | with_reducible exact Mine.c_1524 | with_reducible rfl); (case hn => decide); (case hn2 => decide); (case bal => first | decide | (law_clear; omega) | omega); (case bau => first | decide | (law_clear; omega) | omega); k_whole)))
local macro_rules | `(tactic| walk_at "binaryOp Mod float int") => `(tactic| (k_here; (with_reducible refine' Mine.r_mod_q ?hA ?hx ?hn ?hn2 ?bal ?bau ?_); k_dflt ((case hA => exact rfl); (case hx => first | with_reducible exact Mine.c_half | with_reducible exact Mine.c_greg | with_reducible exact Mine.c_isl | with_reducible exact Mine.c_cop | with_reducible exact Mine.c_295 | with_reducible exact Mine.c_1524 | with_reducible rfl); (case hn => decide); (case hn2 => decide); (case bal => first | decide | (law_clear; omega) | omega); (case bau => first | decide | (law_clear; omega) | omega); k_whole); intro r9 hr9 hr0 hr1))
local macro_rules | `(tactic| walk_at "binaryOp Div float int") => `(tactic| (k_here; (with_reducible refine' Mine.r_div_fi ?hA ?hn ?hn2 ?_); k_dflt ((case hA => exact rfl); (case hn => decide); (case hn2 => decide); k_whole)))
local macro_rules | `(tactic| walk_at "binaryOp Div float float") => `(tactic| (k_here; (with_reducible refine' Mine.r_div_fc ?hA ?hz ?_); k_dflt ((case hA => exact rfl); (case hz => decide +kernel); k_whole)))
local macro_rules | `(tactic| walk_at "binaryOp Div float float") => `(tactic| (k_here; (with_reducible refine' Mine.r_div_ff ?hA ?hy ?hb ?hb2 ?_); k_dflt ((case hA => exact rfl); (case hy => first | with_reducible exact Mine.c_half | with_reducible exact Mine.c_greg | with_reducible exact Mine.c_isl | with_reducible exact Mine.c_cop | with_reducible exact Mine.c_295 | with_reducible exact Mine.c_1524 | with_reducible rfl); (case hb => decide); (case hb2 => decide); k_whole)))
local macro_rules | `(tactic| walk_at "binaryOp Div int float") => `(tactic| (k_here; (with_reducible refine' Mine.r_div_ic ?hA ?hnl ?hnu ?hz ?_); k_dflt ((case hA => exact rfl); (case hnl => first | decide | (law_clear; omega) | omega); (case hnu => first | decide | (law_clear; omega) | omega); (case hz => decide +kernel); k_whole)))
local macro_rules | `(tactic| walk_at "binaryOp Div int int") => `(tactic| (k_here; (with_reducible refine' Mine.r_div_ii ?hA ?hb ?hal ?hau ?_); k_dflt ((case hA => exact rfl); (case hb => decide); (case hal => first | decide | (law_clear; omega) | omega); (case hau => first | decide | (law_clear; omega) | omega); k_whole)))
local macro_rules | `(tactic| walk_at "call builtin:math.floor") => `(tactic| (k_here; (with_reducible refine' Mine.r_floor_g ?hA ?hx ?hm0 ?hm1 ?ha0 ?ha1 ?hd0 ?hd1 ?_); k_dflt ((case hA => exact rfl); (case hx => first | with_reducible exact rfl | exact rfl); (case hm0 => first | decide | (law_clear; omega) | omega); (case hm1 => first | decide | (law_clear; omega) | omega); (case ha0 => first | decide | (law_clear; omega) | omega); (case ha1 => first | decide | (law_clear; omega) | omega); (case hd0 => first | decide | (law_clear; omega) | omega); (case hd1 => first | decide | (law_clear; omega) | omega); k_whole); intro q9 hq0))
local macro_rules | `(tactic| walk_at "call builtin:math.floor") => `(tactic| (k_here; (with_reducible refine' Mine.r_floor_jm ?hA ?hx ?b0 ?b1 ?_); k_dflt ((case hA => exact rfl); (case hx => first | with_reducible exact rfl | exact rfl); (case b0 => first | decide | (law_clear; omega) | omega); (case b1 => first | decide | (law_clear; omega) | omega); k_whole); intro q9 hq0))
local macro_rules | `(tactic| walk_at "call builtin:math.floor") => `(tactic| (k_here; (with_reducible refine' Mine.r_floor_je ?hA ?hx ?b0 ?b1 ?_); k_dflt ((case hA => exact rfl); (case hx => first | with_reducible exact rfl | exact rfl); (case b0 => first | decide | (law_clear; omega) | omega); (case b1 => first | decide | (law_clear; omega) | omega); k_whole); intro q9 hq0))
local macro_rules | `(tactic| walk_at "call builtin:math.floor") => `(tactic| (k_here; (with_reducible refine' Mine.r_floor_jd ?hA ?hx ?bnl ?bnu ?_); k_dflt ((case hA => exact rfl); (case hx => first | with_reducible exact rfl | exact rfl); (case bnl => first | decide | (law_clear; omega) | omega); (case bnu => first | decide | (law_clear; omega) | omega); k_whole); intro q9 hq0))
local macro_rules | `(tactic| walk_at "call builtin:math.floor") => `(tactic| (k_here; (with_reducible refine' Mine.r_floor_jc ?hA ?hx ?bnl ?bnu ?_); k_dflt ((case hA => exact rfl); (case hx => first | with_reducible exact rfl | exact rfl); (case bnl => first | decide | (law_clear; omega) | omega); (case bnu => first | decide | (law_clear; omega) | omega); k_whole); intro q9 hq0))
local macro_rules | `(tactic| walk_at "call builtin:math.floor") => `(tactic| (k_here; (with_reducible refine' Mine.r_floor_ii ?hA ?hb ?hb2 ?bal ?bau ?k1 ?k2 ?_); k_dflt ((case hA => exact rfl); (case hb => decide); (case hb2 => decide); (case bal => first | decide | (law_clear; omega) | omega); (case bau => first | decide | (law_clear; omega) | omega); (case k1 => first | decide | (law_clear; omega) | omega); (case k2 => first | decide | (law_clear; omega) | omega); k_whole); intro q9 hq0))
local macro_rules | `(tactic| walk_at "call builtin:math.floor") => `(tactic| (k_here; (with_reducible refine' Mine.r_floor_div ?hA ?hb ?hb2 ?bal ?bau ?k1 ?k2 ?_); k_dflt ((case hA => exact rfl); (case hb => decide); (case hb2 => decide); (case bal => first | decide | (law_clear; omega) | omega); (case bau => first | decide | (law_clear; omega) | omega); (case k1 => first | decide | (law_clear; omega) | omega); (case k2 => first | decide | (law_clear; omega) | omega); k_whole); intro q9 hq0))
local macro_rules | `(tactic| walk_at "call builtin:math.floor") => `(tactic| (k_here; (with_reducible refine' Mine.r_floor_hf ?hA ?bal ?bau ?_); k_dflt ((case hA => exact rfl); (case bal => first | decide | (law_clear; omega) | omega); (case bau => first | decide | (law_clear; omega) | omega); k_whole); intro q9 hq0))
local macro_rules | `(tactic| walk_at "call builtin:math.ceil") => `(tactic| (k_here; (with_reducible refine' Mine.r_ceil_div ?hA ?hb ?hb2 ?bal ?bau ?k1 ?k2 ?_); k_dflt ((case hA => exact rfl); (case hb => decide); (case hb2 => decide); (case bal => first | decide | (law_clear; omega) | omega); (case bau => first | decide | (law_clear; omega) | omega); (case k1 => first | decide | (law_clear; omega) | omega); (case k2 => first | decide | (law_clear; omega) | omega); k_whole); intro q9 hq0 hq1))
local macro_rules | `(tactic| walk_at "call builtin:math.ceil") => `(tactic| (k_here; (with_reducible refine' Mine.r_ceil_hf ?hA ?bal ?bau ?_); k_dflt ((case hA => exact rfl); (case bal => first | decide | (law_clear; omega) | omega); (case bau => first | decide | (law_clear; omega) | omega); k_whole); intro q9 hq0 hq1))
local macro_rules | `(tactic| walk_at "call type:int") => `(tactic| (k_here; (with_reducible refine' Mine.r_trunc_hf ?hA ?bal ?bau ?he ?_); k_dflt ((case hA => exact rfl); (case bal => first | decide | (law_clear; omega) | omega); (case bau => first | decide | (law_clear; omega) | omega); (case he => first | decide | (law_clear; omega) | omega); k_whole); intro q9 hq0))
local macro_rules | `(tactic| walk_at "compareOp Lt float int") => `(tactic| (k_here; (with_reducible refine' Mine.r_lt_fi ?hx ?bal ?bau ?_); k_dflt ((case hx => first | with_reducible exact Mine.c_half | with_reducible exact Mine.c_greg | with_reducible exact Mine.c_isl | with_reducible exact Mine.c_cop | with_reducible exact Mine.c_295 | with_reducible exact Mine.c_1524 | with_reducible rfl); (case bal => first | decide | (law_clear; omega) | omega); (case bau => first | decide | (law_clear; omega) | omega); k_whole)))
local macro_rules | `(tactic| walk_at "compareOp NotEq float float") => `(tactic| (k_here; (with_reducible refine' Mine.r_ne_ff ?hx ?hy ?bal ?bau ?bbl ?bbu ?hab ?_); k_dflt ((case hx => first | with_reducible exact Mine.c_half | with_reducible exact Mine.c_greg | with_reducible exact Mine.c_isl | with_reducible exact Mine.c_cop | with_reducible exact Mine.c_295 | with_reducible exact Mine.c_1524 | with_reducible rfl); (case hy => first | with_reducible exact Mine.c_half | with_reducible exact Mine.c_greg | with_reducible exact Mine.c_isl | with_reducible exact Mine.c_cop | with_reducible exact Mine.c_295 | with_reducible exact Mine.c_1524 | with_reducible rfl); (case bal => first | decide | (law_clear; omega) | omega); (case bau => first | decide | (law_clear; omega) | omega); (case bbl => first | decide | (law_clear; omega) | omega); (case bbu => first | decide | (law_clear; omega) | omega); (case hab => omega); k_whole)))
abbrev IOk (n y mo d : Int) : Prop := 1 ≤ mo ∧ mo ≤ 12 ∧ 1 ≤ d ∧ d ≤ 30 ∧ (mo % 2 = 0 → mo < 12 → d ≤ 29) ∧ (mo = 12 → d ≤ 29 + (14 + 11 * y) / 30 - (3 + 11 * y) / 30) ∧ n = d + (59 * (mo - 1) + 1) / 2 + 354 * (y - 1) + (3 + 11 * y) / 30 + 1948439
theorem isl_back {n a y M q M' k : Int} (h0 : a = (2 * n - 1) / 2) (hy : y = (30 * (2 * a + 1 - 3896879) + 2 * 10646) / (2 * 10631)) (hM : M = 1 + (59 * (1 - 1) + 1) / 2 + 354 * (y - 1) + (3 + 11 * y) / 30 + 1948439)
    (c1 : 2 * a + 1 - (2 * 29 + (2 * M - 1)) ≤ 59 * q) (c2 : 59 * q < 2 * a + 1 - (2 * 29 + (2 * M - 1)) + 59)
    (hM' : M' = 1 + (59 * ((if q + 1 < 12 then q + 1 else 12) - 1) + 1) / 2 + 354 * (y - 1) + (3 + 11 * y) / 30 + 1948439) (hk : 2 * a + 1 - (2 * M' - 1) = 2 * k) :
    IOk n y (if q + 1 < 12 then q + 1 else 12) (k + 1) := by
  have ha : a = n - 1 := by clear hy hM c1 c2 hM' hk; omega
  clear h0
  subst ha
  have hy2 : 10631 * y ≤ 30 * (n - 1948440) + 10646 ∧ 30 * (n - 1948440) + 10646 < 10631 * y + 10631 := by clear hM c1 c2 hM' hk; omega
  clear hy
  obtain ⟨f, hf⟩ : ∃ f, f = (3 + 11 * y) / 30 := ⟨_, rfl⟩
  obtain ⟨f2, hf2⟩ : ∃ f, f = (14 + 11 * y) / 30 := ⟨_, rfl⟩
  unfold IOk
  rw [← hf] at hM hM'
  rw [← hf, ← hf2]
  obtain ⟨x, hx⟩ : ∃ x, x = n - M := ⟨_, rfl⟩
  have hx0 : 0 ≤ x := by clear c1 c2 hM' hk; omega
  have hx1 : x ≤ 353 + f2 - f := by clear c1 c2 hM' hk; omega
  have hff : 0 ≤ f2 - f ∧ f2 - f ≤ 1 := by clear c1 c2 hM' hk hy2 hx hM hx0 hx1; omega
  have c1' : 2 * x - 58 ≤ 59 * q := by clear hM' hk hM hf hf2 hy2; omega
  have c2' : 59 * q < 2 * x + 1 := by clear hM' hk hM hf hf2 hy2; omega
  have hkx : n = M + x := by omega
  clear c1 c2 hf hf2 hy2 hx
  subst hkx
  have hq0 : 0 ≤ q := by omega
  have hq1 : q ≤ 12 := by omega
  have hqs : q = 0 ∨ q = 1 ∨ q = 2 ∨ q = 3 ∨ q = 4 ∨ q = 5 ∨ q = 6 ∨ q = 7 ∨ q = 8 ∨ q = 9 ∨ q = 10 ∨ q = 11 ∨ q = 12 := by omega
  rcases hqs with rfl | rfl | rfl | rfl | rfl | rfl | rfl | rfl | rfl | rfl | rfl | rfl | rfl <;>
    (simp only [Int.reduceAdd, Int.reduceLT, if_true, if_false] at hM' ⊢; first | omega | exact ⟨by decide, by decide, by omega, by omega, fun _ h => absurd h (by decide), fun _ => by omega, by omega⟩)
abbrev COk (n y mo d : Int) : Prop := 1 ≤ mo ∧ mo ≤ 13 ∧ 1 ≤ d ∧ d ≤ 30 ∧ (mo = 13 → d ≤ 5 + (y + 1) / 4 - y / 4) ∧ n = d + 30 * (mo - 1) + 365 * (y - 1) + y / 4 + 1825029
theorem cop_back {n a y M q k : Int} (h0 : a = (2 * n - 1 - 3650059) / 2) (hy : y = (4 * a + 1463) / 1461) (hM : M = 1 + 30 * (1 - 1) + 365 * (y - 1) + y / 4 + 1825029)
    (hq : q = (2 * n - 1 - (2 * M - 1)) / (2 * 30)) (hk : 2 * n - 1 - (2 * M - 1) - 2 * ((q + 1 - 1) * 30) + 2 * 1 = 2 * k) : COk n y (q + 1) k := by
  have ha : a = n - 1825030 := by clear hy hM hq hk; omega
  clear h0
  subst ha
  have hy2 : 1461 * y ≤ 4 * (n - 1825030) + 1463 ∧ 4 * (n - 1825030) + 1463 < 1461 * y + 1461 := by clear hM hq hk; omega
  clear hy
  obtain ⟨j, r, hj, r0, r3⟩ : ∃ j r, y = 4 * j + r ∧ 0 ≤ r ∧ r ≤ 3 := ⟨y / 4, y % 4, by omega, by omega, by omega⟩
  have e1 : y / 4 = j := by omega
  have e2 : (y + 1) / 4 = j + (r + 1) / 4 := by omega
  unfold COk
  rw [e1] at hM
  rw [e1, e2]
  clear e1 e2
  have hq2 : 30 * q ≤ n - M ∧ n - M < 30 * q + 30 := by clear hM hk hy2; omega
  clear hq
  subst hj
  have : r = 0 ∨ r = 1 ∨ r = 2 ∨ r = 3 := by omega
  rcases this with rfl | rfl | rfl | rfl <;> omega
section
variable {w : World} {p : Program} {loose : List Str} {mean : ExcName → Option Value} {mg mb : Str → Option Value} {dp un : Nat} {gd : Option (List Code)} {cn : Str} {cs : Scope} {a : Addr} {ccd : Value} {cl : List (Str × Addr)} {outer : List Env} {A₀ : Around} {base h₀ : Heap} {L : Addr} {m : Str → Option Value} {news : List (Addr × Obj)} {s : Shared} {Q E : Value → Shared → Prop}
local macro_rules | `(tactic| walk_at "call ref") => `(tactic| (k_here; (with_reducible show wpAny _ _ (call (Value.ref 50) _) _ _ _); k_dflt (refine' Mine.isleap_c _ _ ?k1 ?k2 ?k3 ?k4 ?k5 ?kK ?kd ?ku  ?_ ?_; (case k1 => k_asm); (case k2 => k_asm); (case k3 => k_asm); (case k4 => k_asm); (case k5 => k_asm); (case kK => first | exact rfl | assumption); (case kd => (dsimp only [ktrTop]; omega)); (case ku => (dsimp only [ktrTop]; omega)); all_goals (intro hc t9 h9 tk9 F9 N9; (try simp only [AllLt, and_true] at l9); (try dsimp only); (try k_sweep); (try k_fold)))))
local macro_rules | `(tactic| walk_at "call ref") => `(tactic| (k_here; (with_reducible show wpAny _ _ (call (Value.ref 57) _) _ _ _); k_dflt (refine' Mine.legal_g _ _ _ _ _ _ ?k1 ?k2 ?k3 ?k4 ?k5 ?kK ?kd ?ku ?hd1 ?hm2 ?hm3 ?hm4 ?_; (case k1 => k_asm); (case k2 => k_asm); (case k3 => k_asm); (case k4 => k_asm); (case k5 => k_asm); (case kK => first | exact rfl | assumption); (case kd => (dsimp only [ktrTop]; omega)); (case ku => (dsimp only [ktrTop]; omega)); (case hd1 => first | omega | assumption); (case hm2 => first | omega | assumption); (case hm3 => first | omega | assumption); (case hm4 => first | omega | assumption); all_goals (intro t9 h9 tk9 F9 N9; (try simp only [AllLt, and_true] at l9); (try dsimp only); (try k_sweep); (try k_fold)))))
local macro_rules | `(tactic| walk_at "call ref") => `(tactic| (k_here; (with_reducible show wpAny _ _ (call (Value.ref 64) _) _ _ _); k_dflt (refine' Mine.tojd_g _ _ _ _ _ _ ?k1 ?k2 ?k3 ?k4 ?k5 ?kK ?kd ?ku ?hy1 ?hy2 ?hmo1 ?hmo2 ?hd1 ?hm2 ?hm3 ?hm4 ?_; (case k1 => k_asm); (case k2 => k_asm); (case k3 => k_asm); (case k4 => k_asm); (case k5 => k_asm); (case kK => first | exact rfl | assumption); (case kd => (dsimp only [ktrTop]; omega)); (case ku => (dsimp only [ktrTop]; omega)); (case hy1 => first | omega | assumption); (case hy2 => first | omega | assumption); (case hmo1 => first | omega | assumption); (case hmo2 => first | omega | assumption); (case hd1 => first | omega | assumption); (case hm2 => first | omega | assumption); (case hm3 => first | omega | assumption); (case hm4 => first | omega | assumption); all_goals (intro M9 hM1 hM2 t9 h9 tk9 F9 N9; (first | (replace hM1 := hM1 (by omega); clear hM2) | (replace hM2 := hM2 (by omega); clear hM1) | skip); (try simp only [AllLt, and_true] at l9); (try dsimp only); (try k_sweep); (try k_fold)))))
local macro_rules | `(tactic| walk_at "call ref") => `(tactic| (k_here; (with_reducible show wpAny _ _ (call (Value.ref 71) _) _ _ _); k_dflt (refine' Mine.fromjd_g _ _ ?k1 ?k2 ?k3 ?k4 ?k5 ?kK ?kd ?ku ?hn1 ?hn2 ?_; (case k1 => k_asm); (case k2 => k_asm); (case k3 => k_asm); (case k4 => k_asm); (case k5 => k_asm); (case kK => first | exact rfl | assumption); (case kd => (dsimp only [ktrTop]; omega)); (case ku => (dsimp only [ktrTop]; omega)); (case hn1 => first | omega | assumption); (case hn2 => first | omega | assumption); all_goals (intro y9 mo9 d9 g1 g2 g3 g4 g5 g6 g7 g8 D9 u1 u2 u3 c9 h9 tk9 F9 N9 l9; (try simp only [AllLt, and_true] at l9); (try dsimp only); (try k_sweep); (try k_fold)))))
local macro_rules | `(tactic| walk_at "call ref") => `(tactic| (k_here; (with_reducible show wpAny _ _ (call (Value.ref 64) _) _ _ _); k_dflt (refine' Mine.tojd_n _ _ _ _ _ _ _ ?k1 ?k2 ?k3 ?k4 ?k5 ?kK ?kd ?ku ?e7 ?e8 ?e1 ?e2 ?e3 ?e4 ?e5 ?e6 ?hn1 ?hn2 ?_; (case k1 => k_asm); (case k2 => k_asm); (case k3 => k_asm); (case k4 => k_asm); (case k5 => k_asm); (case kK => first | exact rfl | assumption); (case kd => (dsimp only [ktrTop]; omega)); (case ku => (dsimp only [ktrTop]; omega)); (case e7 => first | assumption | omega); (case e8 => first | assumption | omega); (case e1 => first | assumption | omega); (case e2 => first | assumption | omega); (case e3 => first | assumption | omega); (case e4 => first | assumption | omega); (case e5 => first | assumption | omega); (case e6 => first | assumption | omega); (case hn1 => first | assumption | omega); (case hn2 => first | assumption | omega); all_goals (intro t9 h9 tk9 F9 N9; (try simp only [AllLt, and_true] at l9); (try dsimp only); (try k_sweep); (try k_fold)))))
theorem itojd_c (y mo d : Int) (t1 t2 t3 : Tok) (B : Below A₀ base outer h₀) (F : Fr h₀ L s.heap m) (X : (hd.heap_39 w.params).In h₀) (N : News h₀ L s.heap news) (T : Top p loose mean mg mb h₀) (hk : cs.kind = .function)
    (hdp : dp + 2 < recursionLimit) (hun : un + 16 < cLine)
    (hy1 : -30000000 ≤ y) (hy2 : y ≤ 30000000) (hmo1 : 1 ≤ mo) (hmo2 : mo ≤ 13) (hd1 : 1 ≤ d) (hd2 : d ≤ 31)
    (h1 : ∀ M, M = d + (59 * (mo - 1) + 1) / 2 + 354 * (y - 1) + (3 + 11 * y) / 30 + 1948439 → RetV h₀ L m news s Q fun t => .float (HF (2 * M - 1)) t) :
    Goes w dp un gd cn cs L a ccd cl outer 128 [.int y t1, .int mo t2, .int d t3] Q E s := by
  unfold Goes
  revert X; k_fill; intro X
  refine wpAny_call ?_
  k_dflt (refine' code_def (binds := [(Str.ofString "year", .int y t1), (Str.ofString "month", .int mo t2), (Str.ofString "day", .int d t3)]) ?k1 ?k2 ?k3 ?k4 ?k5 ?kA ?kF ?kK ?k6 ?k7 ?k8 ?k9 ?kB ?_ ?c2 ?c3 ?c4 ?c5; (case kA => exact rfl); (case kF => exact rfl); (case kK => assumption); (case k1 => k_asm); (case k2 => k_asm); (case k3 => k_asm); (case k4 => k_asm); (case k5 => k_asm); (case k6 => k_is); (case k7 => k_is); (case k8 => (dsimp only [ktrTop]; omega)); (case k9 => exact BindsTo.of_eq rfl); (case c5 => decide); (case kB => exact locs rfl); (case c2 => exact rfl); (case c3 => exact rfl); (case c4 => exact rfl); k_whole; intro g' L' h' FG' F' N' B' X' T'; (try dsimp only); (try k_fold))
  k_steps
  have hr := h1 (d + (59 * (mo - 1) + 1) / 2 + 354 * (y - 1) + (3 + 11 * y) / 30 + 1948439) rfl
  exact retF (s := s) hr (by law_clear; omega) (by k_asm) (by k_asm)
local macro_rules | `(tactic| walk_at "call ref") => `(tactic| (k_here; (with_reducible show wpAny _ _ (call (Value.ref 128) _) _ _ _); k_dflt (refine' Mine.itojd_c _ _ _ _ _ _ ?k1 ?k2 ?k3 ?k4 ?k5 ?kK ?kd ?ku ?hy1 ?hy2 ?hmo1 ?hmo2 ?hd1 ?hd2 ?_; (case k1 => k_asm); (case k2 => k_asm); (case k3 => k_asm); (case k4 => k_asm); (case k5 => k_asm); (case kK => first | exact rfl | assumption); (case kd => (dsimp only [ktrTop]; omega)); (case ku => (dsimp only [ktrTop]; omega)); (case hy1 => first | omega | assumption); (case hy2 => first | omega | assumption); (case hmo1 => first | omega | assumption); (case hmo2 => first | omega | assumption); (case hd1 => first | omega | assumption); (case hd2 => first | omega | assumption); all_goals (intro M9 hM1 t9 h9 tk9 F9 N9; (try simp only [AllLt, and_true] at l9); (try dsimp only); (try k_sweep); (try k_fold)))))
theorem itojd_n (n y mo d : Int) (t1 t2 t3 : Tok) (B : Below A₀ base outer h₀) (F : Fr h₀ L s.heap m) (X : (hd.heap_39 w.params).In h₀) (N : News h₀ L s.heap news) (T : Top p loose mean mg mb h₀) (hk : cs.kind = .function)
    (hdp : dp + 2 < recursionLimit) (hun : un + 16 < cLine)
    (e7 : n = d + (59 * (mo - 1) + 1) / 2 + 354 * (y - 1) + (3 + 11 * y) / 30 + 1948439) (e1 : 1 ≤ mo) (e2 : mo ≤ 12) (e3 : 1 ≤ d) (e4 : d ≤ 30) (e5 : mo % 2 = 0 → mo < 12 → d ≤ 29) (e6 : mo = 12 → d ≤ 29 + (14 + 11 * y) / 30 - (3 + 11 * y) / 30) (hn1 : -5000000000 ≤ n) (hn2 : n ≤ 5000000000)
    (h1 : RetV h₀ L m news s Q fun t => .float (HF (2 * n - 1)) t) :
    Goes w dp un gd cn cs L a ccd cl outer 128 [.int y t1, .int mo t2, .int d t3] Q E s := by
  have hyb : -20000000 ≤ y ∧ y ≤ 20000000 := by
    clear h1
    omega
  refine itojd_c y mo d t1 t2 t3 B F X N T hk hdp hun (by omega) (by omega) (by omega) (by omega) (by omega) (by omega) (fun M hM1 => ?_)
  have hMn : M = n := by rw [hM1, e7]
  subst hMn
  exact h1
local macro_rules | `(tactic| walk_at "call ref") => `(tactic| (k_here; (with_reducible show wpAny _ _ (call (Value.ref 128) _) _ _ _); k_dflt (refine' Mine.itojd_n _ _ _ _ _ _ _ ?k1 ?k2 ?k3 ?k4 ?k5 ?kK ?kd ?ku ?e7 ?e1 ?e2 ?e3 ?e4 ?e5 ?e6 ?hn1 ?hn2 ?_; (case k1 => k_asm); (case k2 => k_asm); (case k3 => k_asm); (case k4 => k_asm); (case k5 => k_asm); (case kK => first | exact rfl | assumption); (case kd => (dsimp only [ktrTop]; omega)); (case ku => (dsimp only [ktrTop]; omega)); (case e7 => first | assumption | omega); (case e1 => first | assumption | omega); (case e2 => first | assumption | omega); (case e3 => first | assumption | omega); (case e4 => first | assumption | omega); (case e5 => first | assumption | omega); (case e6 => first | assumption | omega); (case hn1 => first | assumption | omega); (case hn2 => first | assumption | omega); all_goals (intro t9 h9 tk9 F9 N9; (try simp only [AllLt, and_true] at l9); (try dsimp only); (try k_sweep); (try k_fold)))))
theorem ifromjd_c (n : Int) (t1 : Tok) (B : Below A₀ base outer h₀) (F : Fr h₀ L s.heap m) (X : (hd.heap_39 w.params).In h₀) (N : News h₀ L s.heap news) (T : Top p loose mean mg mb h₀) (hk : cs.kind = .function)
    (hdp : dp + 4 < recursionLimit) (hun : un + 32 < cLine)
    (hn1 : -5000000000 ≤ n) (hn2 : n ≤ 5000000000)
    (h1 : ∀ y mo d, 1 ≤ mo → mo ≤ 12 → 1 ≤ d → d ≤ 30 → (mo % 2 = 0 → mo < 12 → d ≤ 29) → (mo = 12 → d ≤ 29 + (14 + 11 * y) / 30 - (3 + 11 * y) / 30) → n = d + (59 * (mo - 1) + 1) / 2 + 354 * (y - 1) + (3 + 11 * y) / 30 + 1948439 → RetT h₀ L m news s Q y mo d) :
    Goes w dp un gd cn cs L a ccd cl outer 135 [.float (HF (2 * n - 1)) t1] Q E s := by
  unfold Goes
  revert X; k_fill; intro X
  refine wpAny_call ?_
  k_dflt (refine' code_def (binds := [(Str.ofString "jd", .float (HF (2 * n - 1)) t1)]) ?k1 ?k2 ?k3 ?k4 ?k5 ?kA ?kF ?kK ?k6 ?k7 ?k8 ?k9 ?kB ?_ ?c2 ?c3 ?c4 ?c5; (case kA => exact rfl); (case kF => exact rfl); (case kK => assumption); (case k1 => k_asm); (case k2 => k_asm); (case k3 => k_asm); (case k4 => k_asm); (case k5 => k_asm); (case k6 => k_is); (case k7 => k_is); (case k8 => (dsimp only [ktrTop]; omega)); (case k9 => exact BindsTo.of_eq rfl); (case c5 => decide); (case kB => exact locs rfl); (case c2 => exact rfl); (case c3 => exact rfl); (case c4 => exact rfl); k_whole; intro g' L' h' FG' F' N' B' X' T'; (try dsimp only); (try k_fold))
  k_steps
  have J := Mine.isl_back (n := n) (by assumption) (by assumption) (by assumption) (by assumption) (by assumption) (by assumption) (by assumption) 
  obtain ⟨g1, g2, g3, g4, g5, g6, g7⟩ := J
  exact h1 _ _ _ g1 g2 g3 g4 g5 g6 g7 _ _ _ _ _ _ _ (by k_asm) (by k_asm) (by first | k_asm | exact allLt_of (by assumption))
local macro_rules | `(tactic| walk_at "call ref") => `(tactic| (k_here; (with_reducible show wpAny _ _ (call (Value.ref 135) _) _ _ _); k_dflt (refine' Mine.ifromjd_c _ _ ?k1 ?k2 ?k3 ?k4 ?k5 ?kK ?kd ?ku ?hn1 ?hn2 ?_; (case k1 => k_asm); (case k2 => k_asm); (case k3 => k_asm); (case k4 => k_asm); (case k5 => k_asm); (case kK => first | exact rfl | assumption); (case kd => (dsimp only [ktrTop]; omega)); (case ku => (dsimp only [ktrTop]; omega)); (case hn1 => first | omega | assumption); (case hn2 => first | omega | assumption); all_goals (intro y9 mo9 d9 g1 g2 g3 g4 g5 g6 g7 D9 u1 u2 u3 c9 h9 tk9 F9 N9 l9; (try simp only [AllLt, and_true] at l9); (try dsimp only); (try k_sweep); (try k_fold)))))
theorem ctojd_c (y mo d : Int) (t1 t2 t3 : Tok) (B : Below A₀ base outer h₀) (F : Fr h₀ L s.heap m) (X : (hd.heap_39 w.params).In h₀) (N : News h₀ L s.heap news) (T : Top p loose mean mg mb h₀) (hk : cs.kind = .function)
    (hdp : dp + 2 < recursionLimit) (hun : un + 16 < cLine)
    (hy1 : -30000000 ≤ y) (hy2 : y ≤ 30000000) (hmo1 : 1 ≤ mo) (hmo2 : mo ≤ 13) (hd1 : 1 ≤ d) (hd2 : d ≤ 31)
    (h1 : ∀ M, M = d + 30 * (mo - 1) + 365 * (y - 1) + y / 4 + 1825029 → RetV h₀ L m news s Q fun t => .float (HF (2 * M - 1)) t) :
    Goes w dp un gd cn cs L a ccd cl outer 156 [.int y t1, .int mo t2, .int d t3] Q E s := by
  unfold Goes
  revert X; k_fill; intro X
  refine wpAny_call ?_
  k_dflt (refine' code_def (binds := [(Str.ofString "year", .int y t1), (Str.ofString "month", .int mo t2), (Str.ofString "day", .int d t3)]) ?k1 ?k2 ?k3 ?k4 ?k5 ?kA ?kF ?kK ?k6 ?k7 ?k8 ?k9 ?kB ?_ ?c2 ?c3 ?c4 ?c5; (case kA => exact rfl); (case kF => exact rfl); (case kK => assumption); (case k1 => k_asm); (case k2 => k_asm); (case k3 => k_asm); (case k4 => k_asm); (case k5 => k_asm); (case k6 => k_is); (case k7 => k_is); (case k8 => (dsimp only [ktrTop]; omega)); (case k9 => exact BindsTo.of_eq rfl); (case c5 => decide); (case kB => exact locs rfl); (case c2 => exact rfl); (case c3 => exact rfl); (case c4 => exact rfl); k_whole; intro g' L' h' FG' F' N' B' X' T'; (try dsimp only); (try k_fold))
  k_steps
  have hr := h1 (d + 30 * (mo - 1) + 365 * (y - 1) + y / 4 + 1825029) rfl
  exact retF (s := s) hr (by law_clear; omega) (by k_asm) (by k_asm)
local macro_rules | `(tactic| walk_at "call ref") => `(tactic| (k_here; (with_reducible show wpAny _ _ (call (Value.ref 156) _) _ _ _); k_dflt (refine' Mine.ctojd_c _ _ _ _ _ _ ?k1 ?k2 ?k3 ?k4 ?k5 ?kK ?kd ?ku ?hy1 ?hy2 ?hmo1 ?hmo2 ?hd1 ?hd2 ?_; (case k1 => k_asm); (case k2 => k_asm); (case k3 => k_asm); (case k4 => k_asm); (case k5 => k_asm); (case kK => first | exact rfl | assumption); (case kd => (dsimp only [ktrTop]; omega)); (case ku => (dsimp only [ktrTop]; omega)); (case hy1 => first | omega | assumption); (case hy2 => first | omega | assumption); (case hmo1 => first | omega | assumption); (case hmo2 => first | omega | assumption); (case hd1 => first | omega | assumption); (case hd2 => first | omega | assumption); all_goals (intro M9 hM1 t9 h9 tk9 F9 N9; (try simp only [AllLt, and_true] at l9); (try dsimp only); (try k_sweep); (try k_fold)))))
theorem ctojd_n (n y mo d : Int) (t1 t2 t3 : Tok) (B : Below A₀ base outer h₀) (F : Fr h₀ L s.heap m) (X : (hd.heap_39 w.params).In h₀) (N : News h₀ L s.heap news) (T : Top p loose mean mg mb h₀) (hk : cs.kind = .function)
    (hdp : dp + 2 < recursionLimit) (hun : un + 16 < cLine)
    (e7 : n = d + 30 * (mo - 1) + 365 * (y - 1) + y / 4 + 1825029) (e1 : 1 ≤ mo) (e2 : mo ≤ 13) (e3 : 1 ≤ d) (e4 : d ≤ 30) (e5 : mo = 13 → d ≤ 5 + (y + 1) / 4 - y / 4) (hn1 : -5000000000 ≤ n) (hn2 : n ≤ 5000000000)
    (h1 : RetV h₀ L m news s Q fun t => .float (HF (2 * n - 1)) t) :
    Goes w dp un gd cn cs L a ccd cl outer 156 [.int y t1, .int mo t2, .int d t3] Q E s := by
  have hyb : -20000000 ≤ y ∧ y ≤ 20000000 := by
    clear h1
    omega
  refine ctojd_c y mo d t1 t2 t3 B F X N T hk hdp hun (by omega) (by omega) (by omega) (by omega) (by omega) (by omega) (fun M hM1 => ?_)
  have hMn : M = n := by rw [hM1, e7]
  subst hMn
  exact h1
local macro_rules | `(tactic| walk_at "call ref") => `(tactic| (k_here; (with_reducible show wpAny _ _ (call (Value.ref 156) _) _ _ _); k_dflt (refine' Mine.ctojd_n _ _ _ _ _ _ _ ?k1 ?k2 ?k3 ?k4 ?k5 ?kK ?kd ?ku ?e7 ?e1 ?e2 ?e3 ?e4 ?e5 ?hn1 ?hn2 ?_; (case k1 => k_asm); (case k2 => k_asm); (case k3 => k_asm); (case k4 => k_asm); (case k5 => k_asm); (case kK => first | exact rfl | assumption); (case kd => (dsimp only [ktrTop]; omega)); (case ku => (dsimp only [ktrTop]; omega)); (case e7 => first | assumption | omega); (case e1 => first | assumption | omega); (case e2 => first | assumption | omega); (case e3 => first | assumption | omega); (case e4 => first | assumption | omega); (case e5 => first | assumption | omega); (case hn1 => first | assumption | omega); (case hn2 => first | assumption | omega); all_goals (intro t9 h9 tk9 F9 N9; (try simp only [AllLt, and_true] at l9); (try dsimp only); (try k_sweep); (try k_fold)))))
theorem cfromjd_c (n : Int) (t1 : Tok) (B : Below A₀ base outer h₀) (F : Fr h₀ L s.heap m) (X : (hd.heap_39 w.params).In h₀) (N : News h₀ L s.heap news) (T : Top p loose mean mg mb h₀) (hk : cs.kind = .function)
    (hdp : dp + 4 < recursionLimit) (hun : un + 32 < cLine)
    (hn1 : -5000000000 ≤ n) (hn2 : n ≤ 5000000000)
    (h1 : ∀ y mo d, 1 ≤ mo → mo ≤ 13 → 1 ≤ d → d ≤ 30 → (mo = 13 → d ≤ 5 + (y + 1) / 4 - y / 4) → n = d + 30 * (mo - 1) + 365 * (y - 1) + y / 4 + 1825029 → RetT h₀ L m news s Q y mo d) :
    Goes w dp un gd cn cs L a ccd cl outer 163 [.float (HF (2 * n - 1)) t1] Q E s := by
  unfold Goes
  revert X; k_fill; intro X
  refine wpAny_call ?_
  k_dflt (refine' code_def (binds := [(Str.ofString "jdc", .float (HF (2 * n - 1)) t1)]) ?k1 ?k2 ?k3 ?k4 ?k5 ?kA ?kF ?kK ?k6 ?k7 ?k8 ?k9 ?kB ?_ ?c2 ?c3 ?c4 ?c5; (case kA => exact rfl); (case kF => exact rfl); (case kK => assumption); (case k1 => k_asm); (case k2 => k_asm); (case k3 => k_asm); (case k4 => k_asm); (case k5 => k_asm); (case k6 => k_is); (case k7 => k_is); (case k8 => (dsimp only [ktrTop]; omega)); (case k9 => exact BindsTo.of_eq rfl); (case c5 => decide); (case kB => exact locs rfl); (case c2 => exact rfl); (case c3 => exact rfl); (case c4 => exact rfl); k_whole; intro g' L' h' FG' F' N' B' X' T'; (try dsimp only); (try k_fold))
  k_steps
  have J := Mine.cop_back (n := n) (by assumption) (by assumption) (by assumption) (by assumption) (by assumption) 
  obtain ⟨g1, g2, g3, g4, g5, g6⟩ := J
  exact h1 _ _ _ g1 g2 g3 g4 g5 g6 _ _ _ _ _ _ _ (by k_asm) (by k_asm) (by first | k_asm | exact allLt_of (by assumption))
local macro_rules | `(tactic| walk_at "call ref") => `(tactic| (k_here; (with_reducible show wpAny _ _ (call (Value.ref 163) _) _ _ _); k_dflt (refine' Mine.cfromjd_c _ _ ?k1 ?k2 ?k3 ?k4 ?k5 ?kK ?kd ?ku ?hn1 ?hn2 ?_; (case k1 => k_asm); (case k2 => k_asm); (case k3 => k_asm); (case k4 => k_asm); (case k5 => k_asm); (case kK => first | exact rfl | assumption); (case kd => (dsimp only [ktrTop]; omega)); (case ku => (dsimp only [ktrTop]; omega)); (case hn1 => first | omega | assumption); (case hn2 => first | omega | assumption); all_goals (intro y9 mo9 d9 g1 g2 g3 g4 g5 g6 D9 u1 u2 u3 c9 h9 tk9 F9 N9 l9; (try simp only [AllLt, and_true] at l9); (try dsimp only); (try k_sweep); (try k_fold)))))
theorem fgi_c (n y mo d : Int) (t1 t2 t3 : Tok) (B : Below A₀ base outer h₀) (F : Fr h₀ L s.heap m) (X : (hd.heap_39 w.params).In h₀) (N : News h₀ L s.heap news) (T : Top p loose mean mg mb h₀) (hk : cs.kind = .function)
    (hdp : dp + 9 < recursionLimit) (hun : un + 72 < cLine)
    (e7 : mo ≤ 2 → n = 365 * (y - 1) + (y - 1) / 4 - (y - 1) / 100 + (y - 1) / 400 + 1721425 + (367 * mo - 362) / 12 + d) (e8 : 2 < mo → n = 365 * (y - 1) + (y - 1) / 4 - (y - 1) / 100 + (y - 1) / 400 + 1721425 + (367 * mo - 362) / 12 + d - 2 + lpN y) (e1 : 1 ≤ mo) (e2 : mo ≤ 12) (e3 : 1 ≤ d) (e4 : mo = 2 → d ≤ 28 + lpN y) (e5 : mo = 4 ∨ mo = 6 ∨ mo = 9 ∨ mo = 11 → d ≤ 30) (e6 : d ≤ 31) (hn1 : -5000000000 ≤ n) (hn2 : n ≤ 5000000000)
    (h1 : ∀ y mo d, 1 ≤ mo → mo ≤ 12 → 1 ≤ d → d ≤ 30 → (mo % 2 = 0 → mo < 12 → d ≤ 29) → (mo = 12 → d ≤ 29 + (14 + 11 * y) / 30 - (3 + 11 * y) / 30) → n = d + (59 * (mo - 1) + 1) / 2 + 354 * (y - 1) + (3 + 11 * y) / 30 + 1948439 → RetT h₀ L m news s Q y mo d) :
    Goes w dp un gd cn cs L a ccd cl outer 142 [.int y t1, .int mo t2, .int d t3] Q E s := by
  unfold Goes
  revert X; k_fill; intro X
  refine wpAny_call ?_
  k_dflt (refine' code_def (binds := [(Str.ofString "year", .int y t1), (Str.ofString "month", .int mo t2), (Str.ofString "day", .int d t3)]) ?k1 ?k2 ?k3 ?k4 ?k5 ?kA ?kF ?kK ?k6 ?k7 ?k8 ?k9 ?kB ?_ ?c2 ?c3 ?c4 ?c5; (case kA => exact rfl); (case kF => exact rfl); (case kK => assumption); (case k1 => k_asm); (case k2 => k_asm); (case k3 => k_asm); (case k4 => k_asm); (case k5 => k_asm); (case k6 => k_is); (case k7 => k_is); (case k8 => (dsimp only [ktrTop]; omega)); (case k9 => exact BindsTo.of_eq rfl); (case c5 => decide); (case kB => exact locs rfl); (case c2 => exact rfl); (case c3 => exact rfl); (case c4 => exact rfl); k_whole; intro g' L' h' FG' F' N' B' X' T'; (try dsimp only); (try k_fold))
  k_steps
  all_goals
    refine' h1 _ _ _ ?_ ?_ ?_ ?_ ?_ ?_ ?_ _ _ _ _ _ _ _ ?F ?N ?l
    (case F => k_asm)
    (case N => k_asm)
    (case l => first | k_asm | exact allLt_of (by assumption))
    all_goals assumption
theorem tgi_c (n y mo d : Int) (t1 t2 t3 : Tok) (B : Below A₀ base outer h₀) (F : Fr h₀ L s.heap m) (X : (hd.heap_39 w.params).In h₀) (N : News h₀ L s.heap news) (T : Top p loose mean mg mb h₀) (hk : cs.kind = .function)
    (hdp : dp + 9 < recursionLimit) (hun : un + 72 < cLine)
    (e7 : n = d + (59 * (mo - 1) + 1) / 2 + 354 * (y - 1) + (3 + 11 * y) / 30 + 1948439) (e1 : 1 ≤ mo) (e2 : mo ≤ 12) (e3 : 1 ≤ d) (e4 : d ≤ 30) (e5 : mo % 2 = 0 → mo < 12 → d ≤ 29) (e6 : mo = 12 → d ≤ 29 + (14 + 11 * y) / 30 - (3 + 11 * y) / 30) (hn1 : -5000000000 ≤ n) (hn2 : n ≤ 5000000000)
    (h1 : ∀ y mo d, 1 ≤ mo → mo ≤ 12 → 1 ≤ d → (mo = 2 → d ≤ 28 + lpN y) → (mo = 4 ∨ mo = 6 ∨ mo = 9 ∨ mo = 11 → d ≤ 30) → d ≤ 31 → (mo ≤ 2 → n = 365 * (y - 1) + (y - 1) / 4 - (y - 1) / 100 + (y - 1) / 400 + 1721425 + (367 * mo - 362) / 12 + d) → (2 < mo → n = 365 * (y - 1) + (y - 1) / 4 - (y - 1) / 100 + (y - 1) / 400 + 1721425 + (367 * mo - 362) / 12 + d - 2 + lpN y) → RetT h₀ L m news s Q y mo d) :
    Goes w dp un gd cn cs L a ccd cl outer 149 [.int y t1, .int mo t2, .int d t3] Q E s := by
  unfold Goes
  revert X; k_fill; intro X
  refine wpAny_call ?_
  k_dflt (refine' code_def (binds := [(Str.ofString "year", .int y t1), (Str.ofString "month", .int mo t2), (Str.ofString "day", .int d t3)]) ?k1 ?k2 ?k3 ?k4 ?k5 ?kA ?kF ?kK ?k6 ?k7 ?k8 ?k9 ?kB ?_ ?c2 ?c3 ?c4 ?c5; (case kA => exact rfl); (case kF => exact rfl); (case kK => assumption); (case k1 => k_asm); (case k2 => k_asm); (case k3 => k_asm); (case k4 => k_asm); (case k5 => k_asm); (case k6 => k_is); (case k7 => k_is); (case k8 => (dsimp only [ktrTop]; omega)); (case k9 => exact BindsTo.of_eq rfl); (case c5 => decide); (case kB => exact locs rfl); (case c2 => exact rfl); (case c3 => exact rfl); (case c4 => exact rfl); k_whole; intro g' L' h' FG' F' N' B' X' T'; (try dsimp only); (try k_fold))
  k_steps
  all_goals
    refine' h1 _ _ _ ?_ ?_ ?_ ?_ ?_ ?_ ?_ ?_ _ _ _ _ _ _ _ ?F ?N ?l
    (case F => k_asm)
    (case N => k_asm)
    (case l => first | k_asm | exact allLt_of (by assumption))
    all_goals assumption
theorem fgc_c (n y mo d : Int) (t1 t2 t3 : Tok) (B : Below A₀ base outer h₀) (F : Fr h₀ L s.heap m) (X : (hd.heap_39 w.params).In h₀) (N : News h₀ L s.heap news) (T : Top p loose mean mg mb h₀) (hk : cs.kind = .function)
    (hdp : dp + 9 < recursionLimit) (hun : un + 72 < cLine)
    (e7 : mo ≤ 2 → n = 365 * (y - 1) + (y - 1) / 4 - (y - 1) / 100 + (y - 1) / 400 + 1721425 + (367 * mo - 362) / 12 + d) (e8 : 2 < mo → n = 365 * (y - 1) + (y - 1) / 4 - (y - 1) / 100 + (y - 1) / 400 + 1721425 + (367 * mo - 362) / 12 + d - 2 + lpN y) (e1 : 1 ≤ mo) (e2 : mo ≤ 12) (e3 : 1 ≤ d) (e4 : mo = 2 → d ≤ 28 + lpN y) (e5 : mo = 4 ∨ mo = 6 ∨ mo = 9 ∨ mo = 11 → d ≤ 30) (e6 : d ≤ 31) (hn1 : -5000000000 ≤ n) (hn2 : n ≤ 5000000000)
    (h1 : ∀ y mo d, 1 ≤ mo → mo ≤ 13 → 1 ≤ d → d ≤ 30 → (mo = 13 → d ≤ 5 + (y + 1) / 4 - y / 4) → n = d + 30 * (mo - 1) + 365 * (y - 1) + y / 4 + 1825029 → RetT h₀ L m news s Q y mo d) :
    Goes w dp un gd cn cs L a ccd cl outer 177 [.int y t1, .int mo t2, .int d t3] Q E s := by
  unfold Goes
  revert X; k_fill; intro X
  refine wpAny_call ?_
  k_dflt (refine' code_def (binds := [(Str.ofString "year", .int y t1), (Str.ofString "month", .int mo t2), (Str.ofString "day", .int d t3)]) ?k1 ?k2 ?k3 ?k4 ?k5 ?kA ?kF ?kK ?k6 ?k7 ?k8 ?k9 ?kB ?_ ?c2 ?c3 ?c4 ?c5; (case kA => exact rfl); (case kF => exact rfl); (case kK => assumption); (case k1 => k_asm); (case k2 => k_asm); (case k3 => k_asm); (case k4 => k_asm); (case k5 => k_asm); (case k6 => k_is); (case k7 => k_is); (case k8 => (dsimp only [ktrTop]; omega)); (case k9 => exact BindsTo.of_eq rfl); (case c5 => decide); (case kB => exact locs rfl); (case c2 => exact rfl); (case c3 => exact rfl); (case c4 => exact rfl); k_whole; intro g' L' h' FG' F' N' B' X' T'; (try dsimp only); (try k_fold))
  k_steps
  all_goals
    refine' h1 _ _ _ ?_ ?_ ?_ ?_ ?_ ?_ _ _ _ _ _ _ _ ?F ?N ?l
    (case F => k_asm)
    (case N => k_asm)
    (case l => first | k_asm | exact allLt_of (by assumption))
    all_goals assumption
theorem tgc_c (n y mo d : Int) (t1 t2 t3 : Tok) (B : Below A₀ base outer h₀) (F : Fr h₀ L s.heap m) (X : (hd.heap_39 w.params).In h₀) (N : News h₀ L s.heap news) (T : Top p loose mean mg mb h₀) (hk : cs.kind = .function)
    (hdp : dp + 9 < recursionLimit) (hun : un + 72 < cLine)
    (e7 : n = d + 30 * (mo - 1) + 365 * (y - 1) + y / 4 + 1825029) (e1 : 1 ≤ mo) (e2 : mo ≤ 13) (e3 : 1 ≤ d) (e4 : d ≤ 30) (e5 : mo = 13 → d ≤ 5 + (y + 1) / 4 - y / 4) (hn1 : -5000000000 ≤ n) (hn2 : n ≤ 5000000000)
    (h1 : ∀ y mo d, 1 ≤ mo → mo ≤ 12 → 1 ≤ d → (mo = 2 → d ≤ 28 + lpN y) → (mo = 4 ∨ mo = 6 ∨ mo = 9 ∨ mo = 11 → d ≤ 30) → d ≤ 31 → (mo ≤ 2 → n = 365 * (y - 1) + (y - 1) / 4 - (y - 1) / 100 + (y - 1) / 400 + 1721425 + (367 * mo - 362) / 12 + d) → (2 < mo → n = 365 * (y - 1) + (y - 1) / 4 - (y - 1) / 100 + (y - 1) / 400 + 1721425 + (367 * mo - 362) / 12 + d - 2 + lpN y) → RetT h₀ L m news s Q y mo d) :
    Goes w dp un gd cn cs L a ccd cl outer 170 [.int y t1, .int mo t2, .int d t3] Q E s := by
  unfold Goes
  revert X; k_fill; intro X
  refine wpAny_call ?_
  k_dflt (refine' code_def (binds := [(Str.ofString "year", .int y t1), (Str.ofString "month", .int mo t2), (Str.ofString "day", .int d t3)]) ?k1 ?k2 ?k3 ?k4 ?k5 ?kA ?kF ?kK ?k6 ?k7 ?k8 ?k9 ?kB ?_ ?c2 ?c3 ?c4 ?c5; (case kA => exact rfl); (case kF => exact rfl); (case kK => assumption); (case k1 => k_asm); (case k2 => k_asm); (case k3 => k_asm); (case k4 => k_asm); (case k5 => k_asm); (case k6 => k_is); (case k7 => k_is); (case k8 => (dsimp only [ktrTop]; omega)); (case k9 => exact BindsTo.of_eq rfl); (case c5 => decide); (case kB => exact locs rfl); (case c2 => exact rfl); (case c3 => exact rfl); (case c4 => exact rfl); k_whole; intro g' L' h' FG' F' N' B' X' T'; (try dsimp only); (try k_fold))
  k_steps
  all_goals
    refine' h1 _ _ _ ?_ ?_ ?_ ?_ ?_ ?_ ?_ ?_ _ _ _ _ _ _ _ ?F ?N ?l
    (case F => k_asm)
    (case N => k_asm)
    (case l => first | k_asm | exact allLt_of (by assumption))
    all_goals assumption
end
end Mine
-- CN
namespace Mine
set_option maxRecDepth 100000
set_option maxHeartbeats 8000000
open PySem PySem.W PyProof.Rows PySem.Calls
theorem still_CN : True := by w_top off; trivial
local macro_rules | `(tactic| walk_at "binaryOp Mod int int") => `(tactic| (k_here; (refine' Mine.r_mod_ii ?ba ?_; (case ba => decide); k_whole)))
local macro_rules | `(tactic| walk_at "ite") => `(tactic| (k_here; k_openite; first
  | (refine ite_pos (by ((try simp only [decide_eq_true_eq, beq_iff_eq, bne_iff_ne, ne_eq]); omega)) ?_)
  | (refine ite_neg (by ((try simp only [decide_eq_true_eq, beq_iff_eq, bne_iff_ne, ne_eq]); omega)) ?_)))
local macro_rules | `(tactic| walk_at "eval Name") => `(tactic| (k_here; (name_kind "globalImplicit"); k_dflt (refine' nameX_K ?F ?X ?T ?e ?_ ?a ?b; (case F => k_asm); (case X => k_asm); (case T => k_asm); (case a => rfl); (case b => rfl); (case e => k_is); k_whole)))
local macro_rules | `(tactic| walk_at "eval Name") => `(tactic| (k_here; (name_kind "local"); k_dflt (refine' nameX_L ?F ?v ?_ ?a ?b; (case F => k_asm); (case a => rfl); (case b => rfl); (case v => first | rfl | assumption); k_whole)))
local macro_rules | `(tactic| walk_at "binaryOp Add int bool") => `(tactic| (k_here; (first | with_reducible refine Mine.r_add_it ?_ | with_reducible refine Mine.r_add_i0 ?_)))
local macro_rules | `(tactic| walk_at "binaryOp Sub int bool") => `(tactic| (k_here; (first | with_reducible refine Mine.r_sub_it ?_ | with_reducible refine Mine.r_sub_i0 ?_)))
local macro_rules | `(tactic| walk_at "eval Call Name") => `(tactic| (k_here; k_dflt (refine Call_ ?_)))
local macro_rules | `(tactic| walk_at "exec If") => `(tactic| (k_here; k_dflt (refine wpAny_If ?_)))
local macro_rules | `(tactic| walk_at "binaryOp Add float float") => `(tactic| (k_here; (with_reducible refine' Mine.r_add_ff ?hx ?hy ?bal ?bau ?bbl ?bbu ?_); k_dflt ((case hx => first | with_reducible exact Mine.c_half | with_reducible exact Mine.c_greg | with_reducible exact Mine.c_isl | with_reducible exact Mine.c_cop | with_reducible exact Mine.c_295 | with_reducible exact Mine.c_1524 | with_reducible rfl); (case hy => first | with_reducible exact Mine.c_half | with_reducible exact Mine.c_greg | with_reducible exact Mine.c_isl | with_reducible exact Mine.c_cop | with_reducible exact Mine.c_295 | with_reducible exact Mine.c_1524 | with_reducible rfl); (case bal => first | decide | (law_clear; omega) | omega); (case bau => first | decide | (law_clear; omega) | omega); (case bbl => first | decide | (law_clear; omega) | omega); (case bbu => first | decide | (law_clear; omega) | omega); k_whole)))
local macro_rules | `(tactic| walk_at "binaryOp Sub float float") => `(tactic| (k_here; (with_reducible refine' Mine.r_sub_ff ?hx ?hy ?bal ?bau ?bbl ?bbu ?_); k_dflt ((case hx => first | with_reducible exact Mine.c_half | with_reducible exact Mine.c_greg | with_reducible exact Mine.c_isl | with_reducible exact Mine.c_cop | with_reducible exact Mine.c_295 | with_reducible exact Mine.c_1524 | with_reducible rfl); (case hy => first | with_reducible exact Mine.c_half | with_reducible exact Mine.c_greg | with_reducible exact Mine.c_isl | with_reducible exact Mine.c_cop | with_reducible exact Mine.c_295 | with_reducible exact Mine.c_1524 | with_reducible rfl); (case bal => first | decide | (law_clear; omega) | omega); (case bau => first | decide | (law_clear; omega) | omega); (case bbl => first | decide | (law_clear; omega) | omega); (case bbu => first | decide | (law_clear; omega) | omega); k_whole)))
local macro_rules | `(tactic| walk_at "inplaceOp Add float float") => `(tactic| (k_here; (with_reducible refine' Mine.r_iadd_ff ?hx ?hy ?bal ?bau ?bbl ?bbu ?_); k_dflt ((case hx => first | with_reducible exact Mine.c_half | with_reducible exact Mine.c_greg | with_reducible exact Mine.c_isl | with_reducible exact Mine.c_cop | with_reducible exact Mine.c_295 | with_reducible exact Mine.c_1524 | with_reducible rfl); (case hy => first | with_reducible exact Mine.c_half | with_reducible exact Mine.c_greg | with_reducible exact Mine.c_isl | with_reducible exact Mine.c_cop | with_reducible exact Mine.c_295 | with_reducible exact Mine.c_1524 | with_reducible rfl); (case bal => first | decide | (law_clear; omega) | omega); (case bau => first | decide | (law_clear; omega) | omega); (case bbl => first | decide | (law_clear; omega) | omega); (case bbu => first | decide | (law_clear; omega) | omega); k_whole)))
local macro_rules | `(tactic| walk_at "binaryOp Add float int") => `(tactic| (k_here; (with_reducible refine' Mine.r_add_xi ?hnl ?hnu ?_); k_dflt ((case hnl => first | decide | (law_clear; omega) | omega); (case hnu => first | decide | (law_clear; omega) | omega); k_whole)))
local macro_rules | `(tactic| walk_at "binaryOp Add float int") => `(tactic| (k_here; (with_reducible refine' Mine.r_add_fi ?hx ?bal ?bau ?bbl ?bbu ?_); k_dflt ((case hx => first | with_reducible exact Mine.c_half | with_reducible exact Mine.c_greg | with_reducible exact Mine.c_isl | with_reducible exact Mine.c_cop | with_reducible exact Mine.c_295 | with_reducible exact Mine.c_1524 | with_reducible rfl); (case bal => first | decide | (law_clear; omega) | omega); (case bau => first | decide | (law_clear; omega) | omega); (case bbl => first | decide | (law_clear; omega) | omega); (case bbu => first | decide | (law_clear; omega) | omega); k_whole)))
local macro_rules | `(tactic| walk_at "binaryOp Sub float int") => `(tactic| (k_here; (with_reducible refine' Mine.r_sub_fi ?hx ?bal ?bau ?bbl ?bbu ?_); k_dflt ((case hx => first | with_reducible exact Mine.c_half | with_reducible exact Mine.c_greg | with_reducible exact Mine.c_isl | with_reducible exact Mine.c_cop | with_reducible exact Mine.c_295 | with_reducible exact Mine.c_1524 | with_reducible rfl); (case bal => first | decide | (law_clear; omega) | omega); (case bau => first | decide | (law_clear; omega) | omega); (case bbl => first | decide | (law_clear; omega) | omega); (case bbu => first | decide | (law_clear; omega) | omega); k_whole)))
local macro_rules | `(tactic| walk_at "inplaceOp Add float int") => `(tactic| (k_here; (with_reducible refine' Mine.r_iadd_fi ?hx ?bal ?bau ?bbl ?bbu ?_); k_dflt ((case hx => first | with_reducible exact Mine.c_half | with_reducible exact Mine.c_greg | with_reducible exact Mine.c_isl | with_reducible exact Mine.c_cop | with_reducible exact Mine.c_295 | with_reducible exact Mine.c_1524 | with_reducible rfl); (case bal => first | decide | (law_clear; omega) | omega); (case bau => first | decide | (law_clear; omega) | omega); (case bbl => first | decide | (law_clear; omega) | omega); (case bbu => first | decide | (law_clear; omega) | omega); k_whole)))
local macro_rules | `(tactic| walk_at "inplaceOp Sub float int") => `(tactic| (k_here; (with_reducible refine' Mine.r_isub_fi ?hx ?bal ?bau ?bbl ?bbu ?_); k_dflt ((case hx => first | with_reducible exact Mine.c_half | with_reducible exact Mine.c_greg | with_reducible exact Mine.c_isl | with_reducible exact Mine.c_cop | with_reducible exact Mine.c_295 | with_reducible exact Mine.c_1524 | with_reducible rfl); (case bal => first | decide | (law_clear; omega) | omega); (case bau => first | decide | (law_clear; omega) | omega); (case bbl => first | decide | (law_clear; omega) | omega); (case bbu => first | decide | (law_clear; omega) | omega); k_whole)))
local macro_rules | `(tactic| walk_at "binaryOp Sub int float") => `(tactic| (k_here; (with_reducible refine' Mine.r_sub_ic ?hnl ?hnu ?_); k_dflt ((case hnl => first | decide | (law_clear; omega) | omega); (case hnu => first | decide | (law_clear; omega) | omega); k_whole)))
local macro_rules | `(tactic| walk_at "binaryOp Add int float") => `(tactic| (k_here; (with_reducible refine' Mine.r_add_if ?hx ?bal ?bau ?bbl ?bbu ?_); k_dflt ((case hx => first | with_reducible exact Mine.c_half | with_reducible exact Mine.c_greg | with_reducible exact Mine.c_isl | with_reducible exact Mine.c_cop | with_reducible exact Mine.c_295 | with_reducible exact Mine.c_1524 | with_reducible rfl); (case bal => first | decide | (law_clear; omega) | omega); (case bau => first | decide | (law_clear; omega) | omega); (case bbl => first | decide | (law_clear; omega) | omega); (case bbu => first | decide | (law_clear; omega) | omega); k_whole)))
local macro_rules | `(tactic| walk_at "binaryOp Sub int float") => `(tactic| (k_here; (with_reducible refine' Mine.r_sub_if ?hx ?bal ?bau ?bbl ?bbu ?_); k_dflt ((case hx => first | with_reducible exact Mine.c_half | with_reducible exact Mine.c_greg | with_reducible exact Mine.c_isl | with_reducible exact Mine.c_cop | with_reducible exact Mine.c_295 | with_reducible exact Mine.c_1524 | with_reducible rfl); (case bal => first | decide | (law_clear; omega) | omega); (case bau => first | decide | (law_clear; omega) | omega); (case bbl => first | decide | (law_clear; omega) | omega); (case bbu => first | decide | (law_clear; omega) | omega); k_whole)))
local macro_rules | `(tactic| walk_at "binaryOp Mult float int") => `(tactic| (k_here; (with_reducible refine' Mine.r_mul_xi ?hnl ?hnu ?_); k_dflt ((case hnl => first | decide | (law_clear; omega) | omega); (case hnu => first | decide | (law_clear; omega) | omega); k_whole)))
local macro_rules | `(tactic| walk_at "binaryOp Mult float int") => `(tactic| (k_here; (with_reducible refine' Mine.r_mul_ci ?hx ?ha ?ha2 ?bnl ?bnu ?_); k_dflt ((case hx => first | with_reducible exact Mine.c_half | with_reducible exact Mine.c_greg | with_reducible exact Mine.c_isl | with_reducible exact Mine.c_cop | with_reducible exact Mine.c_295 | with_reducible exact Mine.c_1524 | with_reducible rfl); (case ha => decide); (case ha2 => decide); (case bnl => first | decide | (law_clear; omega) | omega); (case bnu => first | decide | (law_clear; omega) | omega); k_whole)))
local macro_rules | `(tactic| walk_at "binaryOp Mult float int") => `(tactic| (k_here; (with_reducible refine' Mine.r_mul_fi ?hx ?hn ?hn2 ?bal ?bau ?_); k_dflt ((case hx => first | with_reducible exact Mine.c_half | with_reducible exact Mine.c_greg | with_reducible exact Mine.c_isl | with_reducible exact Mine.c_cop | with_reducible exact Mine.c_295 | with_reducible exact Mine.c_1524 | with_reducible rfl); (case hn => decide); (case hn2 => decide); (case bal => first | decide | (law_clear; omega) | omega); (case bau => first | decide | (law_clear; omega) | omega); k_whole)))
local macro_rules | `(tactic| walk_at "binaryOp Mult int float") => `(tactic| (k_here; (with_reducible refine' Mine.r_mul_if ?hx ?hn ?hn2 ?bal ?bau ?_); k_dflt ((case hx => first | with_reducible exact Mine.c_half | with_reducible exact Mine.c_greg | with_reducible exact Mine.c_isl | with_reducible exact Mine.c_cop | with_reducible exact Mine.c_295 | with_reducible exact Mine.c_1524 | with_reducible rfl); (case hn => decide); (case hn2 => decide); (case bal => first | decide | (law_clear; omega) | omega); (case bau => first | decide | (law_clear; omega) | omega); k_whole)))
local macro_rules | `(tactic| walk_at "binaryOp Mod float int") => `(tactic| (k_here; (with_reducible refine' Mine.r_mod_q ?hA ?hx ?hn ?hn2 ?bal ?bau ?_); k_dflt ((case hA => exact rfl); (case hx => first | with_reducible exact Mine.c_half | with_reducible exact Mine.c_greg | with_reducible exact Mine.c_isl | with_reducible exact Mine.c_cop | with_reducible exact Mine.c_295 | with_reducible exact Mine.c_1524 | with_reducible rfl); (case hn => decide); (case hn2 => decide); (case bal => first | decide | (law_clear; omega) | omega); (case bau => first | decide | (law_clear; omega) | omega); k_whole); intro r9 hr9 hr0 hr1))
local macro_rules | `(tactic| walk_at "binaryOp Div float int") => `(tactic| (k_here; (with_reducible refine' Mine.r_div_fi ?hA ?hn ?hn2 ?_); k_dflt ((case hA => exact rfl); (case hn => decide); (case hn2 => decide); k_whole)))
local macro_rules | `(tactic| walk_at "binaryOp Div float float") => `(tactic| (k_here; (with_reducible refine' Mine.r_div_fc ?hA ?hz ?_); k_dflt ((case hA => exact rfl); (case hz => decide +kernel); k_whole)))
local macro_rules | `(tactic| walk_at "binaryOp Div float float") => `(tactic| (k_here; (with_reducible refine' Mine.r_div_ff ?hA ?hy ?hb ?hb2 ?_); k_dflt ((case hA => exact rfl); (case hy => first | with_reducible exact Mine.c_half | with_reducible exact Mine.c_greg | with_reducible exact Mine.c_isl | with_reducible exact Mine.c_cop | with_reducible exact Mine.c_295 | with_reducible exact Mine.c_1524 | with_reducible rfl); (case hb => decide); (case hb2 => decide); k_whole)))
local macro_rules | `(tactic| walk_at "binaryOp Div int float") => `(tactic| (k_here; (with_reducible refine' Mine.r_div_ic ?hA ?hnl ?hnu ?hz ?_); k_dflt ((case hA => exact rfl); (case hnl => first | decide | (law_clear; omega) | omega); (case hnu => first | decide | (law_clear; omega) | omega); (case hz => decide +kernel); k_whole)))
local macro_rules | `(tactic| walk_at "binaryOp Div int int") => `(tactic| (k_here; (with_reducible refine' Mine.r_div_ii ?hA ?hb ?hal ?hau ?_); k_dflt ((case hA => exact rfl); (case hb => decide); (case hal => first | decide | (law_clear; omega) | omega); (case hau => first | decide | (law_clear; omega) | omega); k_whole)))
local macro_rules | `(tactic| walk_at "call builtin:math.floor") => `(tactic| (k_here; (with_reducible refine' Mine.r_floor_g ?hA ?hx ?hm0 ?hm1 ?ha0 ?ha1 ?hd0 ?hd1 ?_); k_dflt ((case hA => exact rfl); (case hx => first | with_reducible exact rfl | exact rfl); (case hm0 => first | decide | (law_clear; omega) | omega); (case hm1 => first | decide | (law_clear; omega) | omega); (case ha0 => first | decide | (law_clear; omega) | omega); (case ha1 => first | decide | (law_clear; omega) | omega); (case hd0 => first | decide | (law_clear; omega) | omega); (case hd1 => first | decide | (law_clear; omega) | omega); k_whole); intro q9 hq0))
local macro_rules | `(tactic| walk_at "call builtin:math.floor") => `(tactic| (k_here; (with_reducible refine' Mine.r_floor_jm ?hA ?hx ?b0 ?b1 ?_); k_dflt ((case hA => exact rfl); (case hx => first | with_reducible exact rfl | exact rfl); (case b0 => first | decide | (law_clear; omega) | omega); (case b1 => first | decide | (law_clear; omega) | omega); k_whole); intro q9 hq0))
local macro_rules | `(tactic| walk_at "call builtin:math.floor") => `(tactic| (k_here; (with_reducible refine' Mine.r_floor_je ?hA ?hx ?b0 ?b1 ?_); k_dflt ((case hA => exact rfl); (case hx => first | with_reducible exact rfl | exact rfl); (case b0 => first | decide | (law_clear; omega) | omega); (case b1 => first | decide | (law_clear; omega) | omega); k_whole); intro q9 hq0))
local macro_rules | `(tactic| walk_at "call builtin:math.floor") => `(tactic| (k_here; (with_reducible refine' Mine.r_floor_jd ?hA ?hx ?bnl ?bnu ?_); k_dflt ((case hA => exact rfl); (case hx => first | with_reducible exact rfl | exact rfl); (case bnl => first | decide | (law_clear; omega) | omega); (case bnu => first | decide | (law_clear; omega) | omega); k_whole); intro q9 hq0))
local macro_rules | `(tactic| walk_at "call builtin:math.floor") => `(tactic| (k_here; (with_reducible refine' Mine.r_floor_jc ?hA ?hx ?bnl ?bnu ?_); k_dflt ((case hA => exact rfl); (case hx => first | with_reducible exact rfl | exact rfl); (case bnl => first | decide | (law_clear; omega) | omega); (case bnu => first | decide | (law_clear; omega) | omega); k_whole); intro q9 hq0))
local macro_rules | `(tactic| walk_at "call builtin:math.floor") => `(tactic| (k_here; (with_reducible refine' Mine.r_floor_ii ?hA ?hb ?hb2 ?bal ?bau ?k1 ?k2 ?_); k_dflt ((case hA => exact rfl); (case hb => decide); (case hb2 => decide); (case bal => first | decide | (law_clear; omega) | omega); (case bau => first | decide | (law_clear; omega) | omega); (case k1 => first | decide | (law_clear; omega) | omega); (case k2 => first | decide | (law_clear; omega) | omega); k_whole); intro q9 hq0))
local macro_rules | `(tactic| walk_at "call builtin:math.floor") => `(tactic| (k_here; (with_reducible refine' Mine.r_floor_div ?hA ?hb ?hb2 ?bal ?bau ?k1 ?k2 ?_); k_dflt ((case hA => exact rfl); (case hb => decide); (case hb2 => decide); (case bal => first | decide | (law_clear; omega) | omega); (case bau => first | decide | (law_clear; omega) | omega); (case k1 => first | decide | (law_clear; omega) | omega); (case k2 => first | decide | (law_clear; omega) | omega); k_whole); intro q9 hq0))
local macro_rules | `(tactic| walk_at "call builtin:math.floor") => `(tactic| (k_here; (with_reducible refine' Mine.r_floor_hf ?hA ?bal ?bau ?_); k_dflt ((case hA => exact rfl); (case bal => first | decide | (law_clear; omega) | omega); (case bau => first | decide | (law_clear; omega) | omega); k_whole); intro q9 hq0))
local macro_rules | `(tactic| walk_at "call builtin:math.ceil") => `(tactic| (k_here; (with_reducible refine' Mine.r_ceil_div ?hA ?hb ?hb2 ?bal ?bau ?k1 ?k2 ?_); k_dflt ((case hA => exact rfl); (case hb => decide); (case hb2 => decide); (case bal => first | decide | (law_clear; omega) | omega); (case bau => first | decide | (law_clear; omega) | omega); (case k1 => first | decide | (law_clear; omega) | omega); (case k2 => first | decide | (law_clear; omega) | omega); k_whole); intro q9 hq0 hq1))
local macro_rules | `(tactic| walk_at "call builtin:math.ceil") => `(tactic| (k_here; (with_reducible refine' Mine.r_ceil_hf ?hA ?bal ?bau ?_); k_dflt ((case hA => exact rfl); (case bal => first | decide | (law_clear; omega) | omega); (case bau => first | decide | (law_clear; omega) | omega); k_whole); intro q9 hq0 hq1))
local macro_rules | `(tactic| walk_at "call type:int") => `(tactic| (k_here; (with_reducible refine' Mine.r_trunc_hf ?hA ?bal ?bau ?he ?_); k_dflt ((case hA => exact rfl); (case bal => first | decide | (law_clear; omega) | omega); (case bau => first | decide | (law_clear; omega) | omega); (case he => first | decide | (law_clear; omega) | omega); k_whole); intro q9 hq0))
local macro_rules | `(tactic| walk_at "compareOp Lt float int") => `(tactic| (k_here; (with_reducible refine' Mine.r_lt_fi ?hx ?bal ?bau ?_); k_dflt ((case hx => first | with_reducible exact Mine.c_half | with_reducible exact Mine.c_greg | with_reducible exact Mine.c_isl | with_reducible exact Mine.c_cop | with_reducible exact Mine.c_295 | with_reducible exact Mine.c_1524 | with_reducible rfl); (case bal => first | decide | (law_clear; omega) | omega); (case bau => first | decide | (law_clear; omega) | omega); k_whole)))
local macro_rules | `(tactic| walk_at "compareOp NotEq float float") => `(tactic| (k_here; (with_reducible refine' Mine.r_ne_ff ?hx ?hy ?bal ?bau ?bbl ?bbu ?hab ?_); k_dflt ((case hx => first | with_reducible exact Mine.c_half | with_reducible exact Mine.c_greg | with_reducible exact Mine.c_isl | with_reducible exact Mine.c_cop | with_reducible exact Mine.c_295 | with_reducible exact Mine.c_1524 | with_reducible rfl); (case hy => first | with_reducible exact Mine.c_half | with_reducible exact Mine.c_greg | with_reducible exact Mine.c_isl | with_reducible exact Mine.c_cop | with_reducible exact Mine.c_295 | with_reducible exact Mine.c_1524 | with_reducible rfl); (case bal => first | decide | (law_clear; omega) | omega); (case bau => first | decide | (law_clear; omega) | omega); (case bbl => first | decide | (law_clear; omega) | omega); (case bbu => first | decide | (law_clear; omega) | omega); (case hab => omega); k_whole)))
abbrev NOk (n y mo d : Int) : Prop := 1 ≤ mo ∧ mo ≤ 12 ∧ 1 ≤ d ∧ d ≤ 31 ∧ (mo = 1 → d ≤ 30 + lpN (y + 78)) ∧ (7 ≤ mo → d ≤ 30) ∧ (mo = 1 → n = 365 * (y + 78 - 1) + (y + 78 - 1) / 4 - (y + 78 - 1) / 100 + (y + 78 - 1) / 400 + 1721425 + 80 + d) ∧ (2 ≤ mo → mo ≤ 6 → n = 365 * (y + 78 - 1) + (y + 78 - 1) / 4 - (y + 78 - 1) / 100 + (y + 78 - 1) / 400 + 1721425 + 110 + lpN (y + 78) + 31 * (mo - 2) + d) ∧ (7 ≤ mo → n = 365 * (y + 78 - 1) + (y + 78 - 1) / 4 - (y + 78 - 1) / 100 + (y + 78 - 1) / 400 + 1721425 + 265 + lpN (y + 78) + 30 * (mo - 7) + d)
theorem F_step (Y : Int) : 365 * (Y - 1) + (Y - 1) / 4 - (Y - 1) / 100 + (Y - 1) / 400 + 1721425 = 365 * (Y - 1 - 1) + (Y - 1 - 1) / 4 - (Y - 1 - 1) / 100 + (Y - 1 - 1) / 400 + 1721425 + 365 + lpN (Y - 1) := by
  unfold lpN
  split <;> omega
theorem ind_A {n n9 Y M q k r dd l c : Int} (h0 : q = (2 * n - 1) / 2) (hW : 2 * q + 1 = 2 * n9 - 1) (g3 : 365 * (Y - 1) + (Y - 1) / 4 - (Y - 1) / 100 + (Y - 1) / 400 + 1721425 < n9) (g4 : n9 ≤ 365 * (Y - 1) + (Y - 1) / 4 - (Y - 1) / 100 + (Y - 1) / 400 + 1721425 + 365 + lpN Y) (hM : M = 365 * (Y - 1) + (Y - 1) / 4 - (Y - 1) / 100 + (Y - 1) / 400 + 1721425 + (367 * 1 - 362) / 12 + 1) (hc : lpN Y = l) (hl : c = 30 + l) (hl0 : 0 ≤ l) (hl1 : l ≤ 1) (a1 : 2 * q + 1 - (2 * M - 1) < 2 * 80)
    (hk : k = (2 * q + 1 - (2 * M - 1) + 2 * (c + 31 * 5 + 30 * 3 + 10 + 80) - 2 * 80 - 2 * c - 2 * (31 * 5)) / (2 * 30)) (hr : r = (2 * q + 1 - (2 * M - 1) + 2 * (c + 31 * 5 + 30 * 3 + 10 + 80) - 2 * 80 - 2 * c - 2 * (31 * 5)) % (2 * 30)) (hd : r + 2 * 1 = 2 * dd) :
    NOk n (Y - 78 - 1) (k + 7) dd := by
  have hq : q = n - 1 := by clear hW g3 g4 hM a1 hk hr hd; omega
  have hn9 : n9 = n := by clear g3 g4 hM a1 hk hr hd; omega
  clear h0 hW
  subst hn9 hq
  rw [hc] at g4
  obtain ⟨G, hG⟩ : ∃ G, G = 365 * (Y - 1) + (Y - 1) / 4 - (Y - 1) / 100 + (Y - 1) / 400 + 1721425 := ⟨_, rfl⟩
  rw [← hG] at g3 g4 hM
  have e : Y - 78 - 1 + 78 = Y - 1 := by omega
  have hs := F_step Y
  have hb := lpN_b (Y - 1)
  rw [← hG] at hs
  unfold NOk
  rw [e]
  generalize 365 * (Y - 1 - 1) + (Y - 1 - 1) / 4 - (Y - 1 - 1) / 100 + (Y - 1 - 1) / 400 + 1721425 = G' at hs ⊢
  generalize lpN (Y - 1) = l' at hs hb ⊢
  clear hG e hc
  have h1 : n9 + 100 - G = 30 * k + dd := by clear hs hb; omega
  have h2 : 1 ≤ dd ∧ dd ≤ 30 := by clear hs hb h1; omega
  have h3 : 3 ≤ k ∧ k ≤ 5 := by clear hs hb hk hr; omega
  clear hk hr hd
  refine ⟨by omega, by omega, by omega, by omega, fun _ => by omega, fun _ => by omega, fun _ => by omega, fun _ _ => by omega, fun _ => by omega⟩
theorem ind_B {n n9 Y M q dd l c : Int} (h0 : q = (2 * n - 1) / 2) (hW : 2 * q + 1 = 2 * n9 - 1) (g3 : 365 * (Y - 1) + (Y - 1) / 4 - (Y - 1) / 100 + (Y - 1) / 400 + 1721425 < n9) (g4 : n9 ≤ 365 * (Y - 1) + (Y - 1) / 4 - (Y - 1) / 100 + (Y - 1) / 400 + 1721425 + 365 + lpN Y) (hM : M = 365 * (Y - 1) + (Y - 1) / 4 - (Y - 1) / 100 + (Y - 1) / 400 + 1721425 + (367 * 1 - 362) / 12 + 1) (hc : lpN Y = l) (hl : c = 30 + l) (hl0 : 0 ≤ l) (hl1 : l ≤ 1) (a1 : ¬ 2 * q + 1 - (2 * M - 1) < 2 * 80) (a2 : 2 * q + 1 - (2 * M - 1) - 2 * 80 < 2 * c) (hd : 2 * q + 1 - (2 * M - 1) - 2 * 80 + 2 * 1 = 2 * dd) : NOk n (Y - 78) 1 dd := by
  have hq : q = n - 1 := by clear hW g3 g4 hM a1 a2 hd; omega
  have hn9 : n9 = n := by clear g3 g4 hM a1 a2 hd; omega
  clear h0 hW
  subst hn9 hq
  rw [hc] at g4
  obtain ⟨G, hG⟩ : ∃ G, G = 365 * (Y - 1) + (Y - 1) / 4 - (Y - 1) / 100 + (Y - 1) / 400 + 1721425 := ⟨_, rfl⟩
  rw [← hG] at g3 g4 hM
  have e : Y - 78 + 78 = Y := by omega
  unfold NOk
  rw [e, hc, ← hG]
  clear hG e hc
  refine ⟨by decide, by decide, by omega, by omega, fun _ => by omega, fun h => absurd h (by decide), fun _ => by omega, fun h => absurd h (by decide), fun h => absurd h (by decide)⟩
theorem ind_C {n n9 Y M q k r dd l c : Int} (h0 : q = (2 * n - 1) / 2) (hW : 2 * q + 1 = 2 * n9 - 1) (g3 : 365 * (Y - 1) + (Y - 1) / 4 - (Y - 1) / 100 + (Y - 1) / 400 + 1721425 < n9) (g4 : n9 ≤ 365 * (Y - 1) + (Y - 1) / 4 - (Y - 1) / 100 + (Y - 1) / 400 + 1721425 + 365 + lpN Y) (hM : M = 365 * (Y - 1) + (Y - 1) / 4 - (Y - 1) / 100 + (Y - 1) / 400 + 1721425 + (367 * 1 - 362) / 12 + 1) (hc : lpN Y = l) (hl : c = 30 + l) (hl0 : 0 ≤ l) (hl1 : l ≤ 1) (a1 : ¬ 2 * q + 1 - (2 * M - 1) < 2 * 80) (a2 : ¬ 2 * q + 1 - (2 * M - 1) - 2 * 80 < 2 * c) (a3 : 2 * q + 1 - (2 * M - 1) - 2 * 80 - 2 * c < 2 * (31 * 5))
    (hk : k = (2 * q + 1 - (2 * M - 1) - 2 * 80 - 2 * c) / (2 * 31)) (hr : r = (2 * q + 1 - (2 * M - 1) - 2 * 80 - 2 * c) % (2 * 31)) (hd : r + 2 * 1 = 2 * dd) : NOk n (Y - 78) (k + 2) dd := by
  have hq : q = n - 1 := by clear hW g3 g4 hM a1 a2 a3 hk hr hd; omega
  have hn9 : n9 = n := by clear g3 g4 hM a1 a2 a3 hk hr hd; omega
  clear h0 hW
  subst hn9 hq
  rw [hc] at g4
  obtain ⟨G, hG⟩ : ∃ G, G = 365 * (Y - 1) + (Y - 1) / 4 - (Y - 1) / 100 + (Y - 1) / 400 + 1721425 := ⟨_, rfl⟩
  rw [← hG] at g3 g4 hM
  have e : Y - 78 + 78 = Y := by omega
  unfold NOk
  rw [e, hc, ← hG]
  clear hG e hc
  have h1 : n9 - G - 80 - c = 31 * k + dd := by omega
  have h2 : 1 ≤ dd ∧ dd ≤ 31 := by clear h1; omega
  have h3 : 0 ≤ k ∧ k ≤ 4 := by clear hk hr; omega
  clear hk hr hd
  refine ⟨by omega, by omega, by omega, by omega, fun _ => by omega, fun _ => by omega, fun _ => by omega, fun _ _ => by omega, fun _ => by omega⟩
theorem ind_D {n n9 Y M q k r dd l c : Int} (h0 : q = (2 * n - 1) / 2) (hW : 2 * q + 1 = 2 * n9 - 1) (g3 : 365 * (Y - 1) + (Y - 1) / 4 - (Y - 1) / 100 + (Y - 1) / 400 + 1721425 < n9) (g4 : n9 ≤ 365 * (Y - 1) + (Y - 1) / 4 - (Y - 1) / 100 + (Y - 1) / 400 + 1721425 + 365 + lpN Y) (hM : M = 365 * (Y - 1) + (Y - 1) / 4 - (Y - 1) / 100 + (Y - 1) / 400 + 1721425 + (367 * 1 - 362) / 12 + 1) (hc : lpN Y = l) (hl : c = 30 + l) (hl0 : 0 ≤ l) (hl1 : l ≤ 1) (a1 : ¬ 2 * q + 1 - (2 * M - 1) < 2 * 80) (a2 : ¬ 2 * q + 1 - (2 * M - 1) - 2 * 80 < 2 * c) (a3 : ¬ 2 * q + 1 - (2 * M - 1) - 2 * 80 - 2 * c < 2 * (31 * 5))
    (hk : k = (2 * q + 1 - (2 * M - 1) - 2 * 80 - 2 * c - 2 * (31 * 5)) / (2 * 30)) (hr : r = (2 * q + 1 - (2 * M - 1) - 2 * 80 - 2 * c - 2 * (31 * 5)) % (2 * 30)) (hd : r + 2 * 1 = 2 * dd) : NOk n (Y - 78) (k + 7) dd := by
  have hq : q = n - 1 := by clear hW g3 g4 hM a1 a2 a3 hk hr hd; omega
  have hn9 : n9 = n := by clear g3 g4 hM a1 a2 a3 hk hr hd; omega
  clear h0 hW
  subst hn9 hq
  rw [hc] at g4
  obtain ⟨G, hG⟩ : ∃ G, G = 365 * (Y - 1) + (Y - 1) / 4 - (Y - 1) / 100 + (Y - 1) / 400 + 1721425 := ⟨_, rfl⟩
  rw [← hG] at g3 g4 hM
  have e : Y - 78 + 78 = Y := by omega
  unfold NOk
  rw [e, hc, ← hG]
  clear hG e hc
  have h1 : n9 - G - 235 - c = 30 * k + dd := by omega
  have h2 : 1 ≤ dd ∧ dd ≤ 30 := by clear h1; omega
  have h3 : 0 ≤ k ∧ k ≤ 5 := by clear hk hr; omega
  clear hk hr hd
  refine ⟨by omega, by omega, by omega, by omega, fun _ => by omega, fun _ => by omega, fun _ => by omega, fun _ _ => by omega, fun _ => by omega⟩
theorem drop2 {h₀ h : Heap} {L : Addr} {x y : Addr × Obj} {news : List (Addr × Obj)} (N : News h₀ L h (x :: y :: news)) : News h₀ L h (x :: news) := fun p hp => N p (by
  rcases List.mem_cons.mp hp with rfl | h
  · exact .head _
  · exact .tail _ (.tail _ h))
section
variable {w : World} {p : Program} {loose : List Str} {mean : ExcName → Option Value} {mg mb : Str → Option Value} {dp un : Nat} {gd : Option (List Code)} {cn : Str} {cs : Scope} {a : Addr} {ccd : Value} {cl : List (Str × Addr)} {outer : List Env} {A₀ : Around} {base h₀ : Heap} {L : Addr} {m : Str → Option Value} {news : List (Addr × Obj)} {s : Shared} {Q E : Value → Shared → Prop}
theorem fromjd_w (W : Int) (t1 : Tok) (B : Below A₀ base outer h₀) (F : Fr h₀ L s.heap m) (X : (hd.heap_39 w.params).In h₀) (N : News h₀ L s.heap news) (T : Top p loose mean mg mb h₀) (hk : cs.kind = .function)
    (hdp : dp + 7 < recursionLimit) (hun : un + 60 < cLine)
    (hw : W % 2 = 1) (hw1 : -10000000001 ≤ W) (hw2 : W ≤ 9999999999)
    (h1 : ∀ n y mo d, W = 2 * n - 1 → -20000000 ≤ y → y ≤ 20000000 → 365 * (y - 1) + (y - 1) / 4 - (y - 1) / 100 + (y - 1) / 400 + 1721425 < n → n ≤ 365 * (y - 1) + (y - 1) / 4 - (y - 1) / 100 + (y - 1) / 400 + 1721425 + 365 + lpN y → 0 ≤ lpN y ∧ lpN y ≤ 1 → RetT h₀ L m news s Q y mo d) :
    Goes w dp un gd cn cs L a ccd cl outer 71 [.float (HF W) t1] Q E s := by
  obtain ⟨n, rfl⟩ : ∃ n, W = 2 * n - 1 := ⟨(W + 1) / 2, by omega⟩
  refine fromjd_g n t1 B F X N T hk hdp hun (by omega) (by omega) (fun y mo d e1 e2 e3 e4 e5 e6 e7 e8 => ?_)
  have hlp := lpN_b y
  have hf : 365 * (y - 1) + (y - 1) / 4 - (y - 1) / 100 + (y - 1) / 400 + 1721425 < n ∧ n ≤ 365 * (y - 1) + (y - 1) / 4 - (y - 1) / 100 + (y - 1) / 400 + 1721425 + 365 + lpN y := by
    clear h1 e4 e5
    by_cases q : mo ≤ 2
    · have := e7 q; clear e7 e8; omega
    · have := e8 (by omega); clear e7 e8; omega
  have hyb : -20000000 ≤ y ∧ y ≤ 20000000 := by
    clear h1 e4 e5 e7 e8
    omega
  exact h1 n y mo d rfl hyb.1 hyb.2 hf.1 hf.2 hlp
local macro_rules | `(tactic| walk_at "call ref") => `(tactic| (k_here; (with_reducible show wpAny _ _ (call (Value.ref 50) _) _ _ _); k_dflt (refine' Mine.isleap_c _ _ ?k1 ?k2 ?k3 ?k4 ?k5 ?kK ?kd ?ku  ?_ ?_; (case k1 => k_asm); (case k2 => k_asm); (case k3 => k_asm); (case k4 => k_asm); (case k5 => k_asm); (case kK => first | exact rfl | assumption); (case kd => (dsimp only [ktrTop]; omega)); (case ku => (dsimp only [ktrTop]; omega)); all_goals (intro hc t9 h9 tk9 F9 N9; (try simp only [AllLt, and_true] at l9); (try dsimp only); (try k_sweep); (try k_fold)))))
local macro_rules | `(tactic| walk_at "call ref") => `(tactic| (k_here; (with_reducible show wpAny _ _ (call (Value.ref 57) _) _ _ _); k_dflt (refine' Mine.legal_g _ _ _ _ _ _ ?k1 ?k2 ?k3 ?k4 ?k5 ?kK ?kd ?ku ?hd1 ?hm2 ?hm3 ?hm4 ?_; (case k1 => k_asm); (case k2 => k_asm); (case k3 => k_asm); (case k4 => k_asm); (case k5 => k_asm); (case kK => first | exact rfl | assumption); (case kd => (dsimp only [ktrTop]; omega)); (case ku => (dsimp only [ktrTop]; omega)); (case hd1 => first | omega | assumption); (case hm2 => first | omega | assumption); (case hm3 => first | omega | assumption); (case hm4 => first | omega | assumption); all_goals (intro t9 h9 tk9 F9 N9; (try simp only [AllLt, and_true] at l9); (try dsimp only); (try k_sweep); (try k_fold)))))
local macro_rules | `(tactic| walk_at "call ref") => `(tactic| (k_here; (with_reducible show wpAny _ _ (call (Value.ref 64) _) _ _ _); k_dflt (refine' Mine.tojd_g _ _ _ _ _ _ ?k1 ?k2 ?k3 ?k4 ?k5 ?kK ?kd ?ku ?hy1 ?hy2 ?hmo1 ?hmo2 ?hd1 ?hm2 ?hm3 ?hm4 ?_; (case k1 => k_asm); (case k2 => k_asm); (case k3 => k_asm); (case k4 => k_asm); (case k5 => k_asm); (case kK => first | exact rfl | assumption); (case kd => (dsimp only [ktrTop]; omega)); (case ku => (dsimp only [ktrTop]; omega)); (case hy1 => first | omega | assumption); (case hy2 => first | omega | assumption); (case hmo1 => first | omega | assumption); (case hmo2 => first | omega | assumption); (case hd1 => first | omega | assumption); (case hm2 => first | omega | assumption); (case hm3 => first | omega | assumption); (case hm4 => first | omega | assumption); all_goals (intro M9 hM1 hM2 t9 h9 tk9 F9 N9; (first | (replace hM1 := hM1 (by omega); clear hM2) | (replace hM2 := hM2 (by omega); clear hM1) | skip); (try simp only [AllLt, and_true] at l9); (try dsimp only); (try k_sweep); (try k_fold)))))
local macro_rules | `(tactic| walk_at "call ref") => `(tactic| (k_here; (with_reducible show wpAny _ _ (call (Value.ref 71) _) _ _ _); k_dflt (refine' Mine.fromjd_w _ _ ?k1 ?k2 ?k3 ?k4 ?k5 ?kK ?kd ?ku ?hw ?hw1 ?hw2 ?_; (case k1 => k_asm); (case k2 => k_asm); (case k3 => k_asm); (case k4 => k_asm); (case k5 => k_asm); (case kK => first | exact rfl | assumption); (case kd => (dsimp only [ktrTop]; omega)); (case ku => (dsimp only [ktrTop]; omega)); (case hw => first | omega | assumption); (case hw1 => first | omega | assumption); (case hw2 => first | omega | assumption); all_goals (intro n9 y9 mo9 d9 hW9 g1 g2 g3 g4 g5 D9 u1 u2 u3 c9 h9 tk9 F9 N9 l9; (try simp only [AllLt, and_true] at l9); (try dsimp only); (try k_sweep); (try k_fold)))))
local macro_rules | `(tactic| walk_at "call ref") => `(tactic| (k_here; (with_reducible show wpAny _ _ (call (Value.ref 71) _) _ _ _); k_dflt (refine' Mine.fromjd_g _ _ ?k1 ?k2 ?k3 ?k4 ?k5 ?kK ?kd ?ku ?hn1 ?hn2 ?_; (case k1 => k_asm); (case k2 => k_asm); (case k3 => k_asm); (case k4 => k_asm); (case k5 => k_asm); (case kK => first | exact rfl | assumption); (case kd => (dsimp only [ktrTop]; omega)); (case ku => (dsimp only [ktrTop]; omega)); (case hn1 => first | omega | assumption); (case hn2 => first | omega | assumption); all_goals (intro y9 mo9 d9 g1 g2 g3 g4 g5 g6 g7 g8 D9 u1 u2 u3 c9 h9 tk9 F9 N9 l9; (try simp only [AllLt, and_true] at l9); (try dsimp only); (try k_sweep); (try k_fold)))))
local macro_rules | `(tactic| walk_at "call ref") => `(tactic| (k_here; (with_reducible show wpAny _ _ (call (Value.ref 64) _) _ _ _); k_dflt (refine' Mine.tojd_n _ _ _ _ _ _ _ ?k1 ?k2 ?k3 ?k4 ?k5 ?kK ?kd ?ku ?e7 ?e8 ?e1 ?e2 ?e3 ?e4 ?e5 ?e6 ?hn1 ?hn2 ?_; (case k1 => k_asm); (case k2 => k_asm); (case k3 => k_asm); (case k4 => k_asm); (case k5 => k_asm); (case kK => first | exact rfl | assumption); (case kd => (dsimp only [ktrTop]; omega)); (case ku => (dsimp only [ktrTop]; omega)); (case e7 => first | assumption | omega); (case e8 => first | assumption | omega); (case e1 => first | assumption | omega); (case e2 => first | assumption | omega); (case e3 => first | assumption | omega); (case e4 => first | assumption | omega); (case e5 => first | assumption | omega); (case e6 => first | assumption | omega); (case hn1 => first | assumption | omega); (case hn2 => first | assumption | omega); all_goals (intro t9 h9 tk9 F9 N9; (try simp only [AllLt, and_true] at l9); (try dsimp only); (try k_sweep); (try k_fold)))))
theorem ntojd_c (y mo d : Int) (t1 t2 t3 : Tok) (B : Below A₀ base outer h₀) (F : Fr h₀ L s.heap m) (X : (hd.heap_39 w.params).In h₀) (N : News h₀ L s.heap news) (T : Top p loose mean mg mb h₀) (hk : cs.kind = .function)
    (hdp : dp + 7 < recursionLimit) (hun : un + 56 < cLine)
    (hy1 : -20000000 ≤ y) (hy2 : y ≤ 20000000) (hmo1 : 1 ≤ mo) (hmo2 : mo ≤ 12) (hd1 : 1 ≤ d) (hd2 : d ≤ 31)
    (h1 : ∀ M, (mo = 1 → M = 365 * (y + 78 - 1) + (y + 78 - 1) / 4 - (y + 78 - 1) / 100 + (y + 78 - 1) / 400 + 1721425 + 80 + d) → (2 ≤ mo → mo ≤ 6 → M = 365 * (y + 78 - 1) + (y + 78 - 1) / 4 - (y + 78 - 1) / 100 + (y + 78 - 1) / 400 + 1721425 + 110 + lpN (y + 78) + 31 * (mo - 2) + d) → (7 ≤ mo → M = 365 * (y + 78 - 1) + (y + 78 - 1) / 4 - (y + 78 - 1) / 100 + (y + 78 - 1) / 400 + 1721425 + 265 + lpN (y + 78) + 30 * (mo - 7) + d) → RetV h₀ L m news s Q fun t => .float (HF (2 * M - 1)) t) :
    Goes w dp un gd cn cs L a ccd cl outer 184 [.int y t1, .int mo t2, .int d t3] Q E s := by
  unfold Goes
  revert X; k_fill; intro X
  refine wpAny_call ?_
  k_dflt (refine' code_def (binds := [(Str.ofString "year", .int y t1), (Str.ofString "month", .int mo t2), (Str.ofString "day", .int d t3)]) ?k1 ?k2 ?k3 ?k4 ?k5 ?kA ?kF ?kK ?k6 ?k7 ?k8 ?k9 ?kB ?_ ?c2 ?c3 ?c4 ?c5; (case kA => exact rfl); (case kF => exact rfl); (case kK => assumption); (case k1 => k_asm); (case k2 => k_asm); (case k3 => k_asm); (case k4 => k_asm); (case k5 => k_asm); (case k6 => k_is); (case k7 => k_is); (case k8 => (dsimp only [ktrTop]; omega)); (case k9 => exact BindsTo.of_eq rfl); (case c5 => decide); (case kB => exact locs rfl); (case c2 => exact rfl); (case c3 => exact rfl); (case c4 => exact rfl); k_whole; intro g' L' h' FG' F' N' B' X' T'; (try dsimp only); (try k_fold))
  have hlp := lpN_b (y + 78)
  k_steps
  all_goals
    by_cases q7 : 7 ≤ mo
    · have hr := h1 (365 * (y + 78 - 1) + (y + 78 - 1) / 4 - (y + 78 - 1) / 100 + (y + 78 - 1) / 400 + 1721425 + 265 + lpN (y + 78) + 30 * (mo - 7) + d) (fun h => absurd h (by omega)) (fun _ h => absurd h (by omega)) (fun _ => rfl)
      exact retF (s := s) hr (by law_clear; omega) (by k_asm) (by k_asm)
    · by_cases q1 : mo = 1
      · have hr := h1 (365 * (y + 78 - 1) + (y + 78 - 1) / 4 - (y + 78 - 1) / 100 + (y + 78 - 1) / 400 + 1721425 + 80 + d) (fun _ => rfl) (fun h => absurd h (by omega)) (fun h => absurd h (by omega))
        exact retF (s := s) hr (by law_clear; omega) (by k_asm) (by k_asm)
      · have hr := h1 (365 * (y + 78 - 1) + (y + 78 - 1) / 4 - (y + 78 - 1) / 100 + (y + 78 - 1) / 400 + 1721425 + 110 + lpN (y + 78) + 31 * (mo - 2) + d) (fun h => absurd h (by omega)) (fun _ _ => rfl) (fun h => absurd h (by omega))
        exact retF (s := s) hr (by law_clear; omega) (by k_asm) (by k_asm)
local macro_rules | `(tactic| walk_at "call ref") => `(tactic| (k_here; (with_reducible show wpAny _ _ (call (Value.ref 184) _) _ _ _); k_dflt (refine' Mine.ntojd_c _ _ _ _ _ _ ?k1 ?k2 ?k3 ?k4 ?k5 ?kK ?kd ?ku ?hy1 ?hy2 ?hmo1 ?hmo2 ?hd1 ?hd2 ?_; (case k1 => k_asm); (case k2 => k_asm); (case k3 => k_asm); (case k4 => k_asm); (case k5 => k_asm); (case kK => first | exact rfl | assumption); (case kd => (dsimp only [ktrTop]; omega)); (case ku => (dsimp only [ktrTop]; omega)); (case hy1 => first | omega | assumption); (case hy2 => first | omega | assumption); (case hmo1 => first | omega | assumption); (case hmo2 => first | omega | assumption); (case hd1 => first | omega | assumption); (case hd2 => first | omega | assumption); all_goals (intro M9 hM1 hM2 hM3 t9 h9 tk9 F9 N9; (try replace hM1 := hM1 (by omega)); (try replace hM2 := hM2 (by omega) (by omega)); (try replace hM3 := hM3 (by omega)); (try simp only [AllLt, and_true] at l9); (try dsimp only); (try k_sweep); (try k_fold)))))
theorem ntojd_n (n y mo d : Int) (t1 t2 t3 : Tok) (B : Below A₀ base outer h₀) (F : Fr h₀ L s.heap m) (X : (hd.heap_39 w.params).In h₀) (N : News h₀ L s.heap news) (T : Top p loose mean mg mb h₀) (hk : cs.kind = .function)
    (hdp : dp + 7 < recursionLimit) (hun : un + 56 < cLine)
    (e7 : mo = 1 → n = 365 * (y + 78 - 1) + (y + 78 - 1) / 4 - (y + 78 - 1) / 100 + (y + 78 - 1) / 400 + 1721425 + 80 + d) (e8 : 2 ≤ mo → mo ≤ 6 → n = 365 * (y + 78 - 1) + (y + 78 - 1) / 4 - (y + 78 - 1) / 100 + (y + 78 - 1) / 400 + 1721425 + 110 + lpN (y + 78) + 31 * (mo - 2) + d) (e9 : 7 ≤ mo → n = 365 * (y + 78 - 1) + (y + 78 - 1) / 4 - (y + 78 - 1) / 100 + (y + 78 - 1) / 400 + 1721425 + 265 + lpN (y + 78) + 30 * (mo - 7) + d) (e1 : 1 ≤ mo) (e2 : mo ≤ 12) (e3 : 1 ≤ d) (e4 : d ≤ 31) (e5 : mo = 1 → d ≤ 30 + lpN (y + 78)) (e6 : 7 ≤ mo → d ≤ 30) (hn1 : -5000000000 ≤ n) (hn2 : n ≤ 5000000000)
    (h1 : RetV h₀ L m news s Q fun t => .float (HF (2 * n - 1)) t) :
    Goes w dp un gd cn cs L a ccd cl outer 184 [.int y t1, .int mo t2, .int d t3] Q E s := by
  have hlp := lpN_b (y + 78)
  have hyb : -20000000 ≤ y ∧ y ≤ 20000000 := by
    clear h1 e5 e6
    by_cases q7 : 7 ≤ mo
    · have := e9 q7; clear e7 e8 e9; omega
    · by_cases q1 : mo = 1
      · have := e7 q1; clear e7 e8 e9; omega
      · have := e8 (by omega) (by omega); clear e7 e8 e9; omega
  refine ntojd_c y mo d t1 t2 t3 B F X N T hk hdp hun (by omega) (by omega) (by omega) (by omega) (by omega) (by omega) (fun M hM1 hM2 hM3 => ?_)
  have hMn : M = n := by
    by_cases q7 : 7 ≤ mo
    · rw [hM3 q7, e9 q7]
    · by_cases q1 : mo = 1
      · rw [hM1 q1, e7 q1]
      · rw [hM2 (by omega) (by omega), e8 (by omega) (by omega)]
  subst hMn
  exact h1
local macro_rules | `(tactic| walk_at "call ref") => `(tactic| (k_here; (with_reducible show wpAny _ _ (call (Value.ref 184) _) _ _ _); k_dflt (refine' Mine.ntojd_n _ _ _ _ _ _ _ ?k1 ?k2 ?k3 ?k4 ?k5 ?kK ?kd ?ku ?e7 ?e8 ?e9 ?e1 ?e2 ?e3 ?e4 ?e5 ?e6 ?hn1 ?hn2 ?_; (case k1 => k_asm); (case k2 => k_asm); (case k3 => k_asm); (case k4 => k_asm); (case k5 => k_asm); (case kK => first | exact rfl | assumption); (case kd => (dsimp only [ktrTop]; omega)); (case ku => (dsimp only [ktrTop]; omega)); (case e7 => first | assumption | omega); (case e8 => first | assumption | omega); (case e9 => first | assumption | omega); (case e1 => first | assumption | omega); (case e2 => first | assumption | omega); (case e3 => first | assumption | omega); (case e4 => first | assumption | omega); (case e5 => first | assumption | omega); (case e6 => first | assumption | omega); (case hn1 => first | assumption | omega); (case hn2 => first | assumption | omega); all_goals (intro t9 h9 tk9 F9 N9; (try simp only [AllLt, and_true] at l9); (try dsimp only); (try k_sweep); (try k_fold)))))
theorem nfromjd_c (n : Int) (t1 : Tok) (B : Below A₀ base outer h₀) (F : Fr h₀ L s.heap m) (X : (hd.heap_39 w.params).In h₀) (N : News h₀ L s.heap news) (T : Top p loose mean mg mb h₀) (hk : cs.kind = .function)
    (hdp : dp + 9 < recursionLimit) (hun : un + 76 < cLine)
    (hn1 : -5000000000 ≤ n) (hn2 : n ≤ 5000000000)
    (h1 : ∀ y mo d, 1 ≤ mo → mo ≤ 12 → 1 ≤ d → d ≤ 31 → (mo = 1 → d ≤ 30 + lpN (y + 78)) → (7 ≤ mo → d ≤ 30) → (mo = 1 → n = 365 * (y + 78 - 1) + (y + 78 - 1) / 4 - (y + 78 - 1) / 100 + (y + 78 - 1) / 400 + 1721425 + 80 + d) → (2 ≤ mo → mo ≤ 6 → n = 365 * (y + 78 - 1) + (y + 78 - 1) / 4 - (y + 78 - 1) / 100 + (y + 78 - 1) / 400 + 1721425 + 110 + lpN (y + 78) + 31 * (mo - 2) + d) → (7 ≤ mo → n = 365 * (y + 78 - 1) + (y + 78 - 1) / 4 - (y + 78 - 1) / 100 + (y + 78 - 1) / 400 + 1721425 + 265 + lpN (y + 78) + 30 * (mo - 7) + d) → RetT h₀ L m news s Q y mo d) :
    Goes w dp un gd cn cs L a ccd cl outer 191 [.float (HF (2 * n - 1)) t1] Q E s := by
  unfold Goes
  revert X; k_fill; intro X
  refine wpAny_call ?_
  k_dflt (refine' code_def (binds := [(Str.ofString "jd", .float (HF (2 * n - 1)) t1)]) ?k1 ?k2 ?k3 ?k4 ?k5 ?kA ?kF ?kK ?k6 ?k7 ?k8 ?k9 ?kB ?_ ?c2 ?c3 ?c4 ?c5; (case kA => exact rfl); (case kF => exact rfl); (case kK => assumption); (case k1 => k_asm); (case k2 => k_asm); (case k3 => k_asm); (case k4 => k_asm); (case k5 => k_asm); (case k6 => k_is); (case k7 => k_is); (case k8 => (dsimp only [ktrTop]; omega)); (case k9 => exact BindsTo.of_eq rfl); (case c5 => decide); (case kB => exact locs rfl); (case c2 => exact rfl); (case c3 => exact rfl); (case c4 => exact rfl); k_whole; intro g' L' h' FG' F' N' B' X' T'; (try dsimp only); (try k_fold))
  k_steps
  · have J := Mine.ind_A (n := n) (c := 31) (by assumption) (by assumption) (by assumption) (by assumption) (by assumption) (by assumption) (by decide) (by decide) (by decide) (by assumption) (by assumption) (by assumption) (by assumption) 
    obtain ⟨g1, g2, g3, g4, g5, g6, g7, g8, g9⟩ := J
    exact h1 _ _ _ g1 g2 g3 g4 g5 g6 g7 g8 g9 _ _ _ _ _ _ _ (by k_asm) (drop2 (by k_asm)) (by first | k_asm | exact allLt_of (by assumption) | exact And.right (by assumption))
  · have J := Mine.ind_B (n := n) (c := 31) (by assumption) (by assumption) (by assumption) (by assumption) (by assumption) (by assumption) (by decide) (by decide) (by decide) (by assumption) (by assumption) (by assumption) 
    obtain ⟨g1, g2, g3, g4, g5, g6, g7, g8, g9⟩ := J
    exact h1 _ _ _ g1 g2 g3 g4 g5 g6 g7 g8 g9 _ _ _ _ _ _ _ (by k_asm) (drop2 (by k_asm)) (by first | k_asm | exact allLt_of (by assumption) | exact And.right (by assumption))
  · have J := Mine.ind_C (n := n) (c := 31) (by assumption) (by assumption) (by assumption) (by assumption) (by assumption) (by assumption) (by decide) (by decide) (by decide) (by assumption) (by assumption) (by assumption) (by assumption) (by assumption) (by assumption) 
    obtain ⟨g1, g2, g3, g4, g5, g6, g7, g8, g9⟩ := J
    exact h1 _ _ _ g1 g2 g3 g4 g5 g6 g7 g8 g9 _ _ _ _ _ _ _ (by k_asm) (drop2 (by k_asm)) (by first | k_asm | exact allLt_of (by assumption) | exact And.right (by assumption))
  · have J := Mine.ind_D (n := n) (c := 31) (by assumption) (by assumption) (by assumption) (by assumption) (by assumption) (by assumption) (by decide) (by decide) (by decide) (by assumption) (by assumption) (by assumption) (by assumption) (by assumption) (by assumption) 
    obtain ⟨g1, g2, g3, g4, g5, g6, g7, g8, g9⟩ := J
    exact h1 _ _ _ g1 g2 g3 g4 g5 g6 g7 g8 g9 _ _ _ _ _ _ _ (by k_asm) (drop2 (by k_asm)) (by first | k_asm | exact allLt_of (by assumption) | exact And.right (by assumption))
  · have J := Mine.ind_A (n := n) (c := 30) (by assumption) (by assumption) (by assumption) (by assumption) (by assumption) (by assumption) (by decide) (by decide) (by decide) (by assumption) (by assumption) (by assumption) (by assumption) 
    obtain ⟨g1, g2, g3, g4, g5, g6, g7, g8, g9⟩ := J
    exact h1 _ _ _ g1 g2 g3 g4 g5 g6 g7 g8 g9 _ _ _ _ _ _ _ (by k_asm) (drop2 (by k_asm)) (by first | k_asm | exact allLt_of (by assumption) | exact And.right (by assumption))
  · have J := Mine.ind_B (n := n) (c := 30) (by assumption) (by assumption) (by assumption) (by assumption) (by assumption) (by assumption) (by decide) (by decide) (by decide) (by assumption) (by assumption) (by assumption) 
    obtain ⟨g1, g2, g3, g4, g5, g6, g7, g8, g9⟩ := J
    exact h1 _ _ _ g1 g2 g3 g4 g5 g6 g7 g8 g9 _ _ _ _ _ _ _ (by k_asm) (drop2 (by k_asm)) (by first | k_asm | exact allLt_of (by assumption) | exact And.right (by assumption))
  · have J := Mine.ind_C (n := n) (c := 30) (by assumption) (by assumption) (by assumption) (by assumption) (by assumption) (by assumption) (by decide) (by decide) (by decide) (by assumption) (by assumption) (by assumption) (by assumption) (by assumption) (by assumption) 
    obtain ⟨g1, g2, g3, g4, g5, g6, g7, g8, g9⟩ := J
    exact h1 _ _ _ g1 g2 g3 g4 g5 g6 g7 g8 g9 _ _ _ _ _ _ _ (by k_asm) (drop2 (by k_asm)) (by first | k_asm | exact allLt_of (by assumption) | exact And.right (by assumption))
  · have J := Mine.ind_D (n := n) (c := 30) (by assumption) (by assumption) (by assumption) (by assumption) (by assumption) (by assumption) (by decide) (by decide) (by decide) (by assumption) (by assumption) (by assumption) (by assumption) (by assumption) (by assumption) 
    obtain ⟨g1, g2, g3, g4, g5, g6, g7, g8, g9⟩ := J
    exact h1 _ _ _ g1 g2 g3 g4 g5 g6 g7 g8 g9 _ _ _ _ _ _ _ (by k_asm) (drop2 (by k_asm)) (by first | k_asm | exact allLt_of (by assumption) | exact And.right (by assumption))
local macro_rules | `(tactic| walk_at "call ref") => `(tactic| (k_here; (with_reducible show wpAny _ _ (call (Value.ref 191) _) _ _ _); k_dflt (refine' Mine.nfromjd_c _ _ ?k1 ?k2 ?k3 ?k4 ?k5 ?kK ?kd ?ku ?hn1 ?hn2 ?_; (case k1 => k_asm); (case k2 => k_asm); (case k3 => k_asm); (case k4 => k_asm); (case k5 => k_asm); (case kK => first | exact rfl | assumption); (case kd => (dsimp only [ktrTop]; omega)); (case ku => (dsimp only [ktrTop]; omega)); (case hn1 => first | omega | assumption); (case hn2 => first | omega | assumption); all_goals (intro y9 mo9 d9 g1 g2 g3 g4 g5 g6 g7 g8 g9 D9 u1 u2 u3 c9 h9 tk9 F9 N9 l9; (try simp only [AllLt, and_true] at l9); (try dsimp only); (try k_sweep); (try k_fold)))))
theorem fgn_c (n y mo d : Int) (t1 t2 t3 : Tok) (B : Below A₀ base outer h₀) (F : Fr h₀ L s.heap m) (X : (hd.heap_39 w.params).In h₀) (N : News h₀ L s.heap news) (T : Top p loose mean mg mb h₀) (hk : cs.kind = .function)
    (hdp : dp + 12 < recursionLimit) (hun : un + 100 < cLine)
    (e7 : mo ≤ 2 → n = 365 * (y - 1) + (y - 1) / 4 - (y - 1) / 100 + (y - 1) / 400 + 1721425 + (367 * mo - 362) / 12 + d) (e8 : 2 < mo → n = 365 * (y - 1) + (y - 1) / 4 - (y - 1) / 100 + (y - 1) / 400 + 1721425 + (367 * mo - 362) / 12 + d - 2 + lpN y) (e1 : 1 ≤ mo) (e2 : mo ≤ 12) (e3 : 1 ≤ d) (e4 : mo = 2 → d ≤ 28 + lpN y) (e5 : mo = 4 ∨ mo = 6 ∨ mo = 9 ∨ mo = 11 → d ≤ 30) (e6 : d ≤ 31) (hn1 : -5000000000 ≤ n) (hn2 : n ≤ 5000000000)
    (h1 : ∀ y mo d, 1 ≤ mo → mo ≤ 12 → 1 ≤ d → d ≤ 31 → (mo = 1 → d ≤ 30 + lpN (y + 78)) → (7 ≤ mo → d ≤ 30) → (mo = 1 → n = 365 * (y + 78 - 1) + (y + 78 - 1) / 4 - (y + 78 - 1) / 100 + (y + 78 - 1) / 400 + 1721425 + 80 + d) → (2 ≤ mo → mo ≤ 6 → n = 365 * (y + 78 - 1) + (y + 78 - 1) / 4 - (y + 78 - 1) / 100 + (y + 78 - 1) / 400 + 1721425 + 110 + lpN (y + 78) + 31 * (mo - 2) + d) → (7 ≤ mo → n = 365 * (y + 78 - 1) + (y + 78 - 1) / 4 - (y + 78 - 1) / 100 + (y + 78 - 1) / 400 + 1721425 + 265 + lpN (y + 78) + 30 * (mo - 7) + d) → RetT h₀ L m news s Q y mo d) :
    Goes w dp un gd cn cs L a ccd cl outer 198 [.int y t1, .int mo t2, .int d t3] Q E s := by
  unfold Goes
  revert X; k_fill; intro X
  refine wpAny_call ?_
  k_dflt (refine' code_def (binds := [(Str.ofString "year", .int y t1), (Str.ofString "month", .int mo t2), (Str.ofString "day", .int d t3)]) ?k1 ?k2 ?k3 ?k4 ?k5 ?kA ?kF ?kK ?k6 ?k7 ?k8 ?k9 ?kB ?_ ?c2 ?c3 ?c4 ?c5; (case kA => exact rfl); (case kF => exact rfl); (case kK => assumption); (case k1 => k_asm); (case k2 => k_asm); (case k3 => k_asm); (case k4 => k_asm); (case k5 => k_asm); (case k6 => k_is); (case k7 => k_is); (case k8 => (dsimp only [ktrTop]; omega)); (case k9 => exact BindsTo.of_eq rfl); (case c5 => decide); (case kB => exact locs rfl); (case c2 => exact rfl); (case c3 => exact rfl); (case c4 => exact rfl); k_whole; intro g' L' h' FG' F' N' B' X' T'; (try dsimp only); (try k_fold))
  k_steps
  all_goals
    refine' h1 _ _ _ ?_ ?_ ?_ ?_ ?_ ?_ ?_ ?_ ?_ _ _ _ _ _ _ _ ?F ?N ?l
    (case F => k_asm)
    (case N => k_asm)
    (case l => first | k_asm | exact allLt_of (by assumption))
    all_goals assumption
theorem tgn_c (n y mo d : Int) (t1 t2 t3 : Tok) (B : Below A₀ base outer h₀) (F : Fr h₀ L s.heap m) (X : (hd.heap_39 w.params).In h₀) (N : News h₀ L s.heap news) (T : Top p loose mean mg mb h₀) (hk : cs.kind = .function)
    (hdp : dp + 12 < recursionLimit) (hun : un + 100 < cLine)
    (e7 : mo = 1 → n = 365 * (y + 78 - 1) + (y + 78 - 1) / 4 - (y + 78 - 1) / 100 + (y + 78 - 1) / 400 + 1721425 + 80 + d) (e8 : 2 ≤ mo → mo ≤ 6 → n = 365 * (y + 78 - 1) + (y + 78 - 1) / 4 - (y + 78 - 1) / 100 + (y + 78 - 1) / 400 + 1721425 + 110 + lpN (y + 78) + 31 * (mo - 2) + d) (e9 : 7 ≤ mo → n = 365 * (y + 78 - 1) + (y + 78 - 1) / 4 - (y + 78 - 1) / 100 + (y + 78 - 1) / 400 + 1721425 + 265 + lpN (y + 78) + 30 * (mo - 7) + d) (e1 : 1 ≤ mo) (e2 : mo ≤ 12) (e3 : 1 ≤ d) (e4 : d ≤ 31) (e5 : mo = 1 → d ≤ 30 + lpN (y + 78)) (e6 : 7 ≤ mo → d ≤ 30) (hn1 : -5000000000 ≤ n) (hn2 : n ≤ 5000000000)
    (h1 : ∀ y mo d, 1 ≤ mo → mo ≤ 12 → 1 ≤ d → (mo = 2 → d ≤ 28 + lpN y) → (mo = 4 ∨ mo = 6 ∨ mo = 9 ∨ mo = 11 → d ≤ 30) → d ≤ 31 → (mo ≤ 2 → n = 365 * (y - 1) + (y - 1) / 4 - (y - 1) / 100 + (y - 1) / 400 + 1721425 + (367 * mo - 362) / 12 + d) → (2 < mo → n = 365 * (y - 1) + (y - 1) / 4 - (y - 1) / 100 + (y - 1) / 400 + 1721425 + (367 * mo - 362) / 12 + d - 2 + lpN y) → RetT h₀ L m news s Q y mo d) :
    Goes w dp un gd cn cs L a ccd cl outer 205 [.int y t1, .int mo t2, .int d t3] Q E s := by
  unfold Goes
  revert X; k_fill; intro X
  refine wpAny_call ?_
  k_dflt (refine' code_def (binds := [(Str.ofString "year", .int y t1), (Str.ofString "month", .int mo t2), (Str.ofString "day", .int d t3)]) ?k1 ?k2 ?k3 ?k4 ?k5 ?kA ?kF ?kK ?k6 ?k7 ?k8 ?k9 ?kB ?_ ?c2 ?c3 ?c4 ?c5; (case kA => exact rfl); (case kF => exact rfl); (case kK => assumption); (case k1 => k_asm); (case k2 => k_asm); (case k3 => k_asm); (case k4 => k_asm); (case k5 => k_asm); (case k6 => k_is); (case k7 => k_is); (case k8 => (dsimp only [ktrTop]; omega)); (case k9 => exact BindsTo.of_eq rfl); (case c5 => decide); (case kB => exact locs rfl); (case c2 => exact rfl); (case c3 => exact rfl); (case c4 => exact rfl); k_whole; intro g' L' h' FG' F' N' B' X' T'; (try dsimp only); (try k_fold))
  k_steps
  all_goals
    refine' h1 _ _ _ ?_ ?_ ?_ ?_ ?_ ?_ ?_ ?_ _ _ _ _ _ _ _ ?F ?N ?l
    (case F => k_asm)
    (case N => k_asm)
    (case l => first | k_asm | exact allLt_of (by assumption))
    all_goals assumption
end
end Mine
-- CL
namespace Mine
set_option maxRecDepth 100000
set_option maxHeartbeats 8000000
open PySem PySem.W PyProof.Rows PySem.Calls
theorem still_CL : True := by w_top off; trivial
local macro_rules | `(tactic| walk_at "binaryOp Mod int int") => `(tactic| (k_here; (refine' Mine.r_mod_ii ?ba ?_; (case ba => decide); k_whole)))
local macro_rules | `(tactic| walk_at "ite") => `(tactic| (k_here; k_openite; first
  | (refine ite_pos (by ((try simp only [decide_eq_true_eq, beq_iff_eq, bne_iff_ne, ne_eq]); omega)) ?_)
  | (refine ite_neg (by ((try simp only [decide_eq_true_eq, beq_iff_eq, bne_iff_ne, ne_eq]); omega)) ?_)))
local macro_rules | `(tactic| walk_at "eval Name") => `(tactic| (k_here; (name_kind "globalImplicit"); k_dflt (refine' nameX_K ?F ?X ?T ?e ?_ ?a ?b; (case F => k_asm); (case X => k_asm); (case T => k_asm); (case a => rfl); (case b => rfl); (case e => k_is); k_whole)))
local macro_rules | `(tactic| walk_at "eval Name") => `(tactic| (k_here; (name_kind "local"); k_dflt (refine' nameX_L ?F ?v ?_ ?a ?b; (case F => k_asm); (case a => rfl); (case b => rfl); (case v => first | rfl | assumption); k_whole)))
local macro_rules | `(tactic| walk_at "binaryOp Add int bool") => `(tactic| (k_here; (first | with_reducible refine Mine.r_add_it ?_ | with_reducible refine Mine.r_add_i0 ?_)))
local macro_rules | `(tactic| walk_at "binaryOp Sub int bool") => `(tactic| (k_here; (first | with_reducible refine Mine.r_sub_it ?_ | with_reducible refine Mine.r_sub_i0 ?_)))
local macro_rules | `(tactic| walk_at "ite") => `(tactic| (k_here; k_closed; first | (with_reducible refine ite_pos ?c ?_; (case c => k_dflt decide)) | (with_reducible refine ite_neg ?c ?_; (case c => k_dflt decide))))
local macro_rules | `(tactic| walk_at "eval List") => `(tactic| (k_here; (with_reducible refine List_ ?_)))
local macro_rules | `(tactic| walk_at "eval Call Name") => `(tactic| (k_here; k_dflt (refine Call_ ?_)))
local macro_rules | `(tactic| walk_at "exec If") => `(tactic| (k_here; k_dflt (refine wpAny_If ?_)))
local macro_rules | `(tactic| walk_at "binaryOp Add float float") => `(tactic| (k_here; (with_reducible refine' Mine.r_add_ff ?hx ?hy ?bal ?bau ?bbl ?bbu ?_); k_dflt ((case hx => first | with_reducible exact Mine.c_half | with_reducible exact Mine.c_greg | with_reducible exact Mine.c_isl | with_reducible exact Mine.c_cop | with_reducible exact Mine.c_295 | with_reducible exact Mine.c_1524 | with_reducible rfl); (case hy => first | with_reducible exact Mine.c_half | with_reducible exact Mine.c_greg | with_reducible exact Mine.c_isl | with_reducible exact Mine.c_cop | with_reducible exact Mine.c_295 | with_reducible exact Mine.c_1524 | with_reducible rfl); (case bal => first | decide | (law_clear; omega) | omega); (case bau => first | decide | (law_clear; omega) | omega); (case bbl => first | decide | (law_clear; omega) | omega); (case bbu => first | decide | (law_clear; omega) | omega); k_whole)))
local macro_rules | `(tactic| walk_at "binaryOp Sub float float") => `(tactic| (k_here; (with_reducible refine' Mine.r_sub_ff ?hx ?hy ?bal ?bau ?bbl ?bbu ?_); k_dflt ((case hx => first | with_reducible exact Mine.c_half | with_reducible exact Mine.c_greg | with_reducible exact Mine.c_isl | with_reducible exact Mine.c_cop | with_reducible exact Mine.c_295 | with_reducible exact Mine.c_1524 | with_reducible rfl); (case hy => first | with_reducible exact Mine.c_half | with_reducible exact Mine.c_greg | with_reducible exact Mine.c_isl | with_reducible exact Mine.c_cop | with_reducible exact Mine.c_295 | with_reducible exact Mine.c_1524 | with_reducible rfl); (case bal => first | decide | (law_clear; omega) | omega); (case bau => first | decide | (law_clear; omega) | omega); (case bbl => first | decide | (law_clear; omega) | omega); (case bbu => first | decide | (law_clear; omega) | omega); k_whole)))
local macro_rules | `(tactic| walk_at "inplaceOp Add float float") => `(tactic| (k_here; (with_reducible refine' Mine.r_iadd_ff ?hx ?hy ?bal ?bau ?bbl ?bbu ?_); k_dflt ((case hx => first | with_reducible exact Mine.c_half | with_reducible exact Mine.c_greg | with_reducible exact Mine.c_isl | with_reducible exact Mine.c_cop | with_reducible exact Mine.c_295 | with_reducible exact Mine.c_1524 | with_reducible rfl); (case hy => first | with_reducible exact Mine.c_half | with_reducible exact Mine.c_greg | with_reducible exact Mine.c_isl | with_reducible exact Mine.c_cop | with_reducible exact Mine.c_295 | with_reducible exact Mine.c_1524 | with_reducible rfl); (case bal => first | decide | (law_clear; omega) | omega); (case bau => first | decide | (law_clear; omega) | omega); (case bbl => first | decide | (law_clear; omega) | omega); (case bbu => first | decide | (law_clear; omega) | omega); k_whole)))
local macro_rules | `(tactic| walk_at "binaryOp Add float int") => `(tactic| (k_here; (with_reducible refine' Mine.r_add_xi ?hnl ?hnu ?_); k_dflt ((case hnl => first | decide | (law_clear; omega) | omega); (case hnu => first | decide | (law_clear; omega) | omega); k_whole)))
local macro_rules | `(tactic| walk_at "binaryOp Add float int") => `(tactic| (k_here; (with_reducible refine' Mine.r_add_fi ?hx ?bal ?bau ?bbl ?bbu ?_); k_dflt ((case hx => first | with_reducible exact Mine.c_half | with_reducible exact Mine.c_greg | with_reducible exact Mine.c_isl | with_reducible exact Mine.c_cop | with_reducible exact Mine.c_295 | with_reducible exact Mine.c_1524 | with_reducible rfl); (case bal => first | decide | (law_clear; omega) | omega); (case bau => first | decide | (law_clear; omega) | omega); (case bbl => first | decide | (law_clear; omega) | omega); (case bbu => first | decide | (law_clear; omega) | omega); k_whole)))
local macro_rules | `(tactic| walk_at "binaryOp Sub float int") => `(tactic| (k_here; (with_reducible refine' Mine.r_sub_fi ?hx ?bal ?bau ?bbl ?bbu ?_); k_dflt ((case hx => first | with_reducible exact Mine.c_half | with_reducible exact Mine.c_greg | with_reducible exact Mine.c_isl | with_reducible exact Mine.c_cop | with_reducible exact Mine.c_295 | with_reducible exact Mine.c_1524 | with_reducible rfl); (case bal => first | decide | (law_clear; omega) | omega); (case bau => first | decide | (law_clear; omega) | omega); (case bbl => first | decide | (law_clear; omega) | omega); (case bbu => first | decide | (law_clear; omega) | omega); k_whole)))
local macro_rules | `(tactic| walk_at "inplaceOp Add float int") => `(tactic| (k_here; (with_reducible refine' Mine.r_iadd_fi ?hx ?bal ?bau ?bbl ?bbu ?_); k_dflt ((case hx => first | with_reducible exact Mine.c_half | with_reducible exact Mine.c_greg | with_reducible exact Mine.c_isl | with_reducible exact Mine.c_cop | with_reducible exact Mine.c_295 | with_reducible exact Mine.c_1524 | with_reducible rfl); (case bal => first | decide | (law_clear; omega) | omega); (case bau => first | decide | (law_clear; omega) | omega); (case bbl => first | decide | (law_clear; omega) | omega); (case bbu => first | decide | (law_clear; omega) | omega); k_whole)))
local macro_rules | `(tactic| walk_at "inplaceOp Sub float int") => `(tactic| (k_here; (with_reducible refine' Mine.r_isub_fi ?hx ?bal ?bau ?bbl ?bbu ?_); k_dflt ((case hx => first | with_reducible exact Mine.c_half | with_reducible exact Mine.c_greg | with_reducible exact Mine.c_isl | with_reducible exact Mine.c_cop | with_reducible exact Mine.c_295 | with_reducible exact Mine.c_1524 | with_reducible rfl); (case bal => first | decide | (law_clear; omega) | omega); (case bau => first | decide | (law_clear; omega) | omega); (case bbl => first | decide | (law_clear; omega) | omega); (case bbu => first | decide | (law_clear; omega) | omega); k_whole)))
local macro_rules | `(tactic| walk_at "binaryOp Sub int float") => `(tactic| (k_here; (with_reducible refine' Mine.r_sub_ic ?hnl ?hnu ?_); k_dflt ((case hnl => first | decide | (law_clear; omega) | omega); (case hnu => first | decide | (law_clear; omega) | omega); k_whole)))
local macro_rules | `(tactic| walk_at "binaryOp Add int float") => `(tactic| (k_here; (with_reducible refine' Mine.r_add_if ?hx ?bal ?bau ?bbl ?bbu ?_); k_dflt ((case hx => first | with_reducible exact Mine.c_half | with_reducible exact Mine.c_greg | with_reducible exact Mine.c_isl | with_reducible exact Mine.c_cop | with_reducible exact Mine.c_295 | with_reducible exact Mine.c_1524 | with_reducible rfl); (case bal => first | decide | (law_clear; omega) | omega); (case bau => first | decide | (law_clear; omega) | omega); (case bbl => first | decide | (law_clear; omega) | omega); (case bbu => first | decide | (law_clear; omega) | omega); k_whole)))
local macro_rules | `(tactic| walk_at "binaryOp Sub int float") => `(tactic| (k_here; (with_reducible refine' Mine.r_sub_if ?hx ?bal ?bau ?bbl ?bbu ?_); k_dflt ((case hx => first | with_reducible exact Mine.c_half | with_reducible exact Mine.c_greg | with_reducible exact Mine.c_isl | with_reducible exact Mine.c_cop | with_reducible exact Mine.c_295 | with_reducible exact Mine.c_1524 | with_reducible rfl); (case bal => first | decide | (law_clear; omega) | omega); (case bau => first | decide | (law_clear; omega) | omega); (case bbl => first | decide | (law_clear; omega) | omega); (case bbu => first | decide | (law_clear; omega) | omega); k_whole)))
local macro_rules | `(tactic| walk_at "binaryOp Mult float int") => `(tactic| (k_here; (with_reducible refine' Mine.r_mul_xi ?hnl ?hnu ?_); k_dflt ((case hnl => first | decide | (law_clear; omega) | omega); (case hnu => first | decide | (law_clear; omega) | omega); k_whole)))
local macro_rules | `(tactic| walk_at "binaryOp Mult float int") => `(tactic| (k_here; (with_reducible refine' Mine.r_mul_ci ?hx ?ha ?ha2 ?bnl ?bnu ?_); k_dflt ((case hx => first | with_reducible exact Mine.c_half | with_reducible exact Mine.c_greg | with_reducible exact Mine.c_isl | with_reducible exact Mine.c_cop | with_reducible exact Mine.c_295 | with_reducible exact Mine.c_1524 | with_reducible rfl); (case ha => decide); (case ha2 => decide); (case bnl => first | decide | (law_clear; omega) | omega); (case bnu => first | decide | (law_clear; omega) | omega); k_whole)))
local macro_rules | `(tactic| walk_at "binaryOp Mult float int") => `(tactic| (k_here; (with_reducible refine' Mine.r_mul_fi ?hx ?hn ?hn2 ?bal ?bau ?_); k_dflt ((case hx => first | with_reducible exact Mine.c_half | with_reducible exact Mine.c_greg | with_reducible exact Mine.c_isl | with_reducible exact Mine.c_cop | with_reducible exact Mine.c_295 | with_reducible exact Mine.c_1524 | with_reducible rfl); (case hn => decide); (case hn2 => decide); (case bal => first | decide | (law_clear; omega) | omega); (case bau => first | decide | (law_clear; omega) | omega); k_whole)))
local macro_rules | `(tactic| walk_at "binaryOp Mult int float") => `(tactic| (k_here; (with_reducible refine' Mine.r_mul_if ?hx ?hn ?hn2 ?bal ?bau ?_); k_dflt ((case hx => first | with_reducible exact Mine.c_half | with_reducible exact Mine.c_greg | with_reducible exact Mine.c_isl | with_reducible exact Mine.c_cop | with_reducible exact Mine.c_295 | with_reducible exact Mine.c_1524 | with_reducible rfl); (case hn => decide); (case hn2 => decide); (case bal => first | decide | (law_clear; omega) | omega); (case bau => first | decide | (law_clear; omega) | omega); k_whole)))
local macro_rules | `(tactic| walk_at "binaryOp Mod float int") => `(tactic| (k_here; (with_reducible refine' Mine.r_mod_q ?hA ?hx ?hn ?hn2 ?bal ?bau ?_); k_dflt ((case hA => exact rfl); (case hx => first | with_reducible exact Mine.c_half | with_reducible exact Mine.c_greg | with_reducible exact Mine.c_isl | with_reducible exact Mine.c_cop | with_reducible exact Mine.c_295 | with_reducible exact Mine.c_1524 | with_reducible rfl); (case hn => decide); (case hn2 => decide); (case bal => first | decide | (law_clear; omega) | omega); (case bau => first | decide | (law_clear; omega) | omega); k_whole); intro r9 hr9 hr0 hr1))
local macro_rules | `(tactic| walk_at "binaryOp Div float int") => `(tactic| (k_here; (with_reducible refine' Mine.r_div_fi ?hA ?hn ?hn2 ?_); k_dflt ((case hA => exact rfl); (case hn => decide); (case hn2 => decide); k_whole)))
local macro_rules | `(tactic| walk_at "binaryOp Div float float") => `(tactic| (k_here; (with_reducible refine' Mine.r_div_fc ?hA ?hz ?_); k_dflt ((case hA => exact rfl); (case hz => decide +kernel); k_whole)))
local macro_rules | `(tactic| walk_at "binaryOp Div float float") => `(tactic| (k_here; (with_reducible refine' Mine.r_div_ff ?hA ?hy ?hb ?hb2 ?_); k_dflt ((case hA => exact rfl); (case hy => first | with_reducible exact Mine.c_half | with_reducible exact Mine.c_greg | with_reducible exact Mine.c_isl | with_reducible exact Mine.c_cop | with_reducible exact Mine.c_295 | with_reducible exact Mine.c_1524 | with_reducible rfl); (case hb => decide); (case hb2 => decide); k_whole)))
local macro_rules | `(tactic| walk_at "binaryOp Div int float") => `(tactic| (k_here; (with_reducible refine' Mine.r_div_ic ?hA ?hnl ?hnu ?hz ?_); k_dflt ((case hA => exact rfl); (case hnl => first | decide | (law_clear; omega) | omega); (case hnu => first | decide | (law_clear; omega) | omega); (case hz => decide +kernel); k_whole)))
local macro_rules | `(tactic| walk_at "binaryOp Div int int") => `(tactic| (k_here; (with_reducible refine' Mine.r_div_ii ?hA ?hb ?hal ?hau ?_); k_dflt ((case hA => exact rfl); (case hb => decide); (case hal => first | decide | (law_clear; omega) | omega); (case hau => first | decide | (law_clear; omega) | omega); k_whole)))
local macro_rules | `(tactic| walk_at "call builtin:math.floor") => `(tactic| (k_here; (with_reducible refine' Mine.r_floor_g ?hA ?hx ?hm0 ?hm1 ?ha0 ?ha1 ?hd0 ?hd1 ?_); k_dflt ((case hA => exact rfl); (case hx => first | with_reducible exact rfl | exact rfl); (case hm0 => first | decide | (law_clear; omega) | omega); (case hm1 => first | decide | (law_clear; omega) | omega); (case ha0 => first | decide | (law_clear; omega) | omega); (case ha1 => first | decide | (law_clear; omega) | omega); (case hd0 => first | decide | (law_clear; omega) | omega); (case hd1 => first | decide | (law_clear; omega) | omega); k_whole); intro q9 hq0))
local macro_rules | `(tactic| walk_at "call builtin:math.floor") => `(tactic| (k_here; (with_reducible refine' Mine.r_floor_jm ?hA ?hx ?b0 ?b1 ?_); k_dflt ((case hA => exact rfl); (case hx => first | with_reducible exact rfl | exact rfl); (case b0 => first | decide | (law_clear; omega) | omega); (case b1 => first | decide | (law_clear; omega) | omega); k_whole); intro q9 hq0))
local macro_rules | `(tactic| walk_at "call builtin:math.floor") => `(tactic| (k_here; (with_reducible refine' Mine.r_floor_je ?hA ?hx ?b0 ?b1 ?_); k_dflt ((case hA => exact rfl); (case hx => first | with_reducible exact rfl | exact rfl); (case b0 => first | decide | (law_clear; omega) | omega); (case b1 => first | decide | (law_clear; omega) | omega); k_whole); intro q9 hq0))
local macro_rules | `(tactic| walk_at "call builtin:math.floor") => `(tactic| (k_here; (with_reducible refine' Mine.r_floor_jd ?hA ?hx ?bnl ?bnu ?_); k_dflt ((case hA => exact rfl); (case hx => first | with_reducible exact rfl | exact rfl); (case bnl => first | decide | (law_clear; omega) | omega); (case bnu => first | decide | (law_clear; omega) | omega); k_whole); intro q9 hq0))
local macro_rules | `(tactic| walk_at "call builtin:math.floor") => `(tactic| (k_here; (with_reducible refine' Mine.r_floor_jc ?hA ?hx ?bnl ?bnu ?_); k_dflt ((case hA => exact rfl); (case hx => first | with_reducible exact rfl | exact rfl); (case bnl => first | decide | (law_clear; omega) | omega); (case bnu => first | decide | (law_clear; omega) | omega); k_whole); intro q9 hq0))
local macro_rules | `(tactic| walk_at "call builtin:math.floor") => `(tactic| (k_here; (with_reducible refine' Mine.r_floor_ii ?hA ?hb ?hb2 ?bal ?bau ?k1 ?k2 ?_); k_dflt ((case hA => exact rfl); (case hb => decide); (case hb2 => decide); (case bal => first | decide | (law_clear; omega) | omega); (case bau => first | decide | (law_clear; omega) | omega); (case k1 => first | decide | (law_clear; omega) | omega); (case k2 => first | decide | (law_clear; omega) | omega); k_whole); intro q9 hq0))
local macro_rules | `(tactic| walk_at "call builtin:math.floor") => `(tactic| (k_here; (with_reducible refine' Mine.r_floor_div ?hA ?hb ?hb2 ?bal ?bau ?k1 ?k2 ?_); k_dflt ((case hA => exact rfl); (case hb => decide); (case hb2 => decide); (case bal => first | decide | (law_clear; omega) | omega); (case bau => first | decide | (law_clear; omega) | omega); (case k1 => first | decide | (law_clear; omega) | omega); (case k2 => first | decide | (law_clear; omega) | omega); k_whole); intro q9 hq0))
local macro_rules | `(tactic| walk_at "call builtin:math.floor") => `(tactic| (k_here; (with_reducible refine' Mine.r_floor_hf ?hA ?bal ?bau ?_); k_dflt ((case hA => exact rfl); (case bal => first | decide | (law_clear; omega) | omega); (case bau => first | decide | (law_clear; omega) | omega); k_whole); intro q9 hq0))
local macro_rules | `(tactic| walk_at "call builtin:math.ceil") => `(tactic| (k_here; (with_reducible refine' Mine.r_ceil_div ?hA ?hb ?hb2 ?bal ?bau ?k1 ?k2 ?_); k_dflt ((case hA => exact rfl); (case hb => decide); (case hb2 => decide); (case bal => first | decide | (law_clear; omega) | omega); (case bau => first | decide | (law_clear; omega) | omega); (case k1 => first | decide | (law_clear; omega) | omega); (case k2 => first | decide | (law_clear; omega) | omega); k_whole); intro q9 hq0 hq1))
local macro_rules | `(tactic| walk_at "call builtin:math.ceil") => `(tactic| (k_here; (with_reducible refine' Mine.r_ceil_hf ?hA ?bal ?bau ?_); k_dflt ((case hA => exact rfl); (case bal => first | decide | (law_clear; omega) | omega); (case bau => first | decide | (law_clear; omega) | omega); k_whole); intro q9 hq0 hq1))
local macro_rules | `(tactic| walk_at "call type:int") => `(tactic| (k_here; (with_reducible refine' Mine.r_trunc_hf ?hA ?bal ?bau ?he ?_); k_dflt ((case hA => exact rfl); (case bal => first | decide | (law_clear; omega) | omega); (case bau => first | decide | (law_clear; omega) | omega); (case he => first | decide | (law_clear; omega) | omega); k_whole); intro q9 hq0))
local macro_rules | `(tactic| walk_at "compareOp Lt float int") => `(tactic| (k_here; (with_reducible refine' Mine.r_lt_fi ?hx ?bal ?bau ?_); k_dflt ((case hx => first | with_reducible exact Mine.c_half | with_reducible exact Mine.c_greg | with_reducible exact Mine.c_isl | with_reducible exact Mine.c_cop | with_reducible exact Mine.c_295 | with_reducible exact Mine.c_1524 | with_reducible rfl); (case bal => first | decide | (law_clear; omega) | omega); (case bau => first | decide | (law_clear; omega) | omega); k_whole)))
local macro_rules | `(tactic| walk_at "compareOp NotEq float float") => `(tactic| (k_here; (with_reducible refine' Mine.r_ne_ff ?hx ?hy ?bal ?bau ?bbl ?bbu ?hab ?_); k_dflt ((case hx => first | with_reducible exact Mine.c_half | with_reducible exact Mine.c_greg | with_reducible exact Mine.c_isl | with_reducible exact Mine.c_cop | with_reducible exact Mine.c_295 | with_reducible exact Mine.c_1524 | with_reducible rfl); (case hy => first | with_reducible exact Mine.c_half | with_reducible exact Mine.c_greg | with_reducible exact Mine.c_isl | with_reducible exact Mine.c_cop | with_reducible exact Mine.c_295 | with_reducible exact Mine.c_1524 | with_reducible rfl); (case bal => first | decide | (law_clear; omega) | omega); (case bau => first | decide | (law_clear; omega) | omega); (case bbl => first | decide | (law_clear; omega) | omega); (case bbu => first | decide | (law_clear; omega) | omega); (case hab => omega); k_whole)))
def iLg (y : Int) : Int := (14 + 11 * y) / 30 - (3 + 11 * y) / 30
def cLg (y : Int) : Int := (y + 1) / 4 - y / 4
theorem retB {h₀ h' : Heap} {L : Addr} {m : Str → Option Value} {news : List (Addr × Obj)} {s : Shared} {Q : Value → Shared → Prop} {b : Bool} {P1 P0 : Prop} {tk' : Nat}
   (h1 : P1 → RetV h₀ L m news s Q fun _ => .bool true) (h2 : P0 → RetV h₀ L m news s Q fun _ => .bool false) (e : (b = true ∧ P1) ∨ (b = false ∧ P0)) (F : Fr h₀ L h' m) (N : News h₀ L h' news) : Q (.bool b) { s with heap := h', toks := tk' } := by
  rcases e with ⟨rfl, h⟩ | ⟨rfl, h⟩
  · exact h1 h 0 h' tk' F N
  · exact h2 h 0 h' tk' F N
theorem drop1 {h₀ h : Heap} {L : Addr} {x : Addr × Obj} {news : List (Addr × Obj)} (N : News h₀ L h (x :: news)) : News h₀ L h news := fun p hp => N p (.tail _ hp)
theorem eq_or {x : Int} (c : Int) {P1 P0 : Prop} (h1 : x = c → P1) (h0 : x ≠ c → P0) : ((x == c) = true ∧ P1) ∨ ((x == c) = false ∧ P0) := by
  by_cases h : x = c
  · exact .inl ⟨by simp only [beq_iff_eq]; exact h, h1 h⟩
  · exact .inr ⟨by simp only [beq_eq_false_iff_ne]; exact h, h0 h⟩
theorem moon_any (y : Int) : (([2, 5, 7, 10, 13, 16, 18, 21, 24, 26, 29] : List Int).any (fun x => x == (y - 1) % 30 + 1) = true ∧ (14 + 11 * y) / 30 - (3 + 11 * y) / 30 = 1) ∨ (([2, 5, 7, 10, 13, 16, 18, 21, 24, 26, 29] : List Int).any (fun x => x == (y - 1) % 30 + 1) = false ∧ (14 + 11 * y) / 30 - (3 + 11 * y) / 30 = 0) := by
  obtain ⟨p, hp⟩ : ∃ p, p = (y - 1) % 30 := ⟨_, rfl⟩
  have hy : y = 30 * ((y - 1) / 30) + p + 1 := by omega
  have e1 : (14 + 11 * y) / 30 = (25 + 11 * p) / 30 + 11 * ((y - 1) / 30) := by
    rw [show 14 + 11 * y = (25 + 11 * p) + 30 * (11 * ((y - 1) / 30)) by omega, Int.add_mul_ediv_left _ _ (by decide)]
  have e2 : (3 + 11 * y) / 30 = (14 + 11 * p) / 30 + 11 * ((y - 1) / 30) := by
    rw [show 3 + 11 * y = (14 + 11 * p) + 30 * (11 * ((y - 1) / 30)) by omega, Int.add_mul_ediv_left _ _ (by decide)]
  have e : (14 + 11 * y) / 30 - (3 + 11 * y) / 30 = (25 + 11 * p) / 30 - (14 + 11 * p) / 30 := by rw [e1, e2]; generalize (25 + 11 * p) / 30 = a; generalize (14 + 11 * p) / 30 = b; omega
  have b : 0 ≤ p ∧ p < 30 := by omega
  rw [← hp, e]
  clear hp e e1 e2 hy
  have : p = 0 ∨ p = 1 ∨ p = 2 ∨ p = 3 ∨ p = 4 ∨ p = 5 ∨ p = 6 ∨ p = 7 ∨ p = 8 ∨ p = 9 ∨ p = 10 ∨ p = 11 ∨ p = 12 ∨ p = 13 ∨ p = 14 ∨ p = 15 ∨ p = 16 ∨ p = 17 ∨ p = 18 ∨ p = 19 ∨ p = 20 ∨ p = 21 ∨ p = 22 ∨ p = 23 ∨ p = 24 ∨ p = 25 ∨ p = 26 ∨ p = 27 ∨ p = 28 ∨ p = 29 := by omega
  rcases this with rfl | rfl | rfl | rfl | rfl | rfl | rfl | rfl | rfl | rfl | rfl | rfl | rfl | rfl | rfl | rfl | rfl | rfl | rfl | rfl | rfl | rfl | rfl | rfl | rfl | rfl | rfl | rfl | rfl | rfl <;> decide
section
variable {w : World} {p : Program} {loose : List Str} {mean : ExcName → Option Value} {mg mb : Str → Option Value} {dp un : Nat} {gd : Option (List Code)} {cn : Str} {cs : Scope} {a : Addr} {ccd : Value} {cl : List (Str × Addr)} {outer : List Env} {A₀ : Around} {base h₀ : Heap} {L : Addr} {m : Str → Option Value} {news : List (Addr × Obj)} {s : Shared} {Q E : Value → Shared → Prop}
theorem moon_c  (B : Below A₀ base outer h₀) (F : Fr h₀ L s.heap m) (X : (hd.heap_39 w.params).In h₀) (N : News h₀ L s.heap news) (T : Top p loose mean mg mb h₀) (hk : cs.kind = .function)
    (hdp : dp + 1 < recursionLimit) (hun : un + 8 < cLine)
   
    (h1 : ∀ (D : Addr) (u1 u2 u3 u4 u5 u6 u7 u8 u9 u10 u11 : Tok) (h' : Heap) (tk' : Nat), Fr h₀ L h' m → News h₀ L h' ((D, W.listOf #[.int 2 u1, .int 5 u2, .int 7 u3, .int 10 u4, .int 13 u5, .int 16 u6, .int 18 u7, .int 21 u8, .int 24 u9, .int 26 u10, .int 29 u11] 0) :: news) → AllLt D news → Q (.ref D) { s with heap := h', toks := tk' }) :
    Goes w dp un gd cn cs L a ccd cl outer 212 [] Q E s := by
  unfold Goes
  revert X; k_fill; intro X
  refine wpAny_call ?_
  k_dflt (refine' code_def (binds := []) ?k1 ?k2 ?k3 ?k4 ?k5 ?kA ?kF ?kK ?k6 ?k7 ?k8 ?k9 ?kB ?_ ?c2 ?c3 ?c4 ?c5; (case kA => exact rfl); (case kF => exact rfl); (case kK => assumption); (case k1 => k_asm); (case k2 => k_asm); (case k3 => k_asm); (case k4 => k_asm); (case k5 => k_asm); (case k6 => k_is); (case k7 => k_is); (case k8 => (dsimp only [ktrTop]; omega)); (case k9 => exact BindsTo.of_eq rfl); (case c5 => decide); (case kB => exact locs rfl); (case c2 => exact rfl); (case c3 => exact rfl); (case c4 => exact rfl); k_whole; intro g' L' h' FG' F' N' B' X' T'; (try dsimp only); (try k_fold))
  k_steps
  exact h1 _ _ _ _ _ _ _ _ _ _ _ _ _ _ (by k_asm) (by k_asm) (by first | with_reducible assumption | exact allLt_of (by with_reducible assumption))
local macro_rules | `(tactic| walk_at "call ref") => `(tactic| (k_here; (with_reducible show wpAny _ _ (call (Value.ref 212) _) _ _ _); k_dflt (refine' Mine.moon_c  ?k1 ?k2 ?k3 ?k4 ?k5 ?kK ?kd ?ku  ?_; (case k1 => k_asm); (case k2 => k_asm); (case k3 => k_asm); (case k4 => k_asm); (case k5 => k_asm); (case kK => first | exact rfl | assumption); (case kd => (dsimp only [ktrTop]; omega)); (case ku => (dsimp only [ktrTop]; omega)); all_goals (intro D9 u1 u2 u3 u4 u5 u6 u7 u8 u9 u10 u11 h9 tk9 F9 N9 l9; (try simp only [AllLt, and_true] at l9); (try dsimp only); (try k_sweep); (try k_fold)))))
theorem lawlong_0 (y : Int) (t1 t2 : Tok) (B : Below A₀ base outer h₀) (F : Fr h₀ L s.heap m) (X : (hd.heap_39 w.params).In h₀) (N : News h₀ L s.heap news) (T : Top p loose mean mg mb h₀) (hk : cs.kind = .function)
    (hdp : dp + 3 < recursionLimit) (hun : un + 24 < cLine)
   
    (h1 : lpN y = 1 → RetV h₀ L m news s Q fun _ => .bool true)
    (h2 : lpN y = 0 → RetV h₀ L m news s Q fun _ => .bool false) :
    Goes w dp un gd cn cs L a ccd cl outer 219 [.int 0 t1, .int y t2] Q E s := by
  unfold Goes
  revert X; k_fill; intro X
  refine wpAny_call ?_
  k_dflt (refine' code_def (binds := [(Str.ofString "kind", .int 0 t1), (Str.ofString "year", .int y t2)]) ?k1 ?k2 ?k3 ?k4 ?k5 ?kA ?kF ?kK ?k6 ?k7 ?k8 ?k9 ?kB ?_ ?c2 ?c3 ?c4 ?c5; (case kA => exact rfl); (case kF => exact rfl); (case kK => assumption); (case k1 => k_asm); (case k2 => k_asm); (case k3 => k_asm); (case k4 => k_asm); (case k5 => k_asm); (case k6 => k_is); (case k7 => k_is); (case k8 => (dsimp only [ktrTop]; omega)); (case k9 => exact BindsTo.of_eq rfl); (case c5 => decide); (case kB => exact locs rfl); (case c2 => exact rfl); (case c3 => exact rfl); (case c4 => exact rfl); k_whole; intro g' L' h' FG' F' N' B' X' T'; (try dsimp only); (try k_fold))
  k_steps
  · exact retB (s := s) h1 h2 (eq_or 0 (fun h => lpN_1 (by omega)) (fun h => lpN_0 (by omega))) (by k_asm) (by k_asm)
  · exact retB (s := s) h1 h2 (eq_or 0 (fun h => lpN_1 (by omega)) (fun h => lpN_0 (by omega))) (by k_asm) (by k_asm)
theorem lawlong_1 (y : Int) (t1 t2 : Tok) (B : Below A₀ base outer h₀) (F : Fr h₀ L s.heap m) (X : (hd.heap_39 w.params).In h₀) (N : News h₀ L s.heap news) (T : Top p loose mean mg mb h₀) (hk : cs.kind = .function)
    (hdp : dp + 3 < recursionLimit) (hun : un + 24 < cLine)
   
    (h1 : y % 4 = 0 → RetV h₀ L m news s Q fun _ => .bool true)
    (h2 : y % 4 ≠ 0 → RetV h₀ L m news s Q fun _ => .bool false) :
    Goes w dp un gd cn cs L a ccd cl outer 219 [.int 1 t1, .int y t2] Q E s := by
  unfold Goes
  revert X; k_fill; intro X
  refine wpAny_call ?_
  k_dflt (refine' code_def (binds := [(Str.ofString "kind", .int 1 t1), (Str.ofString "year", .int y t2)]) ?k1 ?k2 ?k3 ?k4 ?k5 ?kA ?kF ?kK ?k6 ?k7 ?k8 ?k9 ?kB ?_ ?c2 ?c3 ?c4 ?c5; (case kA => exact rfl); (case kF => exact rfl); (case kK => assumption); (case k1 => k_asm); (case k2 => k_asm); (case k3 => k_asm); (case k4 => k_asm); (case k5 => k_asm); (case k6 => k_is); (case k7 => k_is); (case k8 => (dsimp only [ktrTop]; omega)); (case k9 => exact BindsTo.of_eq rfl); (case c5 => decide); (case kB => exact locs rfl); (case c2 => exact rfl); (case c3 => exact rfl); (case c4 => exact rfl); k_whole; intro g' L' h' FG' F' N' B' X' T'; (try dsimp only); (try k_fold))
  k_steps
  exact retB (s := s) h1 h2 (eq_or 0 id id) (by k_asm) (by k_asm)
theorem lawlong_2 (y : Int) (t1 t2 : Tok) (B : Below A₀ base outer h₀) (F : Fr h₀ L s.heap m) (X : (hd.heap_39 w.params).In h₀) (N : News h₀ L s.heap news) (T : Top p loose mean mg mb h₀) (hk : cs.kind = .function)
    (hdp : dp + 3 < recursionLimit) (hun : un + 24 < cLine)
   
    (h1 : iLg y = 1 → RetV h₀ L m news s Q fun _ => .bool true)
    (h2 : iLg y = 0 → RetV h₀ L m news s Q fun _ => .bool false) :
    Goes w dp un gd cn cs L a ccd cl outer 219 [.int 2 t1, .int y t2] Q E s := by
  unfold Goes
  revert X; k_fill; intro X
  refine wpAny_call ?_
  k_dflt (refine' code_def (binds := [(Str.ofString "kind", .int 2 t1), (Str.ofString "year", .int y t2)]) ?k1 ?k2 ?k3 ?k4 ?k5 ?kA ?kF ?kK ?k6 ?k7 ?k8 ?k9 ?kB ?_ ?c2 ?c3 ?c4 ?c5; (case kA => exact rfl); (case kF => exact rfl); (case kK => assumption); (case k1 => k_asm); (case k2 => k_asm); (case k3 => k_asm); (case k4 => k_asm); (case k5 => k_asm); (case k6 => k_is); (case k7 => k_is); (case k8 => (dsimp only [ktrTop]; omega)); (case k9 => exact BindsTo.of_eq rfl); (case c5 => decide); (case kB => exact locs rfl); (case c2 => exact rfl); (case c3 => exact rfl); (case c4 => exact rfl); k_whole; intro g' L' h' FG' F' N' B' X' T'; (try dsimp only); (try k_fold))
  k_steps
  exact retB (s := s) h1 h2 (moon_any y) (by k_asm) (drop1 (by k_asm))
theorem lawlong_3 (y : Int) (t1 t2 : Tok) (B : Below A₀ base outer h₀) (F : Fr h₀ L s.heap m) (X : (hd.heap_39 w.params).In h₀) (N : News h₀ L s.heap news) (T : Top p loose mean mg mb h₀) (hk : cs.kind = .function)
    (hdp : dp + 3 < recursionLimit) (hun : un + 24 < cLine)
   
    (h1 : cLg y = 1 → RetV h₀ L m news s Q fun _ => .bool true)
    (h2 : cLg y = 0 → RetV h₀ L m news s Q fun _ => .bool false) :
    Goes w dp un gd cn cs L a ccd cl outer 219 [.int 3 t1, .int y t2] Q E s := by
  unfold Goes
  revert X; k_fill; intro X
  refine wpAny_call ?_
  k_dflt (refine' code_def (binds := [(Str.ofString "kind", .int 3 t1), (Str.ofString "year", .int y t2)]) ?k1 ?k2 ?k3 ?k4 ?k5 ?kA ?kF ?kK ?k6 ?k7 ?k8 ?k9 ?kB ?_ ?c2 ?c3 ?c4 ?c5; (case kA => exact rfl); (case kF => exact rfl); (case kK => assumption); (case k1 => k_asm); (case k2 => k_asm); (case k3 => k_asm); (case k4 => k_asm); (case k5 => k_asm); (case k6 => k_is); (case k7 => k_is); (case k8 => (dsimp only [ktrTop]; omega)); (case k9 => exact BindsTo.of_eq rfl); (case c5 => decide); (case kB => exact locs rfl); (case c2 => exact rfl); (case c3 => exact rfl); (case c4 => exact rfl); k_whole; intro g' L' h' FG' F' N' B' X' T'; (try dsimp only); (try k_fold))
  k_steps
  exact retB (s := s) h1 h2 (eq_or 3 (fun h => by unfold cLg; omega) (fun h => by unfold cLg; omega)) (by k_asm) (by k_asm)
theorem lawlong_4 (y : Int) (t1 t2 : Tok) (B : Below A₀ base outer h₀) (F : Fr h₀ L s.heap m) (X : (hd.heap_39 w.params).In h₀) (N : News h₀ L s.heap news) (T : Top p loose mean mg mb h₀) (hk : cs.kind = .function)
    (hdp : dp + 3 < recursionLimit) (hun : un + 24 < cLine)
   
    (h1 : lpN (y + 78) = 1 → RetV h₀ L m news s Q fun _ => .bool true)
    (h2 : lpN (y + 78) = 0 → RetV h₀ L m news s Q fun _ => .bool false) :
    Goes w dp un gd cn cs L a ccd cl outer 219 [.int 4 t1, .int y t2] Q E s := by
  unfold Goes
  revert X; k_fill; intro X
  refine wpAny_call ?_
  k_dflt (refine' code_def (binds := [(Str.ofString "kind", .int 4 t1), (Str.ofString "year", .int y t2)]) ?k1 ?k2 ?k3 ?k4 ?k5 ?kA ?kF ?kK ?k6 ?k7 ?k8 ?k9 ?kB ?_ ?c2 ?c3 ?c4 ?c5; (case kA => exact rfl); (case kF => exact rfl); (case kK => assumption); (case k1 => k_asm); (case k2 => k_asm); (case k3 => k_asm); (case k4 => k_asm); (case k5 => k_asm); (case k6 => k_is); (case k7 => k_is); (case k8 => (dsimp only [ktrTop]; omega)); (case k9 => exact BindsTo.of_eq rfl); (case c5 => decide); (case kB => exact locs rfl); (case c2 => exact rfl); (case c3 => exact rfl); (case c4 => exact rfl); k_whole; intro g' L' h' FG' F' N' B' X' T'; (try dsimp only); (try k_fold))
  k_steps
  · exact retB (s := s) h1 h2 (eq_or 0 (fun h => lpN_1 (by omega)) (fun h => lpN_0 (by omega))) (by k_asm) (by k_asm)
  · exact retB (s := s) h1 h2 (eq_or 0 (fun h => lpN_1 (by omega)) (fun h => lpN_0 (by omega))) (by k_asm) (by k_asm)
local macro_rules | `(tactic| walk_at "call ref") => `(tactic| (k_here; (with_reducible show wpAny _ _ (call (Value.ref 219) _) _ _ _); k_dflt (refine' Mine.lawlong_0 _ _ _ ?k1 ?k2 ?k3 ?k4 ?k5 ?kK ?kd ?ku  ?_ ?_; (case k1 => k_asm); (case k2 => k_asm); (case k3 => k_asm); (case k4 => k_asm); (case k5 => k_asm); (case kK => first | exact rfl | assumption); (case kd => (dsimp only [ktrTop]; omega)); (case ku => (dsimp only [ktrTop]; omega)); all_goals (intro hc t9 h9 tk9 F9 N9; (try simp only [AllLt, and_true] at l9); (try dsimp only); (try k_sweep); (try k_fold)))))
local macro_rules | `(tactic| walk_at "call ref") => `(tactic| (k_here; (with_reducible show wpAny _ _ (call (Value.ref 219) _) _ _ _); k_dflt (refine' Mine.lawlong_1 _ _ _ ?k1 ?k2 ?k3 ?k4 ?k5 ?kK ?kd ?ku  ?_ ?_; (case k1 => k_asm); (case k2 => k_asm); (case k3 => k_asm); (case k4 => k_asm); (case k5 => k_asm); (case kK => first | exact rfl | assumption); (case kd => (dsimp only [ktrTop]; omega)); (case ku => (dsimp only [ktrTop]; omega)); all_goals (intro hc t9 h9 tk9 F9 N9; (try simp only [AllLt, and_true] at l9); (try dsimp only); (try k_sweep); (try k_fold)))))
local macro_rules | `(tactic| walk_at "call ref") => `(tactic| (k_here; (with_reducible show wpAny _ _ (call (Value.ref 219) _) _ _ _); k_dflt (refine' Mine.lawlong_2 _ _ _ ?k1 ?k2 ?k3 ?k4 ?k5 ?kK ?kd ?ku  ?_ ?_; (case k1 => k_asm); (case k2 => k_asm); (case k3 => k_asm); (case k4 => k_asm); (case k5 => k_asm); (case kK => first | exact rfl | assumption); (case kd => (dsimp only [ktrTop]; omega)); (case ku => (dsimp only [ktrTop]; omega)); all_goals (intro hc t9 h9 tk9 F9 N9; (try simp only [AllLt, and_true] at l9); (try dsimp only); (try k_sweep); (try k_fold)))))
local macro_rules | `(tactic| walk_at "call ref") => `(tactic| (k_here; (with_reducible show wpAny _ _ (call (Value.ref 219) _) _ _ _); k_dflt (refine' Mine.lawlong_3 _ _ _ ?k1 ?k2 ?k3 ?k4 ?k5 ?kK ?kd ?ku  ?_ ?_; (case k1 => k_asm); (case k2 => k_asm); (case k3 => k_asm); (case k4 => k_asm); (case k5 => k_asm); (case kK => first | exact rfl | assumption); (case kd => (dsimp only [ktrTop]; omega)); (case ku => (dsimp only [ktrTop]; omega)); all_goals (intro hc t9 h9 tk9 F9 N9; (try simp only [AllLt, and_true] at l9); (try dsimp only); (try k_sweep); (try k_fold)))))
local macro_rules | `(tactic| walk_at "call ref") => `(tactic| (k_here; (with_reducible show wpAny _ _ (call (Value.ref 219) _) _ _ _); k_dflt (refine' Mine.lawlong_4 _ _ _ ?k1 ?k2 ?k3 ?k4 ?k5 ?kK ?kd ?ku  ?_ ?_; (case k1 => k_asm); (case k2 => k_asm); (case k3 => k_asm); (case k4 => k_asm); (case k5 => k_asm); (case kK => first | exact rfl | assumption); (case kd => (dsimp only [ktrTop]; omega)); (case ku => (dsimp only [ktrTop]; omega)); all_goals (intro hc t9 h9 tk9 F9 N9; (try simp only [AllLt, and_true] at l9); (try dsimp only); (try k_sweep); (try k_fold)))))
theorem lawmonths_0 (y : Int) (t1 t2 : Tok) (B : Below A₀ base outer h₀) (F : Fr h₀ L s.heap m) (X : (hd.heap_39 w.params).In h₀) (N : News h₀ L s.heap news) (T : Top p loose mean mg mb h₀) (hk : cs.kind = .function)
    (hdp : dp + 5 < recursionLimit) (hun : un + 40 < cLine)
   
    (h1 : ∀ (D : Addr) (u1 u2 u3 u4 u5 u6 u7 u8 u9 u10 u11 u12 : Tok) (h' : Heap) (tk' : Nat), Fr h₀ L h' m → News h₀ L h' ((D, W.listOf #[.int 31 u1, .int (28 + lpN y) u2, .int 31 u3, .int 30 u4, .int 31 u5, .int 30 u6, .int 31 u7, .int 31 u8, .int 30 u9, .int 31 u10, .int 30 u11, .int 31 u12] 0) :: news) → AllLt D news → Q (.ref D) { s with heap := h', toks := tk' }) :
    Goes w dp un gd cn cs L a ccd cl outer 226 [.int 0 t1, .int y t2] Q E s := by
  unfold Goes
  revert X; k_fill; intro X
  refine wpAny_call ?_
  k_dflt (refine' code_def (binds := [(Str.ofString "kind", .int 0 t1), (Str.ofString "year", .int y t2)]) ?k1 ?k2 ?k3 ?k4 ?k5 ?kA ?kF ?kK ?k6 ?k7 ?k8 ?k9 ?kB ?_ ?c2 ?c3 ?c4 ?c5; (case kA => exact rfl); (case kF => exact rfl); (case kK => assumption); (case k1 => k_asm); (case k2 => k_asm); (case k3 => k_asm); (case k4 => k_asm); (case k5 => k_asm); (case k6 => k_is); (case k7 => k_is); (case k8 => (dsimp only [ktrTop]; omega)); (case k9 => exact BindsTo.of_eq rfl); (case c5 => decide); (case kB => exact locs rfl); (case c2 => exact rfl); (case c3 => exact rfl); (case c4 => exact rfl); k_whole; intro g' L' h' FG' F' N' B' X' T'; (try dsimp only); (try k_fold))
  k_steps
  · have e : lpN y = 1 := by with_reducible assumption
    rw [e] at h1
    refine' h1 _ _ _ _ _ _ _ _ _ _ _ _ _ _ _ ?F ?N ?l
    (case F => with_reducible assumption)
    (case N => with_reducible assumption)
    (case l => exact allLt_of (by with_reducible assumption))
  · have e : lpN y = 0 := by with_reducible assumption
    rw [e] at h1
    refine' h1 _ _ _ _ _ _ _ _ _ _ _ _ _ _ _ ?F ?N ?l
    (case F => with_reducible assumption)
    (case N => with_reducible assumption)
    (case l => exact allLt_of (by with_reducible assumption))
theorem lawmonths_1 (y : Int) (t1 t2 : Tok) (B : Below A₀ base outer h₀) (F : Fr h₀ L s.heap m) (X : (hd.heap_39 w.params).In h₀) (N : News h₀ L s.heap news) (T : Top p loose mean mg mb h₀) (hk : cs.kind = .function)
    (hdp : dp + 5 < recursionLimit) (hun : un + 40 < cLine)
   
    (h1 : ∀ (D : Addr) (u1 u2 u3 u4 u5 u6 u7 u8 u9 u10 u11 u12 : Tok) (h' : Heap) (tk' : Nat), Fr h₀ L h' m → News h₀ L h' ((D, W.listOf #[.int 31 u1, .int (28 + (1 - (y % 4 + 3) / 4)) u2, .int 31 u3, .int 30 u4, .int 31 u5, .int 30 u6, .int 31 u7, .int 31 u8, .int 30 u9, .int 31 u10, .int 30 u11, .int 31 u12] 0) :: news) → AllLt D news → Q (.ref D) { s with heap := h', toks := tk' }) :
    Goes w dp un gd cn cs L a ccd cl outer 226 [.int 1 t1, .int y t2] Q E s := by
  unfold Goes
  revert X; k_fill; intro X
  refine wpAny_call ?_
  k_dflt (refine' code_def (binds := [(Str.ofString "kind", .int 1 t1), (Str.ofString "year", .int y t2)]) ?k1 ?k2 ?k3 ?k4 ?k5 ?kA ?kF ?kK ?k6 ?k7 ?k8 ?k9 ?kB ?_ ?c2 ?c3 ?c4 ?c5; (case kA => exact rfl); (case kF => exact rfl); (case kK => assumption); (case k1 => k_asm); (case k2 => k_asm); (case k3 => k_asm); (case k4 => k_asm); (case k5 => k_asm); (case k6 => k_is); (case k7 => k_is); (case k8 => (dsimp only [ktrTop]; omega)); (case k9 => exact BindsTo.of_eq rfl); (case c5 => decide); (case kB => exact locs rfl); (case c2 => exact rfl); (case c3 => exact rfl); (case c4 => exact rfl); k_whole; intro g' L' h' FG' F' N' B' X' T'; (try dsimp only); (try k_fold))
  k_steps
  · have e : (1 - (y % 4 + 3) / 4 : Int) = 1 := by law_clear; omega
    rw [e] at h1
    refine' h1 _ _ _ _ _ _ _ _ _ _ _ _ _ _ _ ?F ?N ?l
    (case F => with_reducible assumption)
    (case N => with_reducible assumption)
    (case l => exact allLt_of (by with_reducible assumption))
  · have e : (1 - (y % 4 + 3) / 4 : Int) = 0 := by law_clear; omega
    rw [e] at h1
    refine' h1 _ _ _ _ _ _ _ _ _ _ _ _ _ _ _ ?F ?N ?l
    (case F => with_reducible assumption)
    (case N => with_reducible assumption)
    (case l => exact allLt_of (by with_reducible assumption))
theorem lawmonths_2 (y : Int) (t1 t2 : Tok) (B : Below A₀ base outer h₀) (F : Fr h₀ L s.heap m) (X : (hd.heap_39 w.params).In h₀) (N : News h₀ L s.heap news) (T : Top p loose mean mg mb h₀) (hk : cs.kind = .function)
    (hdp : dp + 5 < recursionLimit) (hun : un + 40 < cLine)
   
    (h1 : ∀ (D : Addr) (u1 u2 u3 u4 u5 u6 u7 u8 u9 u10 u11 u12 : Tok) (h' : Heap) (tk' : Nat), Fr h₀ L h' m → News h₀ L h' ((D, W.listOf #[.int 30 u1, .int 29 u2, .int 30 u3, .int 29 u4, .int 30 u5, .int 29 u6, .int 30 u7, .int 29 u8, .int 30 u9, .int 29 u10, .int 30 u11, .int (29 + iLg y) u12] 0) :: news) → AllLt D news → Q (.ref D) { s with heap := h', toks := tk' }) :
    Goes w dp un gd cn cs L a ccd cl outer 226 [.int 2 t1, .int y t2] Q E s := by
  unfold Goes
  revert X; k_fill; intro X
  refine wpAny_call ?_
  k_dflt (refine' code_def (binds := [(Str.ofString "kind", .int 2 t1), (Str.ofString "year", .int y t2)]) ?k1 ?k2 ?k3 ?k4 ?k5 ?kA ?kF ?kK ?k6 ?k7 ?k8 ?k9 ?kB ?_ ?c2 ?c3 ?c4 ?c5; (case kA => exact rfl); (case kF => exact rfl); (case kK => assumption); (case k1 => k_asm); (case k2 => k_asm); (case k3 => k_asm); (case k4 => k_asm); (case k5 => k_asm); (case k6 => k_is); (case k7 => k_is); (case k8 => (dsimp only [ktrTop]; omega)); (case k9 => exact BindsTo.of_eq rfl); (case c5 => decide); (case kB => exact locs rfl); (case c2 => exact rfl); (case c3 => exact rfl); (case c4 => exact rfl); k_whole; intro g' L' h' FG' F' N' B' X' T'; (try dsimp only); (try k_fold))
  k_steps
  · have e : iLg y = 1 := by with_reducible assumption
    rw [e] at h1
    refine' h1 _ _ _ _ _ _ _ _ _ _ _ _ _ _ _ ?F ?N ?l
    (case F => with_reducible assumption)
    (case N => with_reducible assumption)
    (case l => exact allLt_of (by with_reducible assumption))
  · have e : iLg y = 0 := by with_reducible assumption
    rw [e] at h1
    refine' h1 _ _ _ _ _ _ _ _ _ _ _ _ _ _ _ ?F ?N ?l
    (case F => with_reducible assumption)
    (case N => with_reducible assumption)
    (case l => exact allLt_of (by with_reducible assumption))
theorem lawmonths_3 (y : Int) (t1 t2 : Tok) (B : Below A₀ base outer h₀) (F : Fr h₀ L s.heap m) (X : (hd.heap_39 w.params).In h₀) (N : News h₀ L s.heap news) (T : Top p loose mean mg mb h₀) (hk : cs.kind = .function)
    (hdp : dp + 5 < recursionLimit) (hun : un + 40 < cLine)
   
    (h1 : ∀ (D : Addr) (u1 u2 u3 u4 u5 u6 u7 u8 u9 u10 u11 u12 u13 : Tok) (h' : Heap) (tk' : Nat), Fr h₀ L h' m → News h₀ L h' ((D, W.listOf #[.int 30 u1, .int 30 u2, .int 30 u3, .int 30 u4, .int 30 u5, .int 30 u6, .int 30 u7, .int 30 u8, .int 30 u9, .int 30 u10, .int 30 u11, .int 30 u12, .int (5 + cLg y) u13] 0) :: news) → AllLt D news → Q (.ref D) { s with heap := h', toks := tk' }) :
    Goes w dp un gd cn cs L a ccd cl outer 226 [.int 3 t1, .int y t2] Q E s := by
  unfold Goes
  revert X; k_fill; intro X
  refine wpAny_call ?_
  k_dflt (refine' code_def (binds := [(Str.ofString "kind", .int 3 t1), (Str.ofString "year", .int y t2)]) ?k1 ?k2 ?k3 ?k4 ?k5 ?kA ?kF ?kK ?k6 ?k7 ?k8 ?k9 ?kB ?_ ?c2 ?c3 ?c4 ?c5; (case kA => exact rfl); (case kF => exact rfl); (case kK => assumption); (case k1 => k_asm); (case k2 => k_asm); (case k3 => k_asm); (case k4 => k_asm); (case k5 => k_asm); (case k6 => k_is); (case k7 => k_is); (case k8 => (dsimp only [ktrTop]; omega)); (case k9 => exact BindsTo.of_eq rfl); (case c5 => decide); (case kB => exact locs rfl); (case c2 => exact rfl); (case c3 => exact rfl); (case c4 => exact rfl); k_whole; intro g' L' h' FG' F' N' B' X' T'; (try dsimp only); (try k_fold))
  k_steps
  · have e : cLg y = 1 := by with_reducible assumption
    rw [e] at h1
    refine' h1 _ _ _ _ _ _ _ _ _ _ _ _ _ _ _ _ ?F ?N ?l
    (case F => with_reducible assumption)
    (case N => with_reducible assumption)
    (case l => exact allLt_of (by with_reducible assumption))
  · have e : cLg y = 0 := by with_reducible assumption
    rw [e] at h1
    refine' h1 _ _ _ _ _ _ _ _ _ _ _ _ _ _ _ _ ?F ?N ?l
    (case F => with_reducible assumption)
    (case N => with_reducible assumption)
    (case l => exact allLt_of (by with_reducible assumption))
theorem lawmonths_4 (y : Int) (t1 t2 : Tok) (B : Below A₀ base outer h₀) (F : Fr h₀ L s.heap m) (X : (hd.heap_39 w.params).In h₀) (N : News h₀ L s.heap news) (T : Top p loose mean mg mb h₀) (hk : cs.kind = .function)
    (hdp : dp + 5 < recursionLimit) (hun : un + 40 < cLine)
   
    (h1 : ∀ (D : Addr) (u1 u2 u3 u4 u5 u6 u7 u8 u9 u10 u11 u12 : Tok) (h' : Heap) (tk' : Nat), Fr h₀ L h' m → News h₀ L h' ((D, W.listOf #[.int (30 + lpN (y + 78)) u1, .int 31 u2, .int 31 u3, .int 31 u4, .int 31 u5, .int 31 u6, .int 30 u7, .int 30 u8, .int 30 u9, .int 30 u10, .int 30 u11, .int 30 u12] 0) :: news) → AllLt D news → Q (.ref D) { s with heap := h', toks := tk' }) :
    Goes w dp un gd cn cs L a ccd cl outer 226 [.int 4 t1, .int y t2] Q E s := by
  unfold Goes
  revert X; k_fill; intro X
  refine wpAny_call ?_
  k_dflt (refine' code_def (binds := [(Str.ofString "kind", .int 4 t1), (Str.ofString "year", .int y t2)]) ?k1 ?k2 ?k3 ?k4 ?k5 ?kA ?kF ?kK ?k6 ?k7 ?k8 ?k9 ?kB ?_ ?c2 ?c3 ?c4 ?c5; (case kA => exact rfl); (case kF => exact rfl); (case kK => assumption); (case k1 => k_asm); (case k2 => k_asm); (case k3 => k_asm); (case k4 => k_asm); (case k5 => k_asm); (case k6 => k_is); (case k7 => k_is); (case k8 => (dsimp only [ktrTop]; omega)); (case k9 => exact BindsTo.of_eq rfl); (case c5 => decide); (case kB => exact locs rfl); (case c2 => exact rfl); (case c3 => exact rfl); (case c4 => exact rfl); k_whole; intro g' L' h' FG' F' N' B' X' T'; (try dsimp only); (try k_fold))
  k_steps
  · have e : lpN (y + 78) = 1 := by with_reducible assumption
    rw [e] at h1
    refine' h1 _ _ _ _ _ _ _ _ _ _ _ _ _ _ _ ?F ?N ?l
    (case F => with_reducible assumption)
    (case N => with_reducible assumption)
    (case l => exact allLt_of (by with_reducible assumption))
  · have e : lpN (y + 78) = 0 := by with_reducible assumption
    rw [e] at h1
    refine' h1 _ _ _ _ _ _ _ _ _ _ _ _ _ _ _ ?F ?N ?l
    (case F => with_reducible assumption)
    (case N => with_reducible assumption)
    (case l => exact allLt_of (by with_reducible assumption))
end
end Mine
-- CC
namespace Mine
set_option maxHeartbeats 2000000
open PySem PySem.W PyProof.Rows PySem.Calls PySem.Spec
section
open PyProof.Rows.LCg PyProof.Rows.LCt
variable {prog : Program} {w : World} {A : Around} {E : Value → Shared → Prop} {s : Shared} {h₀ : Heap} {L : Addr} {m : Str → Option Value} {env : Env}
/-- the test of a comprehension answers as pred says, for every int that the turn may hold -/
def TurnOk (prog : Program) (w : World) (A : Around) (h₀ : Heap) (L : Addr) (m : Str → Option Value) (env : Env) (ct : PySem.Expr) (nm : Str) (scope : Scope) (cl : List (Str × Addr)) (s : Shared) (news : List (Addr × Obj)) (pred : Int → Bool) : Prop :=
  ∀ (x : Int) (t : Tok) (I : Addr) (oI : Obj) (C : Addr) (oC : Obj) (D : Addr) (ys : List Value) (m₂ : Str → Option Value) (h : Heap) (tk : Nat) (E' : Value → Shared → Prop),
    NsObj oC m₂ → m₂ nm = some (.int x t) → Fr h₀ L h m → News h₀ L h ((I, oI) :: (C, oC) :: (D, lst ys) :: news) →
    wpAny (model prog w) A (isTrue ct (compEnvC scope cl C env) (eval ct (compEnvC scope cl C env))) (fun ok s' => ok = pred x ∧ ∃ tk', s' = { s with heap := h, toks := tk' }) E' { s with heap := h, toks := tk }
theorem sub_all {α : Type} {a b c : α} {l : List α} : ∀ p ∈ a :: b :: c :: l, p ∈ a :: b :: c :: l := fun _ h => h
theorem rest_filter {ct : PySem.Expr} {nm : Str} {pos : Pos} {scope : Scope} {cl : List (Str × Addr)} {S : List (Addr × Obj) → Prop} {P : Nat → Value → Prop} {Fin : List Value → List (Addr × Obj) → Prop} {news : List (Addr × Obj)} {pred : Int → Bool} (f : Nat → Int)
    (hP : ∀ i v, P i v → ∃ t, v = .int (f i) t) (hS : S news) (hk : scope.kind = .function) (hl : scope.names.lookup nm = some .local) (hd : (nm == ("__debug__" : Str)) = false)
    (H : TurnOk prog w A h₀ L m env ct nm scope cl s news pred) : ∀ (k i : Nat) (ys : List Value), (∀ zs, IntsAre zs (((List.range' i k).map f).filter pred) → Fin (ys ++ zs) news) →
    CompRestT prog w A h₀ L m env ct (.Name nm pos) nm scope cl s S P Fin k i ys news := by
  intro k
  induction k with
  | zero =>
    intro i ys hF
    have := hF [] .nil
    rw [List.append_nil] at this
    exact this
  | succ k ih =>
    intro i ys hF v I oI C oC D m₂ h tk E' hPv hC hx F N off ne
    obtain ⟨t, rfl⟩ := hP i v hPv
    refine wpAny_mono (H (f i) t I oI C oC D ys m₂ h tk E' hC hx F N) (fun ok s' hq => ?_) (fun _ _ e => e)
    obtain ⟨rfl, tk', rfl⟩ := hq
    cases hp : pred (f i) with
    | false =>
      simp only [Bool.false_eq_true, if_false]
      refine CompEnd.intro (s₁ := { s with heap := h, toks := tk }) F N news (fun _ hm => hm) off hS (ih (i + 1) ys fun zs hz => hF zs ?_)
      rw [List.range'_succ, List.map_cons, List.filter_cons, hp]
      exact hz
    | true =>
      simp only [if_true]
      refine LCgL.ld_own (s := { s with heap := h, toks := tk' }) N (.tail _ (.head _)) hC hx ?_ (by show (relabel scope env).kind = _; exact hk) (lookup_relabel_local hl) hd
      refine CompEnd.intro (s₁ := { s with heap := h, toks := tk }) F N news (fun _ hm => hm) off hS (ih (i + 1) (ys ++ [.int (f i) t]) fun zs hz => ?_)
      rw [List.append_assoc]
      refine hF (.int (f i) t :: zs) ?_
      rw [List.range'_succ, List.map_cons, List.filter_cons, hp]
      exact .cons _ _ hz
/-- a comprehension with one test over a range of any step -/
def SrcStep (prog : Program) (w : World) (A : Around) (h₀ : Heap) (L : Addr) (m : Str → Option Value) (env : Env) (ct elt : PySem.Expr) (x : Str) (scope : Scope) (cl : List (Str × Addr)) (Q : Value → Shared → Prop) (xv : Value) (s₁ : Shared) : Prop :=
  ∃ r a b c t u v n news, xv = .ref r ∧ A.handled = none ∧ Fr h₀ L s₁.heap m ∧ News h₀ L s₁.heap news ∧ IsRange s₁.heap r a b c t u v ∧ Builtin.Range.small a b c = true ∧ Builtin.Range.rangeSize a b c = ((n : Nat) : Int) ∧ n ≤ sizeLine ∧
    ∀ g, CompRestT prog w A h₀ L m env ct elt x scope cl { s₁ with heap := g } (fun _ => True) (fun i v => ∃ t, v = .int (a + (i : Nat) * c) t) (FinE h₀ L m { s₁ with heap := g } Q) n 0 [] news
theorem comp_step {ct elt iter : PySem.Expr} {x : Str} {px : Pos} {scope : Scope} {cl : List (Str × Addr)} {pos : Pos} {Q : Value → Shared → Prop} (F₀ : Fr h₀ L s.heap m)
    (hclos : closureFor scope env = pure cl) (hcell : ∀ y ∈ scope.names, y.2 ≠ .cell) (hkind : scope.kind = .function)
    (hnames : ∀ y ∈ scope.names, y.2 = .local → scope.names.lookup y.1 = some .local) (hx : scope.names.lookup x = some .local)
    (h : wpAny (model prog w) A (eval iter env) (SrcStep prog w A h₀ L m env ct elt x scope cl Q) E s)
    (hs : ∀ x, foldedSetIterable iter env x = pure x) :
    wpAny (model prog w) A (eval (.ListComp elt [⟨.Name x px, iter, [ct], 0⟩] scope pos) env) Q E s := by
  rw [eval_ListComp]
  refine wpAny_comprehension_free (use := none) rfl hs hclos hkind hnames (wpAny_mono h (fun xv s₁ h₁ => ?_) fun _ _ e => e)
  obtain ⟨r, a, b, c, t, u, v, n, news, rfl, hh, F, N, hr, hsm, hn, hsz, R⟩ := h₁
  refine wpAny_pyIter_range hr hsm ?_
  have up : ∀ b' o, s₁.heap.get? b' = some o → (s₁.heap.push { cls := .type "range_iterator", data := .fields #[rawInt a, rawInt (Builtin.Range.rangeSize a b c), rawInt c] }).get? b' = some o := fun b' o e => Heap.get?_push_of_some _ e
  have st : ∀ i (h h' : Heap) (o : Obj) (nw : List (Addr × Obj)), IsRangeIter h s₁.heap.objs.size (a + (i : Nat) * c) ((n : Int) - (i : Nat)) c → h.get? s₁.heap.objs.size = some o → h'.get? s₁.heap.objs.size = some o → (∀ b o, h₀.get? b = some o → h'.get? b = some o) → News h₀ L h' nw → True → IsRangeIter h' s₁.heap.objs.size (a + (i : Nat) * c) ((n : Int) - (i : Nat)) c := by
    intro i h h' o nw s1 e e' _ _ _
    have s2 : h.get? s₁.heap.objs.size = some _ := s1
    show h'.get? s₁.heap.objs.size = some _
    rw [e', ← e]
    exact s2
  refine block_T (S := fun _ => True) (Walks.range hh s₁.heap.objs.size a c n) hsz (fun i h q => ⟨_, q⟩) st hcell hkind hx ?_ (fun b hb => ?_)
    (F.keeps up) (N.grown up) (Nat.ne_of_lt F.ns.lt) (next_is_new F) (fun p hp => Nat.ne_of_lt (Heap.lt_size (N p hp).1)) trivial (R _) ?_
  · show Heap.get? _ _ = some _
    rw [Heap.get?_push_size _ rfl, hn]
    simp
  · rw [List.mem_singleton.mp hb]
    show s₁.heap.objs.size < (s₁.heap.push _).objs.size
    rw [Heap.size_push]; exact Nat.lt_succ_self _
  · intro D C g tk m' ys news' F' N' o1 hn' hC₀ hD₀ hCL hDL hCD offC fin
    refine ⟨m', hn', fun h'' hs'' => fin D h'' tk (F'.change hs'' hCL hC₀) (fun p hp => ?_) o1⟩
    refine ⟨hs''.extBut _ _ ?_ (N' p hp).1, (N' p hp).2⟩
    rcases List.mem_cons.mp hp with rfl | hp
    · exact Ne.symm hCD
    · exact offC p hp
end
theorem ints_get {vs : List Value} {ns : List Int} (h : IntsAre vs ns) : ∀ {i : Nat} {v : Value}, vs[i]? = some v → ∃ t, v = .int (ns.getD i 0) t := by
  induction h with
  | nil => intro i v e; simp at e
  | cons n t _ ih =>
    intro i v e
    cases i with
    | zero => simp at e; exact ⟨t, e.symm⟩
    | succ i =>
      have e' := ih (i := i) (v := v) (by simpa using e)
      simpa using e'
theorem map_getD (ns : List Int) : (List.range' 0 ns.length).map (fun i => ns.getD i 0) = ns := by
  rw [List.range'_eq_map_range, List.map_map]
  apply List.ext_getElem?
  intro i
  by_cases h : i < ns.length
  · simp [h]
  · simp [h]
section
open PyProof.Rows.LCg PyProof.Rows.LCt
variable {prog : Program} {w : World} {A : Around} {E : Value → Shared → Prop} {s : Shared} {h₀ : Heap} {L : Addr} {m : Str → Option Value} {env : Env}
theorem src_list {ct : PySem.Expr} {nm : Str} {pos : Pos} {scope : Scope} {cl : List (Str × Addr)} {ax : Addr} {its : Array Value} {k : Nat} {ns : List Int} {news : List (Addr × Obj)} {pred : Int → Bool} {Q : Value → Shared → Prop}
    (hh : A.handled = none) (F : Fr h₀ L s.heap m) (N : News h₀ L s.heap news) (hm : (ax, ({ cls := .type "list", data := .seq its k } : Obj)) ∈ news) (hi : IntsAre its.toList ns) (hsz : ns.length ≤ sizeLine)
    (hk : scope.kind = .function) (hl : scope.names.lookup nm = some .local) (hd : (nm == ("__debug__" : Str)) = false)
    (H : ∀ g, TurnOk prog w A h₀ L m env ct nm scope cl { s with heap := g } news pred)
    (hF : ∀ D h tk zs, IntsAre zs (ns.filter pred) → Fr h₀ L h m → News h₀ L h ((D, lst zs) :: news) → Off1 D news → Q (.ref D) { s with heap := h, toks := tk }) :
    CompSrcT prog w A h₀ L m env ct (.Name nm pos) nm scope cl (fun s₂ => FinE h₀ L m s₂ Q) (.ref ax) s := by
  have hlen : its.size = ns.length := by rw [← Array.length_toList]; exact hi.length
  refine CompSrcT.ledger hh F N hm (by rw [hlen]; exact hsz) fun g => ?_
  refine rest_filter (fun i => ns.getD i 0) (fun i v e => ints_get hi (by simpa using e)) (.inr ⟨_, hm, rfl, _, rfl⟩) hk hl hd (H g) _ 0 [] fun zs hz => ?_
  rw [hlen, map_getD] at hz
  exact fun D h tk F' N' o1 => hF D h tk zs hz F' N' o1
theorem src_step {ct : PySem.Expr} {nm : Str} {pos : Pos} {scope : Scope} {cl : List (Str × Addr)} {r : Addr} {a b c : Int} {t u v : Tok} {n : Nat} {news : List (Addr × Obj)} {pred : Int → Bool} {Q : Value → Shared → Prop}
    (hh : A.handled = none) (F : Fr h₀ L s.heap m) (N : News h₀ L s.heap news) (hr : IsRange s.heap r a b c t u v) (hsm : Builtin.Range.small a b c = true) (hn : Builtin.Range.rangeSize a b c = ((n : Nat) : Int)) (hsz : n ≤ sizeLine)
    (hk : scope.kind = .function) (hl : scope.names.lookup nm = some .local) (hd : (nm == ("__debug__" : Str)) = false)
    (H : ∀ g, TurnOk prog w A h₀ L m env ct nm scope cl { s with heap := g } news pred)
    (hF : ∀ D h tk zs, IntsAre zs (((List.range' 0 n).map fun i => a + (i : Nat) * c).filter pred) → Fr h₀ L h m → News h₀ L h ((D, lst zs) :: news) → Off1 D news → Q (.ref D) { s with heap := h, toks := tk }) :
    SrcStep prog w A h₀ L m env ct (.Name nm pos) nm scope cl Q (.ref r) s := by
  refine ⟨r, a, b, c, t, u, v, n, news, rfl, hh, F, N, hr, hsm, hn, hsz, fun g => ?_⟩
  refine rest_filter (fun i => a + (i : Nat) * c) (fun i v e => e) trivial hk hl hd (H g) _ 0 [] fun zs hz => ?_
  exact fun D h tk F' N' o1 => hF D h tk zs hz F' N' o1
theorem len_known {l : Addr} {vs : List Value} {k : Int} {Q : Value → Shared → Prop} (hl : s.heap.IsList l vs.toArray) (hn : (vs.length : Int) = k) (hk : k < 1000000)
    (h : Q (.int k (s.toks + 1)) { s with toks := s.toks + 1 + 1 }) : wpAny (model prog w) A (call (.builtin "len") [.ref l]) Q E s := by
  refine Calls.call_len_list hl (by simp only [List.size_toArray]; omega) ?_
  rw [List.size_toArray, hn]
  exact h
end
/-- how many long moon years stand among the first p + 1 of a round -/
theorem moon_len {p : Int} (h0 : 0 ≤ p) (h1 : p < 30) {zs : List Value} (hz : IntsAre zs (([2, 5, 7, 10, 13, 16, 18, 21, 24, 26, 29] : List Int).filter fun x => decide (x ≤ p))) : (zs.length : Int) = (14 + 11 * p) / 30 := by
  rw [hz.length]
  clear hz
  have : p = 0 ∨ p = 1 ∨ p = 2 ∨ p = 3 ∨ p = 4 ∨ p = 5 ∨ p = 6 ∨ p = 7 ∨ p = 8 ∨ p = 9 ∨ p = 10 ∨ p = 11 ∨ p = 12 ∨ p = 13 ∨ p = 14 ∨ p = 15 ∨ p = 16 ∨ p = 17 ∨ p = 18 ∨ p = 19 ∨ p = 20 ∨ p = 21 ∨ p = 22 ∨ p = 23 ∨ p = 24 ∨ p = 25 ∨ p = 26 ∨ p = 27 ∨ p = 28 ∨ p = 29 := by omega
  rcases this with rfl | rfl | rfl | rfl | rfl | rfl | rfl | rfl | rfl | rfl | rfl | rfl | rfl | rfl | rfl | rfl | rfl | rfl | rfl | rfl | rfl | rfl | rfl | rfl | rfl | rfl | rfl | rfl | rfl | rfl <;> decide
def leapAt (x : Int) : Bool := decide (x = 0) || decide (x % 100 ≠ 0)
theorem leap_count : ∀ n : Nat, ((((List.range' 0 n).map fun i => (0 : Int) + (i : Nat) * 4).filter leapAt).length : Int) = n - ((n : Int) + 24) / 25 + ((n : Int) + 1) / ((n : Int) + 1) - 1 + (if n = 0 then 0 else 1)
  | 0 => by decide
  | n + 1 => by
    rw [List.range'_1_concat, List.map_append, List.filter_append, List.length_append]
    have ih := leap_count n
    have e1 : ((n : Int) + 1) / ((n : Int) + 1) = 1 := Int.ediv_self (by omega)
    have e2 : (((n + 1 : Nat) : Int) + 1) / (((n + 1 : Nat) : Int) + 1) = 1 := Int.ediv_self (by omega)
    rw [e1] at ih
    rw [e2]
    simp only [List.map_cons, List.map_nil, Nat.zero_add]
    by_cases h0 : n = 0
    · subst h0; decide
    · rw [if_neg h0] at ih
      rw [if_neg (by omega)]
      by_cases h : n % 25 = 0
      · have e : leapAt (0 + (n : Nat) * 4) = false := by
          unfold leapAt
          rw [Bool.or_eq_false_iff]
          exact ⟨by simp; omega, by simp; omega⟩
        rw [List.filter_cons, e]
        simp only [List.filter_nil, List.length_nil, Bool.false_eq_true, if_false]
        omega
      · have e : leapAt (0 + (n : Nat) * 4) = true := by
          unfold leapAt
          rw [Bool.or_eq_true_iff]
          exact .inr (by simp; omega)
        rw [List.filter_cons, e]
        simp only [List.filter_nil, List.length_nil, if_true, List.length_cons]
        omega
theorem leap_len {p : Int} (h0 : 0 ≤ p) (h1 : p < 400) {n : Nat} (hn : (n : Int) = (p + 3) / 4) {zs : List Value} (hz : IntsAre zs (((List.range' 0 n).map fun i => (0 : Int) + (i : Nat) * 4).filter leapAt)) : (zs.length : Int) = (p + 3) / 4 - (p + 99) / 100 + (p + 399) / 400 := by
  rw [hz.length, leap_count n, Int.ediv_self (by omega)]
  by_cases h : n = 0
  · rw [if_pos h]; omega
  · rw [if_neg h]; omega
theorem size4 {p : Int} (h0 : 0 ≤ p) (_h1 : p < 400) : Builtin.Range.rangeSize 0 p 4 = ((((p + 3) / 4).toNat : Nat) : Int) := by
  unfold Builtin.Range.rangeSize
  rw [if_pos (by decide), Int.toNat_of_nonneg (by omega)]
  split <;> omega
theorem small4 {p : Int} (h0 : 0 ≤ p) (h1 : p < 400) : Builtin.Range.small 0 p 4 = true := by
  have h2 : 0 ≤ Builtin.Range.rangeSize 0 p 4 ∧ Builtin.Range.rangeSize 0 p 4 < 1000 := by rw [size4 h0 h1]; omega
  unfold Builtin.Range.small
  simp only [Builtin.Range.rangeFitsLong, Bool.and_eq_true, Bool.or_eq_true, decide_eq_true_eq, beq_iff_eq, show ((4 : Int) > 0) by decide, if_true]
  omega
theorem fit4 {p : Int} (_h0 : 0 ≤ p) (h1 : p < 400) : ((p + 3) / 4).toNat ≤ sizeLine := by
  unfold sizeLine
  omega
theorem toNat4 {p : Int} (h0 : 0 ≤ p) : ((((p + 3) / 4).toNat : Nat) : Int) = (p + 3) / 4 := Int.toNat_of_nonneg (by omega)
theorem leapAt_1 {x : Int} (h : x = 0 ∨ x % 100 ≠ 0) : true = leapAt x := by
  unfold leapAt
  symm
  rw [Bool.or_eq_true_iff]
  simpa using h
theorem leapAt_0 {x : Int} (h : ¬ (x = 0 ∨ x % 100 ≠ 0)) : false = leapAt x := by
  unfold leapAt
  symm
  rw [Bool.or_eq_false_iff]
  simp only [decide_eq_false_iff_not]
  omega
end Mine
-- CF
namespace Mine
set_option maxRecDepth 100000
set_option maxHeartbeats 8000000
open PySem PySem.W PyProof.Rows PySem.Calls
theorem still_CF : True := by w_top off; trivial
local macro_rules | `(tactic| walk_at "binaryOp Mod int int") => `(tactic| (k_here; (refine' Mine.r_mod_ii ?ba ?_; (case ba => decide); k_whole)))
local macro_rules | `(tactic| walk_at "ite") => `(tactic| (k_here; k_openite; first
  | (refine ite_pos (by ((try simp only [decide_eq_true_eq, beq_iff_eq, bne_iff_ne, ne_eq]); omega)) ?_)
  | (refine ite_neg (by ((try simp only [decide_eq_true_eq, beq_iff_eq, bne_iff_ne, ne_eq]); omega)) ?_)))
local macro_rules | `(tactic| walk_at "eval Name") => `(tactic| (k_here; (name_kind "globalImplicit"); k_dflt (refine' nameX_K ?F ?X ?T ?e ?_ ?a ?b; (case F => k_asm); (case X => k_asm); (case T => k_asm); (case a => rfl); (case b => rfl); (case e => k_is); k_whole)))
local macro_rules | `(tactic| walk_at "eval Name") => `(tactic| (k_here; (name_kind "local"); k_dflt (refine' nameX_L ?F ?v ?_ ?a ?b; (case F => k_asm); (case a => rfl); (case b => rfl); (case v => first | rfl | assumption); k_whole)))
local macro_rules | `(tactic| walk_at "binaryOp Add int bool") => `(tactic| (k_here; (first | with_reducible refine Mine.r_add_it ?_ | with_reducible refine Mine.r_add_i0 ?_)))
local macro_rules | `(tactic| walk_at "binaryOp Sub int bool") => `(tactic| (k_here; (first | with_reducible refine Mine.r_sub_it ?_ | with_reducible refine Mine.r_sub_i0 ?_)))
local macro_rules | `(tactic| walk_at "ite") => `(tactic| (k_here; k_closed; first | (with_reducible refine ite_pos ?c ?_; (case c => k_dflt decide)) | (with_reducible refine ite_neg ?c ?_; (case c => k_dflt decide))))
local macro_rules | `(tactic| walk_at "eval List") => `(tactic| (k_here; (with_reducible refine List_ ?_)))
local macro_rules | `(tactic| walk_at "eval Call Name") => `(tactic| (k_here; k_dflt (refine Call_ ?_)))
local macro_rules | `(tactic| walk_at "exec If") => `(tactic| (k_here; k_dflt (refine wpAny_If ?_)))
local macro_rules | `(tactic| walk_at "binaryOp Add float float") => `(tactic| (k_here; (with_reducible refine' Mine.r_add_ff ?hx ?hy ?bal ?bau ?bbl ?bbu ?_); k_dflt ((case hx => first | with_reducible exact Mine.c_half | with_reducible exact Mine.c_greg | with_reducible exact Mine.c_isl | with_reducible exact Mine.c_cop | with_reducible exact Mine.c_295 | with_reducible exact Mine.c_1524 | with_reducible rfl); (case hy => first | with_reducible exact Mine.c_half | with_reducible exact Mine.c_greg | with_reducible exact Mine.c_isl | with_reducible exact Mine.c_cop | with_reducible exact Mine.c_295 | with_reducible exact Mine.c_1524 | with_reducible rfl); (case bal => first | decide | (law_clear; omega) | omega); (case bau => first | decide | (law_clear; omega) | omega); (case bbl => first | decide | (law_clear; omega) | omega); (case bbu => first | decide | (law_clear; omega) | omega); k_whole)))
local macro_rules | `(tactic| walk_at "binaryOp Sub float float") => `(tactic| (k_here; (with_reducible refine' Mine.r_sub_ff ?hx ?hy ?bal ?bau ?bbl ?bbu ?_); k_dflt ((case hx => first | with_reducible exact Mine.c_half | with_reducible exact Mine.c_greg | with_reducible exact Mine.c_isl | with_reducible exact Mine.c_cop | with_reducible exact Mine.c_295 | with_reducible exact Mine.c_1524 | with_reducible rfl); (case hy => first | with_reducible exact Mine.c_half | with_reducible exact Mine.c_greg | with_reducible exact Mine.c_isl | with_reducible exact Mine.c_cop | with_reducible exact Mine.c_295 | with_reducible exact Mine.c_1524 | with_reducible rfl); (case bal => first | decide | (law_clear; omega) | omega); (case bau => first | decide | (law_clear; omega) | omega); (case bbl => first | decide | (law_clear; omega) | omega); (case bbu => first | decide | (law_clear; omega) | omega); k_whole)))
local macro_rules | `(tactic| walk_at "inplaceOp Add float float") => `(tactic| (k_here; (with_reducible refine' Mine.r_iadd_ff ?hx ?hy ?bal ?bau ?bbl ?bbu ?_); k_dflt ((case hx => first | with_reducible exact Mine.c_half | with_reducible exact Mine.c_greg | with_reducible exact Mine.c_isl | with_reducible exact Mine.c_cop | with_reducible exact Mine.c_295 | with_reducible exact Mine.c_1524 | with_reducible rfl); (case hy => first | with_reducible exact Mine.c_half | with_reducible exact Mine.c_greg | with_reducible exact Mine.c_isl | with_reducible exact Mine.c_cop | with_reducible exact Mine.c_295 | with_reducible exact Mine.c_1524 | with_reducible rfl); (case bal => first | decide | (law_clear; omega) | omega); (case bau => first | decide | (law_clear; omega) | omega); (case bbl => first | decide | (law_clear; omega) | omega); (case bbu => first | decide | (law_clear; omega) | omega); k_whole)))
local macro_rules | `(tactic| walk_at "binaryOp Add float int") => `(tactic| (k_here; (with_reducible refine' Mine.r_add_xi ?hnl ?hnu ?_); k_dflt ((case hnl => first | decide | (law_clear; omega) | omega); (case hnu => first | decide | (law_clear; omega) | omega); k_whole)))
local macro_rules | `(tactic| walk_at "binaryOp Add float int") => `(tactic| (k_here; (with_reducible refine' Mine.r_add_fi ?hx ?bal ?bau ?bbl ?bbu ?_); k_dflt ((case hx => first | with_reducible exact Mine.c_half | with_reducible exact Mine.c_greg | with_reducible exact Mine.c_isl | with_reducible exact Mine.c_cop | with_reducible exact Mine.c_295 | with_reducible exact Mine.c_1524 | with_reducible rfl); (case bal => first | decide | (law_clear; omega) | omega); (case bau => first | decide | (law_clear; omega) | omega); (case bbl => first | decide | (law_clear; omega) | omega); (case bbu => first | decide | (law_clear; omega) | omega); k_whole)))
local macro_rules | `(tactic| walk_at "binaryOp Sub float int") => `(tactic| (k_here; (with_reducible refine' Mine.r_sub_fi ?hx ?bal ?bau ?bbl ?bbu ?_); k_dflt ((case hx => first | with_reducible exact Mine.c_half | with_reducible exact Mine.c_greg | with_reducible exact Mine.c_isl | with_reducible exact Mine.c_cop | with_reducible exact Mine.c_295 | with_reducible exact Mine.c_1524 | with_reducible rfl); (case bal => first | decide | (law_clear; omega) | omega); (case bau => first | decide | (law_clear; omega) | omega); (case bbl => first | decide | (law_clear; omega) | omega); (case bbu => first | decide | (law_clear; omega) | omega); k_whole)))
local macro_rules | `(tactic| walk_at "inplaceOp Add float int") => `(tactic| (k_here; (with_reducible refine' Mine.r_iadd_fi ?hx ?bal ?bau ?bbl ?bbu ?_); k_dflt ((case hx => first | with_reducible exact Mine.c_half | with_reducible exact Mine.c_greg | with_reducible exact Mine.c_isl | with_reducible exact Mine.c_cop | with_reducible exact Mine.c_295 | with_reducible exact Mine.c_1524 | with_reducible rfl); (case bal => first | decide | (law_clear; omega) | omega); (case bau => first | decide | (law_clear; omega) | omega); (case bbl => first | decide | (law_clear; omega) | omega); (case bbu => first | decide | (law_clear; omega) | omega); k_whole)))
local macro_rules | `(tactic| walk_at "inplaceOp Sub float int") => `(tactic| (k_here; (with_reducible refine' Mine.r_isub_fi ?hx ?bal ?bau ?bbl ?bbu ?_); k_dflt ((case hx => first | with_reducible exact Mine.c_half | with_reducible exact Mine.c_greg | with_reducible exact Mine.c_isl | with_reducible exact Mine.c_cop | with_reducible exact Mine.c_295 | with_reducible exact Mine.c_1524 | with_reducible rfl); (case bal => first | decide | (law_clear; omega) | omega); (case bau => first | decide | (law_clear; omega) | omega); (case bbl => first | decide | (law_clear; omega) | omega); (case bbu => first | decide | (law_clear; omega) | omega); k_whole)))
local macro_rules | `(tactic| walk_at "binaryOp Sub int float") => `(tactic| (k_here; (with_reducible refine' Mine.r_sub_ic ?hnl ?hnu ?_); k_dflt ((case hnl => first | decide | (law_clear; omega) | omega); (case hnu => first | decide | (law_clear; omega) | omega); k_whole)))
local macro_rules | `(tactic| walk_at "binaryOp Add int float") => `(tactic| (k_here; (with_reducible refine' Mine.r_add_if ?hx ?bal ?bau ?bbl ?bbu ?_); k_dflt ((case hx => first | with_reducible exact Mine.c_half | with_reducible exact Mine.c_greg | with_reducible exact Mine.c_isl | with_reducible exact Mine.c_cop | with_reducible exact Mine.c_295 | with_reducible exact Mine.c_1524 | with_reducible rfl); (case bal => first | decide | (law_clear; omega) | omega); (case bau => first | decide | (law_clear; omega) | omega); (case bbl => first | decide | (law_clear; omega) | omega); (case bbu => first | decide | (law_clear; omega) | omega); k_whole)))
local macro_rules | `(tactic| walk_at "binaryOp Sub int float") => `(tactic| (k_here; (with_reducible refine' Mine.r_sub_if ?hx ?bal ?bau ?bbl ?bbu ?_); k_dflt ((case hx => first | with_reducible exact Mine.c_half | with_reducible exact Mine.c_greg | with_reducible exact Mine.c_isl | with_reducible exact Mine.c_cop | with_reducible exact Mine.c_295 | with_reducible exact Mine.c_1524 | with_reducible rfl); (case bal => first | decide | (law_clear; omega) | omega); (case bau => first | decide | (law_clear; omega) | omega); (case bbl => first | decide | (law_clear; omega) | omega); (case bbu => first | decide | (law_clear; omega) | omega); k_whole)))
local macro_rules | `(tactic| walk_at "binaryOp Mult float int") => `(tactic| (k_here; (with_reducible refine' Mine.r_mul_xi ?hnl ?hnu ?_); k_dflt ((case hnl => first | decide | (law_clear; omega) | omega); (case hnu => first | decide | (law_clear; omega) | omega); k_whole)))
local macro_rules | `(tactic| walk_at "binaryOp Mult float int") => `(tactic| (k_here; (with_reducible refine' Mine.r_mul_ci ?hx ?ha ?ha2 ?bnl ?bnu ?_); k_dflt ((case hx => first | with_reducible exact Mine.c_half | with_reducible exact Mine.c_greg | with_reducible exact Mine.c_isl | with_reducible exact Mine.c_cop | with_reducible exact Mine.c_295 | with_reducible exact Mine.c_1524 | with_reducible rfl); (case ha => decide); (case ha2 => decide); (case bnl => first | decide | (law_clear; omega) | omega); (case bnu => first | decide | (law_clear; omega) | omega); k_whole)))
local macro_rules | `(tactic| walk_at "binaryOp Mult float int") => `(tactic| (k_here; (with_reducible refine' Mine.r_mul_fi ?hx ?hn ?hn2 ?bal ?bau ?_); k_dflt ((case hx => first | with_reducible exact Mine.c_half | with_reducible exact Mine.c_greg | with_reducible exact Mine.c_isl | with_reducible exact Mine.c_cop | with_reducible exact Mine.c_295 | with_reducible exact Mine.c_1524 | with_reducible rfl); (case hn => decide); (case hn2 => decide); (case bal => first | decide | (law_clear; omega) | omega); (case bau => first | decide | (law_clear; omega) | omega); k_whole)))
local macro_rules | `(tactic| walk_at "binaryOp Mult int float") => `(tactic| (k_here; (with_reducible refine' Mine.r_mul_if ?hx ?hn ?hn2 ?bal ?bau ?_); k_dflt ((case hx => first | with_reducible exact Mine.c_half | with_reducible exact Mine.c_greg | with_reducible exact Mine.c_isl | with_reducible exact Mine.c_cop | with_reducible exact Mine.c_295 | with_reducible exact Mine.c_1524 | with_reducible rfl); (case hn => decide); (case hn2 => decide); (case bal => first | decide | (law_clear; omega) | omega); (case bau => first | decide | (law_clear; omega) | omega); k_whole)))
local macro_rules | `(tactic| walk_at "binaryOp Mod float int") => `(tactic| (k_here; (with_reducible refine' Mine.r_mod_q ?hA ?hx ?hn ?hn2 ?bal ?bau ?_); k_dflt ((case hA => exact rfl); (case hx => first | with_reducible exact Mine.c_half | with_reducible exact Mine.c_greg | with_reducible exact Mine.c_isl | with_reducible exact Mine.c_cop | with_reducible exact Mine.c_295 | with_reducible exact Mine.c_1524 | with_reducible rfl); (case hn => decide); (case hn2 => decide); (case bal => first | decide | (law_clear; omega) | omega); (case bau => first | decide | (law_clear; omega) | omega); k_whole); intro r9 hr9 hr0 hr1))
local macro_rules | `(tactic| walk_at "binaryOp Div float int") => `(tactic| (k_here; (with_reducible refine' Mine.r_div_fi ?hA ?hn ?hn2 ?_); k_dflt ((case hA => exact rfl); (case hn => decide); (case hn2 => decide); k_whole)))
local macro_rules | `(tactic| walk_at "binaryOp Div float float") => `(tactic| (k_here; (with_reducible refine' Mine.r_div_fc ?hA ?hz ?_); k_dflt ((case hA => exact rfl); (case hz => decide +kernel); k_whole)))
local macro_rules | `(tactic| walk_at "binaryOp Div float float") => `(tactic| (k_here; (with_reducible refine' Mine.r_div_ff ?hA ?hy ?hb ?hb2 ?_); k_dflt ((case hA => exact rfl); (case hy => first | with_reducible exact Mine.c_half | with_reducible exact Mine.c_greg | with_reducible exact Mine.c_isl | with_reducible exact Mine.c_cop | with_reducible exact Mine.c_295 | with_reducible exact Mine.c_1524 | with_reducible rfl); (case hb => decide); (case hb2 => decide); k_whole)))
local macro_rules | `(tactic| walk_at "binaryOp Div int float") => `(tactic| (k_here; (with_reducible refine' Mine.r_div_ic ?hA ?hnl ?hnu ?hz ?_); k_dflt ((case hA => exact rfl); (case hnl => first | decide | (law_clear; omega) | omega); (case hnu => first | decide | (law_clear; omega) | omega); (case hz => decide +kernel); k_whole)))
local macro_rules | `(tactic| walk_at "binaryOp Div int int") => `(tactic| (k_here; (with_reducible refine' Mine.r_div_ii ?hA ?hb ?hal ?hau ?_); k_dflt ((case hA => exact rfl); (case hb => decide); (case hal => first | decide | (law_clear; omega) | omega); (case hau => first | decide | (law_clear; omega) | omega); k_whole)))
local macro_rules | `(tactic| walk_at "call builtin:math.floor") => `(tactic| (k_here; (with_reducible refine' Mine.r_floor_g ?hA ?hx ?hm0 ?hm1 ?ha0 ?ha1 ?hd0 ?hd1 ?_); k_dflt ((case hA => exact rfl); (case hx => first | with_reducible exact rfl | exact rfl); (case hm0 => first | decide | (law_clear; omega) | omega); (case hm1 => first | decide | (law_clear; omega) | omega); (case ha0 => first | decide | (law_clear; omega) | omega); (case ha1 => first | decide | (law_clear; omega) | omega); (case hd0 => first | decide | (law_clear; omega) | omega); (case hd1 => first | decide | (law_clear; omega) | omega); k_whole); intro q9 hq0))
local macro_rules | `(tactic| walk_at "call builtin:math.floor") => `(tactic| (k_here; (with_reducible refine' Mine.r_floor_jm ?hA ?hx ?b0 ?b1 ?_); k_dflt ((case hA => exact rfl); (case hx => first | with_reducible exact rfl | exact rfl); (case b0 => first | decide | (law_clear; omega) | omega); (case b1 => first | decide | (law_clear; omega) | omega); k_whole); intro q9 hq0))
local macro_rules | `(tactic| walk_at "call builtin:math.floor") => `(tactic| (k_here; (with_reducible refine' Mine.r_floor_je ?hA ?hx ?b0 ?b1 ?_); k_dflt ((case hA => exact rfl); (case hx => first | with_reducible exact rfl | exact rfl); (case b0 => first | decide | (law_clear; omega) | omega); (case b1 => first | decide | (law_clear; omega) | omega); k_whole); intro q9 hq0))
local macro_rules | `(tactic| walk_at "call builtin:math.floor") => `(tactic| (k_here; (with_reducible refine' Mine.r_floor_jd ?hA ?hx ?bnl ?bnu ?_); k_dflt ((case hA => exact rfl); (case hx => first | with_reducible exact rfl | exact rfl); (case bnl => first | decide | (law_clear; omega) | omega); (case bnu => first | decide | (law_clear; omega) | omega); k_whole); intro q9 hq0))
local macro_rules | `(tactic| walk_at "call builtin:math.floor") => `(tactic| (k_here; (with_reducible refine' Mine.r_floor_jc ?hA ?hx ?bnl ?bnu ?_); k_dflt ((case hA => exact rfl); (case hx => first | with_reducible exact rfl | exact rfl); (case bnl => first | decide | (law_clear; omega) | omega); (case bnu => first | decide | (law_clear; omega) | omega); k_whole); intro q9 hq0))
local macro_rules | `(tactic| walk_at "call builtin:math.floor") => `(tactic| (k_here; (with_reducible refine' Mine.r_floor_ii ?hA ?hb ?hb2 ?bal ?bau ?k1 ?k2 ?_); k_dflt ((case hA => exact rfl); (case hb => decide); (case hb2 => decide); (case bal => first | decide | (law_clear; omega) | omega); (case bau => first | decide | (law_clear; omega) | omega); (case k1 => first | decide | (law_clear; omega) | omega); (case k2 => first | decide | (law_clear; omega) | omega); k_whole); intro q9 hq0))
local macro_rules | `(tactic| walk_at "call builtin:math.floor") => `(tactic| (k_here; (with_reducible refine' Mine.r_floor_div ?hA ?hb ?hb2 ?bal ?bau ?k1 ?k2 ?_); k_dflt ((case hA => exact rfl); (case hb => decide); (case hb2 => decide); (case bal => first | decide | (law_clear; omega) | omega); (case bau => first | decide | (law_clear; omega) | omega); (case k1 => first | decide | (law_clear; omega) | omega); (case k2 => first | decide | (law_clear; omega) | omega); k_whole); intro q9 hq0))
local macro_rules | `(tactic| walk_at "call builtin:math.floor") => `(tactic| (k_here; (with_reducible refine' Mine.r_floor_hf ?hA ?bal ?bau ?_); k_dflt ((case hA => exact rfl); (case bal => first | decide | (law_clear; omega) | omega); (case bau => first | decide | (law_clear; omega) | omega); k_whole); intro q9 hq0))
local macro_rules | `(tactic| walk_at "call builtin:math.ceil") => `(tactic| (k_here; (with_reducible refine' Mine.r_ceil_div ?hA ?hb ?hb2 ?bal ?bau ?k1 ?k2 ?_); k_dflt ((case hA => exact rfl); (case hb => decide); (case hb2 => decide); (case bal => first | decide | (law_clear; omega) | omega); (case bau => first | decide | (law_clear; omega) | omega); (case k1 => first | decide | (law_clear; omega) | omega); (case k2 => first | decide | (law_clear; omega) | omega); k_whole); intro q9 hq0 hq1))
local macro_rules | `(tactic| walk_at "call builtin:math.ceil") => `(tactic| (k_here; (with_reducible refine' Mine.r_ceil_hf ?hA ?bal ?bau ?_); k_dflt ((case hA => exact rfl); (case bal => first | decide | (law_clear; omega) | omega); (case bau => first | decide | (law_clear; omega) | omega); k_whole); intro q9 hq0 hq1))
local macro_rules | `(tactic| walk_at "call type:int") => `(tactic| (k_here; (with_reducible refine' Mine.r_trunc_hf ?hA ?bal ?bau ?he ?_); k_dflt ((case hA => exact rfl); (case bal => first | decide | (law_clear; omega) | omega); (case bau => first | decide | (law_clear; omega) | omega); (case he => first | decide | (law_clear; omega) | omega); k_whole); intro q9 hq0))
local macro_rules | `(tactic| walk_at "compareOp Lt float int") => `(tactic| (k_here; (with_reducible refine' Mine.r_lt_fi ?hx ?bal ?bau ?_); k_dflt ((case hx => first | with_reducible exact Mine.c_half | with_reducible exact Mine.c_greg | with_reducible exact Mine.c_isl | with_reducible exact Mine.c_cop | with_reducible exact Mine.c_295 | with_reducible exact Mine.c_1524 | with_reducible rfl); (case bal => first | decide | (law_clear; omega) | omega); (case bau => first | decide | (law_clear; omega) | omega); k_whole)))
local macro_rules | `(tactic| walk_at "compareOp NotEq float float") => `(tactic| (k_here; (with_reducible refine' Mine.r_ne_ff ?hx ?hy ?bal ?bau ?bbl ?bbu ?hab ?_); k_dflt ((case hx => first | with_reducible exact Mine.c_half | with_reducible exact Mine.c_greg | with_reducible exact Mine.c_isl | with_reducible exact Mine.c_cop | with_reducible exact Mine.c_295 | with_reducible exact Mine.c_1524 | with_reducible rfl); (case hy => first | with_reducible exact Mine.c_half | with_reducible exact Mine.c_greg | with_reducible exact Mine.c_isl | with_reducible exact Mine.c_cop | with_reducible exact Mine.c_295 | with_reducible exact Mine.c_1524 | with_reducible rfl); (case bal => first | decide | (law_clear; omega) | omega); (case bau => first | decide | (law_clear; omega) | omega); (case bbl => first | decide | (law_clear; omega) | omega); (case bbu => first | decide | (law_clear; omega) | omega); (case hab => omega); k_whole)))
theorem allLt_ne {d c : Addr} {l : List (Addr × Obj)} (h : AllLt d l) (hc : @LE.le Nat _ d c) : ∀ p ∈ l, p.1 ≠ c := fun p hp => Nat.ne_of_lt (Nat.lt_of_lt_of_le (tb_ltOf h p hp) hc)
local macro_rules | `(tactic| k_all) => `(tactic| exact Mine.allLt_ne (by with_reducible assumption) (by (try dsimp only); first | exact Nat.le_refl _ | exact Nat.le_succ _ | omega))
theorem memLt_ne1 {d : Addr} {l : List (Addr × Obj)} (h : ∀ p ∈ l, p.1 < d) : ∀ p ∈ l, p.1 ≠ d + 1 := fun p hp => Nat.ne_of_lt (Nat.lt_succ_of_lt (h p hp))
local macro_rules | `(tactic| k_all) => `(tactic| exact Mine.memLt_ne1 (by with_reducible assumption))
theorem r_divmod {prog : Program} {w : World} {A : Around} {E : Value → Shared → Prop} {s : Shared} {a b : Int} {t u : Tok} {Q : Value → Shared → Prop} {h₀ : Heap} {L : Addr} {m : Str → Option Value} {news : List (Addr × Obj)} (F : Fr h₀ L s.heap m) (N : News h₀ L s.heap news) (hb : 0 < b) (hb2 : b < 1073741824)
    (h : ∀ D h' t1 t2 tk', Fr h₀ L h' m → News h₀ L h' ((D, { cls := .type "tuple", data := .seq #[.int (a / b) t1, .int (a % b) t2] }) :: news) → (∀ p ∈ news, p.1 < D) → Q (.ref D) { s with toks := tk', heap := h' }) :
    wpAny (model prog w) A (call (.builtin "divmod") [.int a t, .int b u]) Q E s := by
  refine divmod_N F N (by omega) (fun h' F' N' => ?_) (Or.inl (PyProof.noPylong_small (by omega)))
  rw [Int.fdiv_eq_ediv_of_nonneg _ (by omega), Int.fmod_eq_emod_of_nonneg _ (by omega)] at N'
  exact h _ h' _ _ _ F' N' (fun p hp => Heap.lt_size (N p hp).1)
local macro_rules | `(tactic| walk_at "call builtin:divmod") => `(tactic| (k_here; k_dflt (refine' Mine.r_divmod ?F ?N ?hb ?hb2 ?_; (case F => k_asm); (case N => k_asm); (case hb => decide); (case hb2 => decide)); intro D9 h9 u1 u2 tk9 F9 N9 l9; (try k_lt l9); (try dsimp only); (try k_sweep)))
section
variable {w : World} {p : Program} {loose : List Str} {mean : ExcName → Option Value} {mg mb : Str → Option Value} {dp un : Nat} {gd : Option (List Code)} {cn : Str} {cs : Scope} {a : Addr} {ccd : Value} {cl : List (Str × Addr)} {outer : List Env} {A₀ : Around} {base h₀ : Heap} {L : Addr} {m : Str → Option Value} {news : List (Addr × Obj)} {s : Shared} {Q E : Value → Shared → Prop}
local macro_rules | `(tactic| walk_at "call builtin:len") => `(tactic| (k_here; (with_reducible show wpAny _ _ (call (Value.builtin "len") [Value.ref _]) _ _ _); (with_unfolding_all refine' Mine.len_known ?k1 ?k2 ?k3 ?_; (case k1 => is_list); (case k2 => assumption); (case k3 => omega); k_whole)))
local macro_rules | `(tactic| walk_at "call ref") => `(tactic| (k_here; (with_reducible show wpAny _ _ (call (Value.ref 212) _) _ _ _); k_dflt (refine' Mine.moon_c  ?k1 ?k2 ?k3 ?k4 ?k5 ?kK ?kd ?ku  ?_; (case k1 => k_asm); (case k2 => k_asm); (case k3 => k_asm); (case k4 => k_asm); (case k5 => k_asm); (case kK => first | exact rfl | assumption); (case kd => (dsimp only [ktrTop]; omega)); (case ku => (dsimp only [ktrTop]; omega)); all_goals (intro D9 u1 u2 u3 u4 u5 u6 u7 u8 u9 u10 u11 h9 tk9 F9 N9 l9; (try simp only [AllLt, and_true] at l9); (try dsimp only); (try k_sweep); (try k_fold)))))
theorem lawfirst_0 (y : Int) (t1 t2 : Tok) (B : Below A₀ base outer h₀) (F : Fr h₀ L s.heap m) (X : (hd.heap_39 w.params).In h₀) (N : News h₀ L s.heap news) (T : Top p loose mean mg mb h₀) (hk : cs.kind = .function)
    (hdp : dp + 3 < recursionLimit) (hun : un + 24 < cLine)
    (hy1 : -30000000 ≤ y) (hy2 : y ≤ 30000000)
    (h1 : RetV h₀ L m news s Q fun t => .int (365 * (y - 1) + (y - 1) / 4 - (y - 1) / 100 + (y - 1) / 400 + 1721426) t) :
    Goes w dp un gd cn cs L a ccd cl outer 231 [.int 0 t1, .int y t2] Q E s := by
  unfold Goes
  revert X; k_fill; intro X
  refine wpAny_call ?_
  k_dflt (refine' code_defC (binds := [(Str.ofString "kind", .int 0 t1), (Str.ofString "year", .int y t2)]) ?k1 ?k2 ?k3 ?k4 ?k5 ?kA ?kF ?kK ?k6 ?k7 ?k8 ?k9 ?kB ?kD ?_ ?c2 ?c3 ?c4; (case kA => exact rfl); (case kF => exact rfl); (case kK => assumption); (case k1 => k_asm); (case k2 => k_asm); (case k3 => k_asm); (case k4 => k_asm); (case k5 => k_asm); (case k6 => k_is); (case k7 => k_is); (case k8 => (dsimp only [ktrTop]; omega)); (case k9 => exact BindsTo.of_eq rfl); (case kB => exact rfl); (case kD => decide +kernel); (case c2 => exact rfl); (case c3 => exact rfl); (case c4 => exact rfl); k_whole; intro g' L' h' tk' cells' FG' F' N' Y' B' X' T' l1; (try k_lt l1); k_cells Y'; (try simp only [List.cons_append, List.nil_append] at N'); (try dsimp only); (try k_fold))
  repeat' ((fail_if_success (with_reducible show wpAny _ _ (eval (PySem.Expr.ListComp _ _ _ _) _) _ _ _)); first | (k_unfold; (try dsimp only)) | (k_end; kc_close) | walk1 | (dsimp only; walk1) | (leave1; walk_say "STEP leave1"; (try dsimp only)) | fail "no step")
  k_dflt (refine Mine.comp_step (F₀ := by k_asm) (by with_unfolding_all rfl) (by decide) (by rfl) (by decide) (by rfl) ?_ (by intro _; rfl))
  repeat' ((fail_if_success (with_reducible show Mine.SrcStep _ _ _ _ _ _ _ _ _ _ _ _ _ _ _)); first | (k_unfold; (try dsimp only)) | (k_end; kc_close) | walk1 | (dsimp only; walk1) | (leave1; walk_say "STEP leave1"; (try dsimp only)) | fail "no step")
  have hP : 0 ≤ ((y - 2000) % 400) ∧ ((y - 2000) % 400) < 400 := by omega
  k_dflt (refine Mine.src_step (pred := Mine.leapAt) (n := ((((y - 2000) % 400) + 3) / 4).toNat) (by rfl) (by k_asm) (by k_asm) (by assumption) (Mine.small4 hP.1 hP.2) (Mine.size4 hP.1 hP.2) (Mine.fit4 hP.1 hP.2) (by rfl) (by rfl) (by rfl) ?_ ?_)
  · intro g x t I oI C oC D ys m₂ h tk E' hC hx F9 N9
    k_steps
    all_goals first | exact Mine.leapAt_1 (by law_clear; omega) | exact Mine.leapAt_0 (by law_clear; omega)
  · intro D h tk zs hz F9 N9 o9
    have hz9 := Mine.leap_len hP.1 hP.2 (Mine.toNat4 hP.1) hz
    dsimp only
    k_steps
    all_goals exact retI (s := s) h1 (by law_clear; omega) (by with_reducible assumption) (by first | with_reducible assumption | exact drop1 (by with_reducible assumption) | exact drop1 (drop1 (by with_reducible assumption)) | exact drop1 (drop1 (drop1 (by with_reducible assumption))) | exact drop1 (drop1 (drop1 (drop1 (by with_reducible assumption)))))
theorem lawfirst_1 (y : Int) (t1 t2 : Tok) (B : Below A₀ base outer h₀) (F : Fr h₀ L s.heap m) (X : (hd.heap_39 w.params).In h₀) (N : News h₀ L s.heap news) (T : Top p loose mean mg mb h₀) (hk : cs.kind = .function)
    (hdp : dp + 3 < recursionLimit) (hun : un + 24 < cLine)
    (hy1 : -30000000 ≤ y) (hy2 : y ≤ 30000000)
    (h1 : RetV h₀ L m news s Q fun t => .int (365 * (y + 4712) + (y + 4715) / 4) t) :
    Goes w dp un gd cn cs L a ccd cl outer 231 [.int 1 t1, .int y t2] Q E s := by
  unfold Goes
  revert X; k_fill; intro X
  refine wpAny_call ?_
  k_dflt (refine' code_defC (binds := [(Str.ofString "kind", .int 1 t1), (Str.ofString "year", .int y t2)]) ?k1 ?k2 ?k3 ?k4 ?k5 ?kA ?kF ?kK ?k6 ?k7 ?k8 ?k9 ?kB ?kD ?_ ?c2 ?c3 ?c4; (case kA => exact rfl); (case kF => exact rfl); (case kK => assumption); (case k1 => k_asm); (case k2 => k_asm); (case k3 => k_asm); (case k4 => k_asm); (case k5 => k_asm); (case k6 => k_is); (case k7 => k_is); (case k8 => (dsimp only [ktrTop]; omega)); (case k9 => exact BindsTo.of_eq rfl); (case kB => exact rfl); (case kD => decide +kernel); (case c2 => exact rfl); (case c3 => exact rfl); (case c4 => exact rfl); k_whole; intro g' L' h' tk' cells' FG' F' N' Y' B' X' T' l1; (try k_lt l1); k_cells Y'; (try simp only [List.cons_append, List.nil_append] at N'); (try dsimp only); (try k_fold))
  k_steps
  all_goals exact retI (s := s) h1 (by law_clear; omega) (by with_reducible assumption) (by first | with_reducible assumption | exact drop1 (by with_reducible assumption) | exact drop1 (drop1 (by with_reducible assumption)) | exact drop1 (drop1 (drop1 (by with_reducible assumption))) | exact drop1 (drop1 (drop1 (drop1 (by with_reducible assumption)))))
theorem lawfirst_2 (y : Int) (t1 t2 : Tok) (B : Below A₀ base outer h₀) (F : Fr h₀ L s.heap m) (X : (hd.heap_39 w.params).In h₀) (N : News h₀ L s.heap news) (T : Top p loose mean mg mb h₀) (hk : cs.kind = .function)
    (hdp : dp + 3 < recursionLimit) (hun : un + 24 < cLine)
    (hy1 : -30000000 ≤ y) (hy2 : y ≤ 30000000)
    (h1 : RetV h₀ L m news s Q fun t => .int (1948440 + 354 * (y - 1) + (3 + 11 * y) / 30) t) :
    Goes w dp un gd cn cs L a ccd cl outer 231 [.int 2 t1, .int y t2] Q E s := by
  unfold Goes
  revert X; k_fill; intro X
  refine wpAny_call ?_
  k_dflt (refine' code_defC (binds := [(Str.ofString "kind", .int 2 t1), (Str.ofString "year", .int y t2)]) ?k1 ?k2 ?k3 ?k4 ?k5 ?kA ?kF ?kK ?k6 ?k7 ?k8 ?k9 ?kB ?kD ?_ ?c2 ?c3 ?c4; (case kA => exact rfl); (case kF => exact rfl); (case kK => assumption); (case k1 => k_asm); (case k2 => k_asm); (case k3 => k_asm); (case k4 => k_asm); (case k5 => k_asm); (case k6 => k_is); (case k7 => k_is); (case k8 => (dsimp only [ktrTop]; omega)); (case k9 => exact BindsTo.of_eq rfl); (case kB => exact rfl); (case kD => decide +kernel); (case c2 => exact rfl); (case c3 => exact rfl); (case c4 => exact rfl); k_whole; intro g' L' h' tk' cells' FG' F' N' Y' B' X' T' l1; (try k_lt l1); k_cells Y'; (try simp only [List.cons_append, List.nil_append] at N'); (try dsimp only); (try k_fold))
  repeat' ((fail_if_success (with_reducible show wpAny _ _ (eval (PySem.Expr.ListComp _ _ _ _) _) _ _ _)); first | (k_unfold; (try dsimp only)) | (k_end; kc_close) | walk1 | (dsimp only; walk1) | (leave1; walk_say "STEP leave1"; (try dsimp only)) | fail "no step")
  k_dflt (refine PyProof.Rows.LCt.ListComp_T (F₀ := by k_asm) (by with_unfolding_all rfl) (by decide) (by rfl) (by decide) (by rfl) ?_)
  repeat' ((fail_if_success (with_reducible show PyProof.Rows.LCt.CompSrcT _ _ _ _ _ _ _ _ _ _ _ _ _ _ _)); first | (k_unfold; (try dsimp only)) | (k_end; kc_close) | walk1 | (dsimp only; walk1) | (leave1; walk_say "STEP leave1"; (try dsimp only)) | fail "no step")
  k_dflt (refine Mine.src_list (pred := fun x => decide (x ≤ (y - 1) % 30)) (ns := [2, 5, 7, 10, 13, 16, 18, 21, 24, 26, 29]) (by rfl) (by k_asm) (by k_asm) (by k_mem) (.cons _ _ (.cons _ _ (.cons _ _ (.cons _ _ (.cons _ _ (.cons _ _ (.cons _ _ (.cons _ _ (.cons _ _ (.cons _ _ (.cons _ _ (.nil)))))))))))) (by decide) (by rfl) (by rfl) (by rfl) ?_ ?_)
  · intro g x t I oI C oC D ys m₂ h tk E' hC hx F9 N9
    k_steps
  · intro D h tk zs hz F9 N9 o9
    have hz9 := Mine.moon_len (by omega) (by omega) hz
    dsimp only
    k_steps
    all_goals exact retI (s := s) h1 (by law_clear; omega) (by with_reducible assumption) (by first | with_reducible assumption | exact drop1 (by with_reducible assumption) | exact drop1 (drop1 (by with_reducible assumption)) | exact drop1 (drop1 (drop1 (by with_reducible assumption))) | exact drop1 (drop1 (drop1 (drop1 (by with_reducible assumption)))))
theorem lawfirst_3 (y : Int) (t1 t2 : Tok) (B : Below A₀ base outer h₀) (F : Fr h₀ L s.heap m) (X : (hd.heap_39 w.params).In h₀) (N : News h₀ L s.heap news) (T : Top p loose mean mg mb h₀) (hk : cs.kind = .function)
    (hdp : dp + 3 < recursionLimit) (hun : un + 24 < cLine)
    (hy1 : -30000000 ≤ y) (hy2 : y ≤ 30000000)
    (h1 : RetV h₀ L m news s Q fun t => .int (1825030 + 365 * (y - 1) + y / 4) t) :
    Goes w dp un gd cn cs L a ccd cl outer 231 [.int 3 t1, .int y t2] Q E s := by
  unfold Goes
  revert X; k_fill; intro X
  refine wpAny_call ?_
  k_dflt (refine' code_defC (binds := [(Str.ofString "kind", .int 3 t1), (Str.ofString "year", .int y t2)]) ?k1 ?k2 ?k3 ?k4 ?k5 ?kA ?kF ?kK ?k6 ?k7 ?k8 ?k9 ?kB ?kD ?_ ?c2 ?c3 ?c4; (case kA => exact rfl); (case kF => exact rfl); (case kK => assumption); (case k1 => k_asm); (case k2 => k_asm); (case k3 => k_asm); (case k4 => k_asm); (case k5 => k_asm); (case k6 => k_is); (case k7 => k_is); (case k8 => (dsimp only [ktrTop]; omega)); (case k9 => exact BindsTo.of_eq rfl); (case kB => exact rfl); (case kD => decide +kernel); (case c2 => exact rfl); (case c3 => exact rfl); (case c4 => exact rfl); k_whole; intro g' L' h' tk' cells' FG' F' N' Y' B' X' T' l1; (try k_lt l1); k_cells Y'; (try simp only [List.cons_append, List.nil_append] at N'); (try dsimp only); (try k_fold))
  k_steps
  all_goals exact retI (s := s) h1 (by law_clear; omega) (by with_reducible assumption) (by first | with_reducible assumption | exact drop1 (by with_reducible assumption) | exact drop1 (drop1 (by with_reducible assumption)) | exact drop1 (drop1 (drop1 (by with_reducible assumption))) | exact drop1 (drop1 (drop1 (drop1 (by with_reducible assumption)))))
theorem lawfirst_4 (y : Int) (t1 t2 : Tok) (B : Below A₀ base outer h₀) (F : Fr h₀ L s.heap m) (X : (hd.heap_39 w.params).In h₀) (N : News h₀ L s.heap news) (T : Top p loose mean mg mb h₀) (hk : cs.kind = .function)
    (hdp : dp + 3 < recursionLimit) (hun : un + 24 < cLine)
    (hy1 : -30000000 ≤ y) (hy2 : y ≤ 30000000)
    (h1 : RetV h₀ L m news s Q fun t => .int (365 * (y + 78 - 1) + (y + 78 - 1) / 4 - (y + 78 - 1) / 100 + (y + 78 - 1) / 400 + 1721506) t) :
    Goes w dp un gd cn cs L a ccd cl outer 231 [.int 4 t1, .int y t2] Q E s := by
  unfold Goes
  revert X; k_fill; intro X
  refine wpAny_call ?_
  k_dflt (refine' code_defC (binds := [(Str.ofString "kind", .int 4 t1), (Str.ofString "year", .int y t2)]) ?k1 ?k2 ?k3 ?k4 ?k5 ?kA ?kF ?kK ?k6 ?k7 ?k8 ?k9 ?kB ?kD ?_ ?c2 ?c3 ?c4; (case kA => exact rfl); (case kF => exact rfl); (case kK => assumption); (case k1 => k_asm); (case k2 => k_asm); (case k3 => k_asm); (case k4 => k_asm); (case k5 => k_asm); (case k6 => k_is); (case k7 => k_is); (case k8 => (dsimp only [ktrTop]; omega)); (case k9 => exact BindsTo.of_eq rfl); (case kB => exact rfl); (case kD => decide +kernel); (case c2 => exact rfl); (case c3 => exact rfl); (case c4 => exact rfl); k_whole; intro g' L' h' tk' cells' FG' F' N' Y' B' X' T' l1; (try k_lt l1); k_cells Y'; (try simp only [List.cons_append, List.nil_append] at N'); (try dsimp only); (try k_fold))
  repeat' ((fail_if_success (with_reducible show wpAny _ _ (eval (PySem.Expr.ListComp _ _ _ _) _) _ _ _)); first | (k_unfold; (try dsimp only)) | (k_end; kc_close) | walk1 | (dsimp only; walk1) | (leave1; walk_say "STEP leave1"; (try dsimp only)) | fail "no step")
  k_dflt (refine Mine.comp_step (F₀ := by k_asm) (by with_unfolding_all rfl) (by decide) (by rfl) (by decide) (by rfl) ?_ (by intro _; rfl))
  repeat' ((fail_if_success (with_reducible show Mine.SrcStep _ _ _ _ _ _ _ _ _ _ _ _ _ _ _)); first | (k_unfold; (try dsimp only)) | (k_end; kc_close) | walk1 | (dsimp only; walk1) | (leave1; walk_say "STEP leave1"; (try dsimp only)) | fail "no step")
  have hP : 0 ≤ ((y + 78 - 2000) % 400) ∧ ((y + 78 - 2000) % 400) < 400 := by omega
  k_dflt (refine Mine.src_step (pred := Mine.leapAt) (n := ((((y + 78 - 2000) % 400) + 3) / 4).toNat) (by rfl) (by k_asm) (by k_asm) (by assumption) (Mine.small4 hP.1 hP.2) (Mine.size4 hP.1 hP.2) (Mine.fit4 hP.1 hP.2) (by rfl) (by rfl) (by rfl) ?_ ?_)
  · intro g x t I oI C oC D ys m₂ h tk E' hC hx F9 N9
    k_steps
    all_goals first | exact Mine.leapAt_1 (by law_clear; omega) | exact Mine.leapAt_0 (by law_clear; omega)
  · intro D h tk zs hz F9 N9 o9
    have hz9 := Mine.leap_len hP.1 hP.2 (Mine.toNat4 hP.1) hz
    dsimp only
    k_steps
    all_goals exact retI (s := s) h1 (by law_clear; omega) (by with_reducible assumption) (by first | with_reducible assumption | exact drop1 (by with_reducible assumption) | exact drop1 (drop1 (by with_reducible assumption)) | exact drop1 (drop1 (drop1 (by with_reducible assumption))) | exact drop1 (drop1 (drop1 (drop1 (by with_reducible assumption)))))
end
end Mine
-- CD
namespace Mine
set_option maxRecDepth 100000
set_option maxHeartbeats 8000000
open PySem PySem.W PyProof.Rows PySem.Calls
theorem still_CD : True := by w_top off; trivial
local macro_rules | `(tactic| walk_at "binaryOp Mod int int") => `(tactic| (k_here; (refine' Mine.r_mod_ii ?ba ?_; (case ba => decide); k_whole)))
local macro_rules | `(tactic| walk_at "ite") => `(tactic| (k_here; k_openite; first
  | (refine ite_pos (by ((try simp only [decide_eq_true_eq, beq_iff_eq, bne_iff_ne, ne_eq]); omega)) ?_)
  | (refine ite_neg (by ((try simp only [decide_eq_true_eq, beq_iff_eq, bne_iff_ne, ne_eq]); omega)) ?_)))
local macro_rules | `(tactic| walk_at "eval Name") => `(tactic| (k_here; (name_kind "globalImplicit"); k_dflt (refine' nameX_K ?F ?X ?T ?e ?_ ?a ?b; (case F => k_asm); (case X => k_asm); (case T => k_asm); (case a => rfl); (case b => rfl); (case e => k_is); k_whole)))
local macro_rules | `(tactic| walk_at "eval Name") => `(tactic| (k_here; (name_kind "local"); k_dflt (refine' nameX_L ?F ?v ?_ ?a ?b; (case F => k_asm); (case a => rfl); (case b => rfl); (case v => first | rfl | assumption); k_whole)))
local macro_rules | `(tactic| walk_at "binaryOp Add int bool") => `(tactic| (k_here; (first | with_reducible refine Mine.r_add_it ?_ | with_reducible refine Mine.r_add_i0 ?_)))
local macro_rules | `(tactic| walk_at "binaryOp Sub int bool") => `(tactic| (k_here; (first | with_reducible refine Mine.r_sub_it ?_ | with_reducible refine Mine.r_sub_i0 ?_)))
local macro_rules | `(tactic| walk_at "ite") => `(tactic| (k_here; k_closed; first | (with_reducible refine ite_pos ?c ?_; (case c => k_dflt decide)) | (with_reducible refine ite_neg ?c ?_; (case c => k_dflt decide))))
local macro_rules | `(tactic| walk_at "eval List") => `(tactic| (k_here; (with_reducible refine List_ ?_)))
local macro_rules | `(tactic| walk_at "eval Call Name") => `(tactic| (k_here; k_dflt (refine Call_ ?_)))
local macro_rules | `(tactic| walk_at "exec If") => `(tactic| (k_here; k_dflt (refine wpAny_If ?_)))
local macro_rules | `(tactic| walk_at "binaryOp Add float float") => `(tactic| (k_here; (with_reducible refine' Mine.r_add_ff ?hx ?hy ?bal ?bau ?bbl ?bbu ?_); k_dflt ((case hx => first | with_reducible exact Mine.c_half | with_reducible exact Mine.c_greg | with_reducible exact Mine.c_isl | with_reducible exact Mine.c_cop | with_reducible exact Mine.c_295 | with_reducible exact Mine.c_1524 | with_reducible rfl); (case hy => first | with_reducible exact Mine.c_half | with_reducible exact Mine.c_greg | with_reducible exact Mine.c_isl | with_reducible exact Mine.c_cop | with_reducible exact Mine.c_295 | with_reducible exact Mine.c_1524 | with_reducible rfl); (case bal => first | decide | (law_clear; omega) | omega); (case bau => first | decide | (law_clear; omega) | omega); (case bbl => first | decide | (law_clear; omega) | omega); (case bbu => first | decide | (law_clear; omega) | omega); k_whole)))
local macro_rules | `(tactic| walk_at "binaryOp Sub float float") => `(tactic| (k_here; (with_reducible refine' Mine.r_sub_ff ?hx ?hy ?bal ?bau ?bbl ?bbu ?_); k_dflt ((case hx => first | with_reducible exact Mine.c_half | with_reducible exact Mine.c_greg | with_reducible exact Mine.c_isl | with_reducible exact Mine.c_cop | with_reducible exact Mine.c_295 | with_reducible exact Mine.c_1524 | with_reducible rfl); (case hy => first | with_reducible exact Mine.c_half | with_reducible exact Mine.c_greg | with_reducible exact Mine.c_isl | with_reducible exact Mine.c_cop | with_reducible exact Mine.c_295 | with_reducible exact Mine.c_1524 | with_reducible rfl); (case bal => first | decide | (law_clear; omega) | omega); (case bau => first | decide | (law_clear; omega) | omega); (case bbl => first | decide | (law_clear; omega) | omega); (case bbu => first | decide | (law_clear; omega) | omega); k_whole)))
local macro_rules | `(tactic| walk_at "inplaceOp Add float float") => `(tactic| (k_here; (with_reducible refine' Mine.r_iadd_ff ?hx ?hy ?bal ?bau ?bbl ?bbu ?_); k_dflt ((case hx => first | with_reducible exact Mine.c_half | with_reducible exact Mine.c_greg | with_reducible exact Mine.c_isl | with_reducible exact Mine.c_cop | with_reducible exact Mine.c_295 | with_reducible exact Mine.c_1524 | with_reducible rfl); (case hy => first | with_reducible exact Mine.c_half | with_reducible exact Mine.c_greg | with_reducible exact Mine.c_isl | with_reducible exact Mine.c_cop | with_reducible exact Mine.c_295 | with_reducible exact Mine.c_1524 | with_reducible rfl); (case bal => first | decide | (law_clear; omega) | omega); (case bau => first | decide | (law_clear; omega) | omega); (case bbl => first | decide | (law_clear; omega) | omega); (case bbu => first | decide | (law_clear; omega) | omega); k_whole)))
local macro_rules | `(tactic| walk_at "binaryOp Add float int") => `(tactic| (k_here; (with_reducible refine' Mine.r_add_xi ?hnl ?hnu ?_); k_dflt ((case hnl => first | decide | (law_clear; omega) | omega); (case hnu => first | decide | (law_clear; omega) | omega); k_whole)))
local macro_rules | `(tactic| walk_at "binaryOp Add float int") => `(tactic| (k_here; (with_reducible refine' Mine.r_add_fi ?hx ?bal ?bau ?bbl ?bbu ?_); k_dflt ((case hx => first | with_reducible exact Mine.c_half | with_reducible exact Mine.c_greg | with_reducible exact Mine.c_isl | with_reducible exact Mine.c_cop | with_reducible exact Mine.c_295 | with_reducible exact Mine.c_1524 | with_reducible rfl); (case bal => first | decide | (law_clear; omega) | omega); (case bau => first | decide | (law_clear; omega) | omega); (case bbl => first | decide | (law_clear; omega) | omega); (case bbu => first | decide | (law_clear; omega) | omega); k_whole)))
local macro_rules | `(tactic| walk_at "binaryOp Sub float int") => `(tactic| (k_here; (with_reducible refine' Mine.r_sub_fi ?hx ?bal ?bau ?bbl ?bbu ?_); k_dflt ((case hx => first | with_reducible exact Mine.c_half | with_reducible exact Mine.c_greg | with_reducible exact Mine.c_isl | with_reducible exact Mine.c_cop | with_reducible exact Mine.c_295 | with_reducible exact Mine.c_1524 | with_reducible rfl); (case bal => first | decide | (law_clear; omega) | omega); (case bau => first | decide | (law_clear; omega) | omega); (case bbl => first | decide | (law_clear; omega) | omega); (case bbu => first | decide | (law_clear; omega) | omega); k_whole)))
local macro_rules | `(tactic| walk_at "inplaceOp Add float int") => `(tactic| (k_here; (with_reducible refine' Mine.r_iadd_fi ?hx ?bal ?bau ?bbl ?bbu ?_); k_dflt ((case hx => first | with_reducible exact Mine.c_half | with_reducible exact Mine.c_greg | with_reducible exact Mine.c_isl | with_reducible exact Mine.c_cop | with_reducible exact Mine.c_295 | with_reducible exact Mine.c_1524 | with_reducible rfl); (case bal => first | decide | (law_clear; omega) | omega); (case bau => first | decide | (law_clear; omega) | omega); (case bbl => first | decide | (law_clear; omega) | omega); (case bbu => first | decide | (law_clear; omega) | omega); k_whole)))
local macro_rules | `(tactic| walk_at "inplaceOp Sub float int") => `(tactic| (k_here; (with_reducible refine' Mine.r_isub_fi ?hx ?bal ?bau ?bbl ?bbu ?_); k_dflt ((case hx => first | with_reducible exact Mine.c_half | with_reducible exact Mine.c_greg | with_reducible exact Mine.c_isl | with_reducible exact Mine.c_cop | with_reducible exact Mine.c_295 | with_reducible exact Mine.c_1524 | with_reducible rfl); (case bal => first | decide | (law_clear; omega) | omega); (case bau => first | decide | (law_clear; omega) | omega); (case bbl => first | decide | (law_clear; omega) | omega); (case bbu => first | decide | (law_clear; omega) | omega); k_whole)))
local macro_rules | `(tactic| walk_at "binaryOp Sub int float") => `(tactic| (k_here; (with_reducible refine' Mine.r_sub_ic ?hnl ?hnu ?_); k_dflt ((case hnl => first | decide | (law_clear; omega) | omega); (case hnu => first | decide | (law_clear; omega) | omega); k_whole)))
local macro_rules | `(tactic| walk_at "binaryOp Add int float") => `(tactic| (k_here; (with_reducible refine' Mine.r_add_if ?hx ?bal ?bau ?bbl ?bbu ?_); k_dflt ((case hx => first | with_reducible exact Mine.c_half | with_reducible exact Mine.c_greg | with_reducible exact Mine.c_isl | with_reducible exact Mine.c_cop | with_reducible exact Mine.c_295 | with_reducible exact Mine.c_1524 | with_reducible rfl); (case bal => first | decide | (law_clear; omega) | omega); (case bau => first | decide | (law_clear; omega) | omega); (case bbl => first | decide | (law_clear; omega) | omega); (case bbu => first | decide | (law_clear; omega) | omega); k_whole)))
local macro_rules | `(tactic| walk_at "binaryOp Sub int float") => `(tactic| (k_here; (with_reducible refine' Mine.r_sub_if ?hx ?bal ?bau ?bbl ?bbu ?_); k_dflt ((case hx => first | with_reducible exact Mine.c_half | with_reducible exact Mine.c_greg | with_reducible exact Mine.c_isl | with_reducible exact Mine.c_cop | with_reducible exact Mine.c_295 | with_reducible exact Mine.c_1524 | with_reducible rfl); (case bal => first | decide | (law_clear; omega) | omega); (case bau => first | decide | (law_clear; omega) | omega); (case bbl => first | decide | (law_clear; omega) | omega); (case bbu => first | decide | (law_clear; omega) | omega); k_whole)))
local macro_rules | `(tactic| walk_at "binaryOp Mult float int") => `(tactic| (k_here; (with_reducible refine' Mine.r_mul_xi ?hnl ?hnu ?_); k_dflt ((case hnl => first | decide | (law_clear; omega) | omega); (case hnu => first | decide | (law_clear; omega) | omega); k_whole)))
local macro_rules | `(tactic| walk_at "binaryOp Mult float int") => `(tactic| (k_here; (with_reducible refine' Mine.r_mul_ci ?hx ?ha ?ha2 ?bnl ?bnu ?_); k_dflt ((case hx => first | with_reducible exact Mine.c_half | with_reducible exact Mine.c_greg | with_reducible exact Mine.c_isl | with_reducible exact Mine.c_cop | with_reducible exact Mine.c_295 | with_reducible exact Mine.c_1524 | with_reducible rfl); (case ha => decide); (case ha2 => decide); (case bnl => first | decide | (law_clear; omega) | omega); (case bnu => first | decide | (law_clear; omega) | omega); k_whole)))
local macro_rules | `(tactic| walk_at "binaryOp Mult float int") => `(tactic| (k_here; (with_reducible refine' Mine.r_mul_fi ?hx ?hn ?hn2 ?bal ?bau ?_); k_dflt ((case hx => first | with_reducible exact Mine.c_half | with_reducible exact Mine.c_greg | with_reducible exact Mine.c_isl | with_reducible exact Mine.c_cop | with_reducible exact Mine.c_295 | with_reducible exact Mine.c_1524 | with_reducible rfl); (case hn => decide); (case hn2 => decide); (case bal => first | decide | (law_clear; omega) | omega); (case bau => first | decide | (law_clear; omega) | omega); k_whole)))
local macro_rules | `(tactic| walk_at "binaryOp Mult int float") => `(tactic| (k_here; (with_reducible refine' Mine.r_mul_if ?hx ?hn ?hn2 ?bal ?bau ?_); k_dflt ((case hx => first | with_reducible exact Mine.c_half | with_reducible exact Mine.c_greg | with_reducible exact Mine.c_isl | with_reducible exact Mine.c_cop | with_reducible exact Mine.c_295 | with_reducible exact Mine.c_1524 | with_reducible rfl); (case hn => decide); (case hn2 => decide); (case bal => first | decide | (law_clear; omega) | omega); (case bau => first | decide | (law_clear; omega) | omega); k_whole)))
local macro_rules | `(tactic| walk_at "binaryOp Mod float int") => `(tactic| (k_here; (with_reducible refine' Mine.r_mod_q ?hA ?hx ?hn ?hn2 ?bal ?bau ?_); k_dflt ((case hA => exact rfl); (case hx => first | with_reducible exact Mine.c_half | with_reducible exact Mine.c_greg | with_reducible exact Mine.c_isl | with_reducible exact Mine.c_cop | with_reducible exact Mine.c_295 | with_reducible exact Mine.c_1524 | with_reducible rfl); (case hn => decide); (case hn2 => decide); (case bal => first | decide | (law_clear; omega) | omega); (case bau => first | decide | (law_clear; omega) | omega); k_whole); intro r9 hr9 hr0 hr1))
local macro_rules | `(tactic| walk_at "binaryOp Div float int") => `(tactic| (k_here; (with_reducible refine' Mine.r_div_fi ?hA ?hn ?hn2 ?_); k_dflt ((case hA => exact rfl); (case hn => decide); (case hn2 => decide); k_whole)))
local macro_rules | `(tactic| walk_at "binaryOp Div float float") => `(tactic| (k_here; (with_reducible refine' Mine.r_div_fc ?hA ?hz ?_); k_dflt ((case hA => exact rfl); (case hz => decide +kernel); k_whole)))
local macro_rules | `(tactic| walk_at "binaryOp Div float float") => `(tactic| (k_here; (with_reducible refine' Mine.r_div_ff ?hA ?hy ?hb ?hb2 ?_); k_dflt ((case hA => exact rfl); (case hy => first | with_reducible exact Mine.c_half | with_reducible exact Mine.c_greg | with_reducible exact Mine.c_isl | with_reducible exact Mine.c_cop | with_reducible exact Mine.c_295 | with_reducible exact Mine.c_1524 | with_reducible rfl); (case hb => decide); (case hb2 => decide); k_whole)))
local macro_rules | `(tactic| walk_at "binaryOp Div int float") => `(tactic| (k_here; (with_reducible refine' Mine.r_div_ic ?hA ?hnl ?hnu ?hz ?_); k_dflt ((case hA => exact rfl); (case hnl => first | decide | (law_clear; omega) | omega); (case hnu => first | decide | (law_clear; omega) | omega); (case hz => decide +kernel); k_whole)))
local macro_rules | `(tactic| walk_at "binaryOp Div int int") => `(tactic| (k_here; (with_reducible refine' Mine.r_div_ii ?hA ?hb ?hal ?hau ?_); k_dflt ((case hA => exact rfl); (case hb => decide); (case hal => first | decide | (law_clear; omega) | omega); (case hau => first | decide | (law_clear; omega) | omega); k_whole)))
local macro_rules | `(tactic| walk_at "call builtin:math.floor") => `(tactic| (k_here; (with_reducible refine' Mine.r_floor_g ?hA ?hx ?hm0 ?hm1 ?ha0 ?ha1 ?hd0 ?hd1 ?_); k_dflt ((case hA => exact rfl); (case hx => first | with_reducible exact rfl | exact rfl); (case hm0 => first | decide | (law_clear; omega) | omega); (case hm1 => first | decide | (law_clear; omega) | omega); (case ha0 => first | decide | (law_clear; omega) | omega); (case ha1 => first | decide | (law_clear; omega) | omega); (case hd0 => first | decide | (law_clear; omega) | omega); (case hd1 => first | decide | (law_clear; omega) | omega); k_whole); intro q9 hq0))
local macro_rules | `(tactic| walk_at "call builtin:math.floor") => `(tactic| (k_here; (with_reducible refine' Mine.r_floor_jm ?hA ?hx ?b0 ?b1 ?_); k_dflt ((case hA => exact rfl); (case hx => first | with_reducible exact rfl | exact rfl); (case b0 => first | decide | (law_clear; omega) | omega); (case b1 => first | decide | (law_clear; omega) | omega); k_whole); intro q9 hq0))
local macro_rules | `(tactic| walk_at "call builtin:math.floor") => `(tactic| (k_here; (with_reducible refine' Mine.r_floor_je ?hA ?hx ?b0 ?b1 ?_); k_dflt ((case hA => exact rfl); (case hx => first | with_reducible exact rfl | exact rfl); (case b0 => first | decide | (law_clear; omega) | omega); (case b1 => first | decide | (law_clear; omega) | omega); k_whole); intro q9 hq0))
local macro_rules | `(tactic| walk_at "call builtin:math.floor") => `(tactic| (k_here; (with_reducible refine' Mine.r_floor_jd ?hA ?hx ?bnl ?bnu ?_); k_dflt ((case hA => exact rfl); (case hx => first | with_reducible exact rfl | exact rfl); (case bnl => first | decide | (law_clear; omega) | omega); (case bnu => first | decide | (law_clear; omega) | omega); k_whole); intro q9 hq0))
local macro_rules | `(tactic| walk_at "call builtin:math.floor") => `(tactic| (k_here; (with_reducible refine' Mine.r_floor_jc ?hA ?hx ?bnl ?bnu ?_); k_dflt ((case hA => exact rfl); (case hx => first | with_reducible exact rfl | exact rfl); (case bnl => first | decide | (law_clear; omega) | omega); (case bnu => first | decide | (law_clear; omega) | omega); k_whole); intro q9 hq0))
local macro_rules | `(tactic| walk_at "call builtin:math.floor") => `(tactic| (k_here; (with_reducible refine' Mine.r_floor_ii ?hA ?hb ?hb2 ?bal ?bau ?k1 ?k2 ?_); k_dflt ((case hA => exact rfl); (case hb => decide); (case hb2 => decide); (case bal => first | decide | (law_clear; omega) | omega); (case bau => first | decide | (law_clear; omega) | omega); (case k1 => first | decide | (law_clear; omega) | omega); (case k2 => first | decide | (law_clear; omega) | omega); k_whole); intro q9 hq0))
local macro_rules | `(tactic| walk_at "call builtin:math.floor") => `(tactic| (k_here; (with_reducible refine' Mine.r_floor_div ?hA ?hb ?hb2 ?bal ?bau ?k1 ?k2 ?_); k_dflt ((case hA => exact rfl); (case hb => decide); (case hb2 => decide); (case bal => first | decide | (law_clear; omega) | omega); (case bau => first | decide | (law_clear; omega) | omega); (case k1 => first | decide | (law_clear; omega) | omega); (case k2 => first | decide | (law_clear; omega) | omega); k_whole); intro q9 hq0))
local macro_rules | `(tactic| walk_at "call builtin:math.floor") => `(tactic| (k_here; (with_reducible refine' Mine.r_floor_hf ?hA ?bal ?bau ?_); k_dflt ((case hA => exact rfl); (case bal => first | decide | (law_clear; omega) | omega); (case bau => first | decide | (law_clear; omega) | omega); k_whole); intro q9 hq0))
local macro_rules | `(tactic| walk_at "call builtin:math.ceil") => `(tactic| (k_here; (with_reducible refine' Mine.r_ceil_div ?hA ?hb ?hb2 ?bal ?bau ?k1 ?k2 ?_); k_dflt ((case hA => exact rfl); (case hb => decide); (case hb2 => decide); (case bal => first | decide | (law_clear; omega) | omega); (case bau => first | decide | (law_clear; omega) | omega); (case k1 => first | decide | (law_clear; omega) | omega); (case k2 => first | decide | (law_clear; omega) | omega); k_whole); intro q9 hq0 hq1))
local macro_rules | `(tactic| walk_at "call builtin:math.ceil") => `(tactic| (k_here; (with_reducible refine' Mine.r_ceil_hf ?hA ?bal ?bau ?_); k_dflt ((case hA => exact rfl); (case bal => first | decide | (law_clear; omega) | omega); (case bau => first | decide | (law_clear; omega) | omega); k_whole); intro q9 hq0 hq1))
local macro_rules | `(tactic| walk_at "call type:int") => `(tactic| (k_here; (with_reducible refine' Mine.r_trunc_hf ?hA ?bal ?bau ?he ?_); k_dflt ((case hA => exact rfl); (case bal => first | decide | (law_clear; omega) | omega); (case bau => first | decide | (law_clear; omega) | omega); (case he => first | decide | (law_clear; omega) | omega); k_whole); intro q9 hq0))
local macro_rules | `(tactic| walk_at "compareOp Lt float int") => `(tactic| (k_here; (with_reducible refine' Mine.r_lt_fi ?hx ?bal ?bau ?_); k_dflt ((case hx => first | with_reducible exact Mine.c_half | with_reducible exact Mine.c_greg | with_reducible exact Mine.c_isl | with_reducible exact Mine.c_cop | with_reducible exact Mine.c_295 | with_reducible exact Mine.c_1524 | with_reducible rfl); (case bal => first | decide | (law_clear; omega) | omega); (case bau => first | decide | (law_clear; omega) | omega); k_whole)))
local macro_rules | `(tactic| walk_at "compareOp NotEq float float") => `(tactic| (k_here; (with_reducible refine' Mine.r_ne_ff ?hx ?hy ?bal ?bau ?bbl ?bbu ?hab ?_); k_dflt ((case hx => first | with_reducible exact Mine.c_half | with_reducible exact Mine.c_greg | with_reducible exact Mine.c_isl | with_reducible exact Mine.c_cop | with_reducible exact Mine.c_295 | with_reducible exact Mine.c_1524 | with_reducible rfl); (case hy => first | with_reducible exact Mine.c_half | with_reducible exact Mine.c_greg | with_reducible exact Mine.c_isl | with_reducible exact Mine.c_cop | with_reducible exact Mine.c_295 | with_reducible exact Mine.c_1524 | with_reducible rfl); (case bal => first | decide | (law_clear; omega) | omega); (case bau => first | decide | (law_clear; omega) | omega); (case bbl => first | decide | (law_clear; omega) | omega); (case bbu => first | decide | (law_clear; omega) | omega); (case hab => omega); k_whole)))
section
variable {w : World} {p : Program} {loose : List Str} {mean : ExcName → Option Value} {mg mb : Str → Option Value} {dp un : Nat} {gd : Option (List Code)} {cn : Str} {cs : Scope} {a : Addr} {ccd : Value} {cl : List (Str × Addr)} {outer : List Env} {A₀ : Around} {base h₀ : Heap} {L : Addr} {m : Str → Option Value} {news : List (Addr × Obj)} {s : Shared} {Q E : Value → Shared → Prop}
local macro_rules | `(tactic| walk_at "call ref") => `(tactic| (k_here; (with_reducible show wpAny _ _ (call (Value.ref 71) _) _ _ _); k_dflt (refine' Mine.fromjd_g _ _ ?k1 ?k2 ?k3 ?k4 ?k5 ?kK ?kd ?ku ?hn1 ?hn2 ?_; (case k1 => k_asm); (case k2 => k_asm); (case k3 => k_asm); (case k4 => k_asm); (case k5 => k_asm); (case kK => first | exact rfl | assumption); (case kd => (dsimp only [ktrTop]; omega)); (case ku => (dsimp only [ktrTop]; omega)); (case hn1 => first | omega | assumption); (case hn2 => first | omega | assumption); all_goals (intro y9 mo9 d9 g1 g2 g3 g4 g5 g6 g7 g8 D9 u1 u2 u3 c9 h9 tk9 F9 N9 l9; (try simp only [AllLt, and_true] at l9); (try dsimp only); (try k_sweep); (try k_fold)))))
local macro_rules | `(tactic| walk_at "call ref") => `(tactic| (k_here; (with_reducible show wpAny _ _ (call (Value.ref 100) _) _ _ _); k_dflt (refine' Mine.jfromjd_c _ _ ?k1 ?k2 ?k3 ?k4 ?k5 ?kK ?kd ?ku ?hn1 ?hn2 ?_; (case k1 => k_asm); (case k2 => k_asm); (case k3 => k_asm); (case k4 => k_asm); (case k5 => k_asm); (case kK => first | exact rfl | assumption); (case kd => (dsimp only [ktrTop]; omega)); (case ku => (dsimp only [ktrTop]; omega)); (case hn1 => first | omega | assumption); (case hn2 => first | omega | assumption); all_goals (intro y9 mo9 d9 g1 g2 g3 g4 g5 g6 g7 g8 D9 u1 u2 u3 c9 h9 tk9 F9 N9 l9; (try simp only [AllLt, and_true] at l9); (try dsimp only); (try k_sweep); (try k_fold)))))
local macro_rules | `(tactic| walk_at "call ref") => `(tactic| (k_here; (with_reducible show wpAny _ _ (call (Value.ref 135) _) _ _ _); k_dflt (refine' Mine.ifromjd_c _ _ ?k1 ?k2 ?k3 ?k4 ?k5 ?kK ?kd ?ku ?hn1 ?hn2 ?_; (case k1 => k_asm); (case k2 => k_asm); (case k3 => k_asm); (case k4 => k_asm); (case k5 => k_asm); (case kK => first | exact rfl | assumption); (case kd => (dsimp only [ktrTop]; omega)); (case ku => (dsimp only [ktrTop]; omega)); (case hn1 => first | omega | assumption); (case hn2 => first | omega | assumption); all_goals (intro y9 mo9 d9 g1 g2 g3 g4 g5 g6 g7 D9 u1 u2 u3 c9 h9 tk9 F9 N9 l9; (try simp only [AllLt, and_true] at l9); (try dsimp only); (try k_sweep); (try k_fold)))))
local macro_rules | `(tactic| walk_at "call ref") => `(tactic| (k_here; (with_reducible show wpAny _ _ (call (Value.ref 163) _) _ _ _); k_dflt (refine' Mine.cfromjd_c _ _ ?k1 ?k2 ?k3 ?k4 ?k5 ?kK ?kd ?ku ?hn1 ?hn2 ?_; (case k1 => k_asm); (case k2 => k_asm); (case k3 => k_asm); (case k4 => k_asm); (case k5 => k_asm); (case kK => first | exact rfl | assumption); (case kd => (dsimp only [ktrTop]; omega)); (case ku => (dsimp only [ktrTop]; omega)); (case hn1 => first | omega | assumption); (case hn2 => first | omega | assumption); all_goals (intro y9 mo9 d9 g1 g2 g3 g4 g5 g6 D9 u1 u2 u3 c9 h9 tk9 F9 N9 l9; (try simp only [AllLt, and_true] at l9); (try dsimp only); (try k_sweep); (try k_fold)))))
local macro_rules | `(tactic| walk_at "call ref") => `(tactic| (k_here; (with_reducible show wpAny _ _ (call (Value.ref 191) _) _ _ _); k_dflt (refine' Mine.nfromjd_c _ _ ?k1 ?k2 ?k3 ?k4 ?k5 ?kK ?kd ?ku ?hn1 ?hn2 ?_; (case k1 => k_asm); (case k2 => k_asm); (case k3 => k_asm); (case k4 => k_asm); (case k5 => k_asm); (case kK => first | exact rfl | assumption); (case kd => (dsimp only [ktrTop]; omega)); (case ku => (dsimp only [ktrTop]; omega)); (case hn1 => first | omega | assumption); (case hn2 => first | omega | assumption); all_goals (intro y9 mo9 d9 g1 g2 g3 g4 g5 g6 g7 g8 g9 D9 u1 u2 u3 c9 h9 tk9 F9 N9 l9; (try simp only [AllLt, and_true] at l9); (try dsimp only); (try k_sweep); (try k_fold)))))
theorem lawdate_0 (n : Int) (t0 t1 : Tok) (B : Below A₀ base outer h₀) (F : Fr h₀ L s.heap m) (X : (hd.heap_39 w.params).In h₀) (N : News h₀ L s.heap news) (T : Top p loose mean mg mb h₀) (hk : cs.kind = .function)
    (hdp : dp + 12 < recursionLimit) (hun : un + 100 < cLine)
    (hn1 : -5000000000 ≤ n) (hn2 : n ≤ 5000000000)
    (h1 : ∀ y mo d, 1 ≤ mo → mo ≤ 12 → 1 ≤ d → (mo = 2 → d ≤ 28 + lpN y) → (mo = 4 ∨ mo = 6 ∨ mo = 9 ∨ mo = 11 → d ≤ 30) → d ≤ 31 → (mo ≤ 2 → n = 365 * (y - 1) + (y - 1) / 4 - (y - 1) / 100 + (y - 1) / 400 + 1721425 + (367 * mo - 362) / 12 + d) → (2 < mo → n = 365 * (y - 1) + (y - 1) / 4 - (y - 1) / 100 + (y - 1) / 400 + 1721425 + (367 * mo - 362) / 12 + d - 2 + lpN y) → RetT h₀ L m news s Q y mo d) :
    Goes w dp un gd cn cs L a ccd cl outer 238 [.int 0 t0, .float (HF (2 * n - 1)) t1] Q E s := by
  unfold Goes
  revert X; k_fill; intro X
  refine wpAny_call ?_
  k_dflt (refine' code_def (binds := [(Str.ofString "kind", .int 0 t0), (Str.ofString "number", .float (HF (2 * n - 1)) t1)]) ?k1 ?k2 ?k3 ?k4 ?k5 ?kA ?kF ?kK ?k6 ?k7 ?k8 ?k9 ?kB ?_ ?c2 ?c3 ?c4 ?c5; (case kA => exact rfl); (case kF => exact rfl); (case kK => assumption); (case k1 => k_asm); (case k2 => k_asm); (case k3 => k_asm); (case k4 => k_asm); (case k5 => k_asm); (case k6 => k_is); (case k7 => k_is); (case k8 => (dsimp only [ktrTop]; omega)); (case k9 => exact BindsTo.of_eq rfl); (case c5 => decide); (case kB => exact locs rfl); (case c2 => exact rfl); (case c3 => exact rfl); (case c4 => exact rfl); k_whole; intro g' L' h' FG' F' N' B' X' T'; (try dsimp only); (try k_fold))
  k_steps
  all_goals
    refine' h1 _ _ _ ?_ ?_ ?_ ?_ ?_ ?_ ?_ ?_ _ _ _ _ _ _ _ ?F ?N ?l
    (case F => with_reducible assumption)
    (case N => with_reducible assumption)
    (case l => first | with_reducible assumption | exact allLt_of (by with_reducible assumption))
    all_goals assumption
theorem lawdate_1 (n : Int) (t0 t1 : Tok) (B : Below A₀ base outer h₀) (F : Fr h₀ L s.heap m) (X : (hd.heap_39 w.params).In h₀) (N : News h₀ L s.heap news) (T : Top p loose mean mg mb h₀) (hk : cs.kind = .function)
    (hdp : dp + 12 < recursionLimit) (hun : un + 100 < cLine)
    (hn1 : -5000000000 ≤ n) (hn2 : n ≤ 5000000000)
    (h1 : ∀ y mo d, 1 ≤ mo → mo ≤ 12 → 1 ≤ d → (mo = 2 → d ≤ 29 - (y % 4 + 3) / 4) → (mo = 4 ∨ mo = 6 ∨ mo = 9 ∨ mo = 11 → d ≤ 30) → d ≤ 31 → (mo ≤ 2 → n = 365 * (y + 4712) + (y + 4715) / 4 + (367 * mo - 362) / 12 + d - 1) → (2 < mo → n = 365 * (y + 4712) + (y + 4715) / 4 + (367 * mo - 362) / 12 + d - 2 - (y % 4 + 3) / 4) → RetT h₀ L m news s Q y mo d) :
    Goes w dp un gd cn cs L a ccd cl outer 238 [.int 1 t0, .float (HF (2 * n - 1)) t1] Q E s := by
  unfold Goes
  revert X; k_fill; intro X
  refine wpAny_call ?_
  k_dflt (refine' code_def (binds := [(Str.ofString "kind", .int 1 t0), (Str.ofString "number", .float (HF (2 * n - 1)) t1)]) ?k1 ?k2 ?k3 ?k4 ?k5 ?kA ?kF ?kK ?k6 ?k7 ?k8 ?k9 ?kB ?_ ?c2 ?c3 ?c4 ?c5; (case kA => exact rfl); (case kF => exact rfl); (case kK => assumption); (case k1 => k_asm); (case k2 => k_asm); (case k3 => k_asm); (case k4 => k_asm); (case k5 => k_asm); (case k6 => k_is); (case k7 => k_is); (case k8 => (dsimp only [ktrTop]; omega)); (case k9 => exact BindsTo.of_eq rfl); (case c5 => decide); (case kB => exact locs rfl); (case c2 => exact rfl); (case c3 => exact rfl); (case c4 => exact rfl); k_whole; intro g' L' h' FG' F' N' B' X' T'; (try dsimp only); (try k_fold))
  k_steps
  all_goals
    refine' h1 _ _ _ ?_ ?_ ?_ ?_ ?_ ?_ ?_ ?_ _ _ _ _ _ _ _ ?F ?N ?l
    (case F => with_reducible assumption)
    (case N => with_reducible assumption)
    (case l => first | with_reducible assumption | exact allLt_of (by with_reducible assumption))
    all_goals assumption
theorem lawdate_2 (n : Int) (t0 t1 : Tok) (B : Below A₀ base outer h₀) (F : Fr h₀ L s.heap m) (X : (hd.heap_39 w.params).In h₀) (N : News h₀ L s.heap news) (T : Top p loose mean mg mb h₀) (hk : cs.kind = .function)
    (hdp : dp + 12 < recursionLimit) (hun : un + 100 < cLine)
    (hn1 : -5000000000 ≤ n) (hn2 : n ≤ 5000000000)
    (h1 : ∀ y mo d, 1 ≤ mo → mo ≤ 12 → 1 ≤ d → d ≤ 30 → (mo % 2 = 0 → mo < 12 → d ≤ 29) → (mo = 12 → d ≤ 29 + (14 + 11 * y) / 30 - (3 + 11 * y) / 30) → n = d + (59 * (mo - 1) + 1) / 2 + 354 * (y - 1) + (3 + 11 * y) / 30 + 1948439 → RetT h₀ L m news s Q y mo d) :
    Goes w dp un gd cn cs L a ccd cl outer 238 [.int 2 t0, .float (HF (2 * n - 1)) t1] Q E s := by
  unfold Goes
  revert X; k_fill; intro X
  refine wpAny_call ?_
  k_dflt (refine' code_def (binds := [(Str.ofString "kind", .int 2 t0), (Str.ofString "number", .float (HF (2 * n - 1)) t1)]) ?k1 ?k2 ?k3 ?k4 ?k5 ?kA ?kF ?kK ?k6 ?k7 ?k8 ?k9 ?kB ?_ ?c2 ?c3 ?c4 ?c5; (case kA => exact rfl); (case kF => exact rfl); (case kK => assumption); (case k1 => k_asm); (case k2 => k_asm); (case k3 => k_asm); (case k4 => k_asm); (case k5 => k_asm); (case k6 => k_is); (case k7 => k_is); (case k8 => (dsimp only [ktrTop]; omega)); (case k9 => exact BindsTo.of_eq rfl); (case c5 => decide); (case kB => exact locs rfl); (case c2 => exact rfl); (case c3 => exact rfl); (case c4 => exact rfl); k_whole; intro g' L' h' FG' F' N' B' X' T'; (try dsimp only); (try k_fold))
  k_steps
  all_goals
    refine' h1 _ _ _ ?_ ?_ ?_ ?_ ?_ ?_ ?_ _ _ _ _ _ _ _ ?F ?N ?l
    (case F => with_reducible assumption)
    (case N => with_reducible assumption)
    (case l => first | with_reducible assumption | exact allLt_of (by with_reducible assumption))
    all_goals assumption
theorem lawdate_3 (n : Int) (t0 t1 : Tok) (B : Below A₀ base outer h₀) (F : Fr h₀ L s.heap m) (X : (hd.heap_39 w.params).In h₀) (N : News h₀ L s.heap news) (T : Top p loose mean mg mb h₀) (hk : cs.kind = .function)
    (hdp : dp + 12 < recursionLimit) (hun : un + 100 < cLine)
    (hn1 : -5000000000 ≤ n) (hn2 : n ≤ 5000000000)
    (h1 : ∀ y mo d, 1 ≤ mo → mo ≤ 13 → 1 ≤ d → d ≤ 30 → (mo = 13 → d ≤ 5 + (y + 1) / 4 - y / 4) → n = d + 30 * (mo - 1) + 365 * (y - 1) + y / 4 + 1825029 → RetT h₀ L m news s Q y mo d) :
    Goes w dp un gd cn cs L a ccd cl outer 238 [.int 3 t0, .float (HF (2 * n - 1)) t1] Q E s := by
  unfold Goes
  revert X; k_fill; intro X
  refine wpAny_call ?_
  k_dflt (refine' code_def (binds := [(Str.ofString "kind", .int 3 t0), (Str.ofString "number", .float (HF (2 * n - 1)) t1)]) ?k1 ?k2 ?k3 ?k4 ?k5 ?kA ?kF ?kK ?k6 ?k7 ?k8 ?k9 ?kB ?_ ?c2 ?c3 ?c4 ?c5; (case kA => exact rfl); (case kF => exact rfl); (case kK => assumption); (case k1 => k_asm); (case k2 => k_asm); (case k3 => k_asm); (case k4 => k_asm); (case k5 => k_asm); (case k6 => k_is); (case k7 => k_is); (case k8 => (dsimp only [ktrTop]; omega)); (case k9 => exact BindsTo.of_eq rfl); (case c5 => decide); (case kB => exact locs rfl); (case c2 => exact rfl); (case c3 => exact rfl); (case c4 => exact rfl); k_whole; intro g' L' h' FG' F' N' B' X' T'; (try dsimp only); (try k_fold))
  k_steps
  all_goals
    refine' h1 _ _ _ ?_ ?_ ?_ ?_ ?_ ?_ _ _ _ _ _ _ _ ?F ?N ?l
    (case F => with_reducible assumption)
    (case N => with_reducible assumption)
    (case l => first | with_reducible assumption | exact allLt_of (by with_reducible assumption))
    all_goals assumption
theorem lawdate_4 (n : Int) (t0 t1 : Tok) (B : Below A₀ base outer h₀) (F : Fr h₀ L s.heap m) (X : (hd.heap_39 w.params).In h₀) (N : News h₀ L s.heap news) (T : Top p loose mean mg mb h₀) (hk : cs.kind = .function)
    (hdp : dp + 12 < recursionLimit) (hun : un + 100 < cLine)
    (hn1 : -5000000000 ≤ n) (hn2 : n ≤ 5000000000)
    (h1 : ∀ y mo d, 1 ≤ mo → mo ≤ 12 → 1 ≤ d → d ≤ 31 → (mo = 1 → d ≤ 30 + lpN (y + 78)) → (7 ≤ mo → d ≤ 30) → (mo = 1 → n = 365 * (y + 78 - 1) + (y + 78 - 1) / 4 - (y + 78 - 1) / 100 + (y + 78 - 1) / 400 + 1721425 + 80 + d) → (2 ≤ mo → mo ≤ 6 → n = 365 * (y + 78 - 1) + (y + 78 - 1) / 4 - (y + 78 - 1) / 100 + (y + 78 - 1) / 400 + 1721425 + 110 + lpN (y + 78) + 31 * (mo - 2) + d) → (7 ≤ mo → n = 365 * (y + 78 - 1) + (y + 78 - 1) / 4 - (y + 78 - 1) / 100 + (y + 78 - 1) / 400 + 1721425 + 265 + lpN (y + 78) + 30 * (mo - 7) + d) → RetT h₀ L m news s Q y mo d) :
    Goes w dp un gd cn cs L a ccd cl outer 238 [.int 4 t0, .float (HF (2 * n - 1)) t1] Q E s := by
  unfold Goes
  revert X; k_fill; intro X
  refine wpAny_call ?_
  k_dflt (refine' code_def (binds := [(Str.ofString "kind", .int 4 t0), (Str.ofString "number", .float (HF (2 * n - 1)) t1)]) ?k1 ?k2 ?k3 ?k4 ?k5 ?kA ?kF ?kK ?k6 ?k7 ?k8 ?k9 ?kB ?_ ?c2 ?c3 ?c4 ?c5; (case kA => exact rfl); (case kF => exact rfl); (case kK => assumption); (case k1 => k_asm); (case k2 => k_asm); (case k3 => k_asm); (case k4 => k_asm); (case k5 => k_asm); (case k6 => k_is); (case k7 => k_is); (case k8 => (dsimp only [ktrTop]; omega)); (case k9 => exact BindsTo.of_eq rfl); (case c5 => decide); (case kB => exact locs rfl); (case c2 => exact rfl); (case c3 => exact rfl); (case c4 => exact rfl); k_whole; intro g' L' h' FG' F' N' B' X' T'; (try dsimp only); (try k_fold))
  k_steps
  all_goals
    refine' h1 _ _ _ ?_ ?_ ?_ ?_ ?_ ?_ ?_ ?_ ?_ _ _ _ _ _ _ _ ?F ?N ?l
    (case F => with_reducible assumption)
    (case N => with_reducible assumption)
    (case l => first | with_reducible assumption | exact allLt_of (by with_reducible assumption))
    all_goals assumption
local macro_rules | `(tactic| walk_at "call ref") => `(tactic| (k_here; (with_reducible show wpAny _ _ (call (Value.ref 64) _) _ _ _); k_dflt (refine' Mine.tojd_n _ _ _ _ _ _ _ ?k1 ?k2 ?k3 ?k4 ?k5 ?kK ?kd ?ku ?e7 ?e8 ?e1 ?e2 ?e3 ?e4 ?e5 ?e6 ?hn1 ?hn2 ?_; (case k1 => k_asm); (case k2 => k_asm); (case k3 => k_asm); (case k4 => k_asm); (case k5 => k_asm); (case kK => first | exact rfl | assumption); (case kd => (dsimp only [ktrTop]; omega)); (case ku => (dsimp only [ktrTop]; omega)); (case e7 => first | assumption | omega); (case e8 => first | assumption | omega); (case e1 => first | assumption | omega); (case e2 => first | assumption | omega); (case e3 => first | assumption | omega); (case e4 => first | assumption | omega); (case e5 => first | assumption | omega); (case e6 => first | assumption | omega); (case hn1 => first | assumption | omega); (case hn2 => first | assumption | omega); all_goals (intro t9 h9 tk9 F9 N9; (try simp only [AllLt, and_true] at l9); (try dsimp only); (try k_sweep); (try k_fold)))))
local macro_rules | `(tactic| walk_at "call ref") => `(tactic| (k_here; (with_reducible show wpAny _ _ (call (Value.ref 107) _) _ _ _); k_dflt (refine' Mine.jtojd_n _ _ _ _ _ _ _ ?k1 ?k2 ?k3 ?k4 ?k5 ?kK ?kd ?ku ?e7 ?e8 ?e1 ?e2 ?e3 ?e4 ?e5 ?e6 ?hn1 ?hn2 ?_; (case k1 => k_asm); (case k2 => k_asm); (case k3 => k_asm); (case k4 => k_asm); (case k5 => k_asm); (case kK => first | exact rfl | assumption); (case kd => (dsimp only [ktrTop]; omega)); (case ku => (dsimp only [ktrTop]; omega)); (case e7 => first | assumption | omega); (case e8 => first | assumption | omega); (case e1 => first | assumption | omega); (case e2 => first | assumption | omega); (case e3 => first | assumption | omega); (case e4 => first | assumption | omega); (case e5 => first | assumption | omega); (case e6 => first | assumption | omega); (case hn1 => first | assumption | omega); (case hn2 => first | assumption | omega); all_goals (intro t9 h9 tk9 F9 N9; (try simp only [AllLt, and_true] at l9); (try dsimp only); (try k_sweep); (try k_fold)))))
local macro_rules | `(tactic| walk_at "call ref") => `(tactic| (k_here; (with_reducible show wpAny _ _ (call (Value.ref 128) _) _ _ _); k_dflt (refine' Mine.itojd_n _ _ _ _ _ _ _ ?k1 ?k2 ?k3 ?k4 ?k5 ?kK ?kd ?ku ?e7 ?e1 ?e2 ?e3 ?e4 ?e5 ?e6 ?hn1 ?hn2 ?_; (case k1 => k_asm); (case k2 => k_asm); (case k3 => k_asm); (case k4 => k_asm); (case k5 => k_asm); (case kK => first | exact rfl | assumption); (case kd => (dsimp only [ktrTop]; omega)); (case ku => (dsimp only [ktrTop]; omega)); (case e7 => first | assumption | omega); (case e1 => first | assumption | omega); (case e2 => first | assumption | omega); (case e3 => first | assumption | omega); (case e4 => first | assumption | omega); (case e5 => first | assumption | omega); (case e6 => first | assumption | omega); (case hn1 => first | assumption | omega); (case hn2 => first | assumption | omega); all_goals (intro t9 h9 tk9 F9 N9; (try simp only [AllLt, and_true] at l9); (try dsimp only); (try k_sweep); (try k_fold)))))
local macro_rules | `(tactic| walk_at "call ref") => `(tactic| (k_here; (with_reducible show wpAny _ _ (call (Value.ref 156) _) _ _ _); k_dflt (refine' Mine.ctojd_n _ _ _ _ _ _ _ ?k1 ?k2 ?k3 ?k4 ?k5 ?kK ?kd ?ku ?e7 ?e1 ?e2 ?e3 ?e4 ?e5 ?hn1 ?hn2 ?_; (case k1 => k_asm); (case k2 => k_asm); (case k3 => k_asm); (case k4 => k_asm); (case k5 => k_asm); (case kK => first | exact rfl | assumption); (case kd => (dsimp only [ktrTop]; omega)); (case ku => (dsimp only [ktrTop]; omega)); (case e7 => first | assumption | omega); (case e1 => first | assumption | omega); (case e2 => first | assumption | omega); (case e3 => first | assumption | omega); (case e4 => first | assumption | omega); (case e5 => first | assumption | omega); (case hn1 => first | assumption | omega); (case hn2 => first | assumption | omega); all_goals (intro t9 h9 tk9 F9 N9; (try simp only [AllLt, and_true] at l9); (try dsimp only); (try k_sweep); (try k_fold)))))
local macro_rules | `(tactic| walk_at "call ref") => `(tactic| (k_here; (with_reducible show wpAny _ _ (call (Value.ref 184) _) _ _ _); k_dflt (refine' Mine.ntojd_n _ _ _ _ _ _ _ ?k1 ?k2 ?k3 ?k4 ?k5 ?kK ?kd ?ku ?e7 ?e8 ?e9 ?e1 ?e2 ?e3 ?e4 ?e5 ?e6 ?hn1 ?hn2 ?_; (case k1 => k_asm); (case k2 => k_asm); (case k3 => k_asm); (case k4 => k_asm); (case k5 => k_asm); (case kK => first | exact rfl | assumption); (case kd => (dsimp only [ktrTop]; omega)); (case ku => (dsimp only [ktrTop]; omega)); (case e7 => first | assumption | omega); (case e8 => first | assumption | omega); (case e9 => first | assumption | omega); (case e1 => first | assumption | omega); (case e2 => first | assumption | omega); (case e3 => first | assumption | omega); (case e4 => first | assumption | omega); (case e5 => first | assumption | omega); (case e6 => first | assumption | omega); (case hn1 => first | assumption | omega); (case hn2 => first | assumption | omega); all_goals (intro t9 h9 tk9 F9 N9; (try simp only [AllLt, and_true] at l9); (try dsimp only); (try k_sweep); (try k_fold)))))
theorem lawback_0 (n y mo d : Int) (t0 t1 t2 t3 : Tok) (B : Below A₀ base outer h₀) (F : Fr h₀ L s.heap m) (X : (hd.heap_39 w.params).In h₀) (N : News h₀ L s.heap news) (T : Top p loose mean mg mb h₀) (hk : cs.kind = .function)
    (hdp : dp + 12 < recursionLimit) (hun : un + 100 < cLine)
    (e7 : mo ≤ 2 → n = 365 * (y - 1) + (y - 1) / 4 - (y - 1) / 100 + (y - 1) / 400 + 1721425 + (367 * mo - 362) / 12 + d) (e8 : 2 < mo → n = 365 * (y - 1) + (y - 1) / 4 - (y - 1) / 100 + (y - 1) / 400 + 1721425 + (367 * mo - 362) / 12 + d - 2 + lpN y) (e1 : 1 ≤ mo) (e2 : mo ≤ 12) (e3 : 1 ≤ d) (e4 : mo = 2 → d ≤ 28 + lpN y) (e5 : mo = 4 ∨ mo = 6 ∨ mo = 9 ∨ mo = 11 → d ≤ 30) (e6 : d ≤ 31) (hn1 : -5000000000 ≤ n) (hn2 : n ≤ 5000000000)
    (h1 : RetV h₀ L m news s Q fun t => .float (HF (2 * n - 1)) t) :
    Goes w dp un gd cn cs L a ccd cl outer 245 [.int 0 t0, .int y t1, .int mo t2, .int d t3] Q E s := by
  unfold Goes
  revert X; k_fill; intro X
  refine wpAny_call ?_
  k_dflt (refine' code_def (binds := [(Str.ofString "kind", .int 0 t0), (Str.ofString "year", .int y t1), (Str.ofString "month", .int mo t2), (Str.ofString "day", .int d t3)]) ?k1 ?k2 ?k3 ?k4 ?k5 ?kA ?kF ?kK ?k6 ?k7 ?k8 ?k9 ?kB ?_ ?c2 ?c3 ?c4 ?c5; (case kA => exact rfl); (case kF => exact rfl); (case kK => assumption); (case k1 => k_asm); (case k2 => k_asm); (case k3 => k_asm); (case k4 => k_asm); (case k5 => k_asm); (case k6 => k_is); (case k7 => k_is); (case k8 => (dsimp only [ktrTop]; omega)); (case k9 => exact BindsTo.of_eq rfl); (case c5 => decide); (case kB => exact locs rfl); (case c2 => exact rfl); (case c3 => exact rfl); (case c4 => exact rfl); k_whole; intro g' L' h' FG' F' N' B' X' T'; (try dsimp only); (try k_fold))
  k_steps
  all_goals exact h1 _ _ _ (by k_asm) (by k_asm)
theorem lawback_1 (n y mo d : Int) (t0 t1 t2 t3 : Tok) (B : Below A₀ base outer h₀) (F : Fr h₀ L s.heap m) (X : (hd.heap_39 w.params).In h₀) (N : News h₀ L s.heap news) (T : Top p loose mean mg mb h₀) (hk : cs.kind = .function)
    (hdp : dp + 12 < recursionLimit) (hun : un + 100 < cLine)
    (e7 : mo ≤ 2 → n = 365 * (y + 4712) + (y + 4715) / 4 + (367 * mo - 362) / 12 + d - 1) (e8 : 2 < mo → n = 365 * (y + 4712) + (y + 4715) / 4 + (367 * mo - 362) / 12 + d - 2 - (y % 4 + 3) / 4) (e1 : 1 ≤ mo) (e2 : mo ≤ 12) (e3 : 1 ≤ d) (e4 : mo = 2 → d ≤ 29 - (y % 4 + 3) / 4) (e5 : mo = 4 ∨ mo = 6 ∨ mo = 9 ∨ mo = 11 → d ≤ 30) (e6 : d ≤ 31) (hn1 : -5000000000 ≤ n) (hn2 : n ≤ 5000000000)
    (h1 : RetV h₀ L m news s Q fun t => .float (HF (2 * n - 1)) t) :
    Goes w dp un gd cn cs L a ccd cl outer 245 [.int 1 t0, .int y t1, .int mo t2, .int d t3] Q E s := by
  unfold Goes
  revert X; k_fill; intro X
  refine wpAny_call ?_
  k_dflt (refine' code_def (binds := [(Str.ofString "kind", .int 1 t0), (Str.ofString "year", .int y t1), (Str.ofString "month", .int mo t2), (Str.ofString "day", .int d t3)]) ?k1 ?k2 ?k3 ?k4 ?k5 ?kA ?kF ?kK ?k6 ?k7 ?k8 ?k9 ?kB ?_ ?c2 ?c3 ?c4 ?c5; (case kA => exact rfl); (case kF => exact rfl); (case kK => assumption); (case k1 => k_asm); (case k2 => k_asm); (case k3 => k_asm); (case k4 => k_asm); (case k5 => k_asm); (case k6 => k_is); (case k7 => k_is); (case k8 => (dsimp only [ktrTop]; omega)); (case k9 => exact BindsTo.of_eq rfl); (case c5 => decide); (case kB => exact locs rfl); (case c2 => exact rfl); (case c3 => exact rfl); (case c4 => exact rfl); k_whole; intro g' L' h' FG' F' N' B' X' T'; (try dsimp only); (try k_fold))
  k_steps
  all_goals exact h1 _ _ _ (by k_asm) (by k_asm)
theorem lawback_2 (n y mo d : Int) (t0 t1 t2 t3 : Tok) (B : Below A₀ base outer h₀) (F : Fr h₀ L s.heap m) (X : (hd.heap_39 w.params).In h₀) (N : News h₀ L s.heap news) (T : Top p loose mean mg mb h₀) (hk : cs.kind = .function)
    (hdp : dp + 12 < recursionLimit) (hun : un + 100 < cLine)
    (e7 : n = d + (59 * (mo - 1) + 1) / 2 + 354 * (y - 1) + (3 + 11 * y) / 30 + 1948439) (e1 : 1 ≤ mo) (e2 : mo ≤ 12) (e3 : 1 ≤ d) (e4 : d ≤ 30) (e5 : mo % 2 = 0 → mo < 12 → d ≤ 29) (e6 : mo = 12 → d ≤ 29 + (14 + 11 * y) / 30 - (3 + 11 * y) / 30) (hn1 : -5000000000 ≤ n) (hn2 : n ≤ 5000000000)
    (h1 : RetV h₀ L m news s Q fun t => .float (HF (2 * n - 1)) t) :
    Goes w dp un gd cn cs L a ccd cl outer 245 [.int 2 t0, .int y t1, .int mo t2, .int d t3] Q E s := by
  unfold Goes
  revert X; k_fill; intro X
  refine wpAny_call ?_
  k_dflt (refine' code_def (binds := [(Str.ofString "kind", .int 2 t0), (Str.ofString "year", .int y t1), (Str.ofString "month", .int mo t2), (Str.ofString "day", .int d t3)]) ?k1 ?k2 ?k3 ?k4 ?k5 ?kA ?kF ?kK ?k6 ?k7 ?k8 ?k9 ?kB ?_ ?c2 ?c3 ?c4 ?c5; (case kA => exact rfl); (case kF => exact rfl); (case kK => assumption); (case k1 => k_asm); (case k2 => k_asm); (case k3 => k_asm); (case k4 => k_asm); (case k5 => k_asm); (case k6 => k_is); (case k7 => k_is); (case k8 => (dsimp only [ktrTop]; omega)); (case k9 => exact BindsTo.of_eq rfl); (case c5 => decide); (case kB => exact locs rfl); (case c2 => exact rfl); (case c3 => exact rfl); (case c4 => exact rfl); k_whole; intro g' L' h' FG' F' N' B' X' T'; (try dsimp only); (try k_fold))
  k_steps
  all_goals exact h1 _ _ _ (by k_asm) (by k_asm)
theorem lawback_3 (n y mo d : Int) (t0 t1 t2 t3 : Tok) (B : Below A₀ base outer h₀) (F : Fr h₀ L s.heap m) (X : (hd.heap_39 w.params).In h₀) (N : News h₀ L s.heap news) (T : Top p loose mean mg mb h₀) (hk : cs.kind = .function)
    (hdp : dp + 12 < recursionLimit) (hun : un + 100 < cLine)
    (e7 : n = d + 30 * (mo - 1) + 365 * (y - 1) + y / 4 + 1825029) (e1 : 1 ≤ mo) (e2 : mo ≤ 13) (e3 : 1 ≤ d) (e4 : d ≤ 30) (e5 : mo = 13 → d ≤ 5 + (y + 1) / 4 - y / 4) (hn1 : -5000000000 ≤ n) (hn2 : n ≤ 5000000000)
    (h1 : RetV h₀ L m news s Q fun t => .float (HF (2 * n - 1)) t) :
    Goes w dp un gd cn cs L a ccd cl outer 245 [.int 3 t0, .int y t1, .int mo t2, .int d t3] Q E s := by
  unfold Goes
  revert X; k_fill; intro X
  refine wpAny_call ?_
  k_dflt (refine' code_def (binds := [(Str.ofString "kind", .int 3 t0), (Str.ofString "year", .int y t1), (Str.ofString "month", .int mo t2), (Str.ofString "day", .int d t3)]) ?k1 ?k2 ?k3 ?k4 ?k5 ?kA ?kF ?kK ?k6 ?k7 ?k8 ?k9 ?kB ?_ ?c2 ?c3 ?c4 ?c5; (case kA => exact rfl); (case kF => exact rfl); (case kK => assumption); (case k1 => k_asm); (case k2 => k_asm); (case k3 => k_asm); (case k4 => k_asm); (case k5 => k_asm); (case k6 => k_is); (case k7 => k_is); (case k8 => (dsimp only [ktrTop]; omega)); (case k9 => exact BindsTo.of_eq rfl); (case c5 => decide); (case kB => exact locs rfl); (case c2 => exact rfl); (case c3 => exact rfl); (case c4 => exact rfl); k_whole; intro g' L' h' FG' F' N' B' X' T'; (try dsimp only); (try k_fold))
  k_steps
  all_goals exact h1 _ _ _ (by k_asm) (by k_asm)
theorem lawback_4 (n y mo d : Int) (t0 t1 t2 t3 : Tok) (B : Below A₀ base outer h₀) (F : Fr h₀ L s.heap m) (X : (hd.heap_39 w.params).In h₀) (N : News h₀ L s.heap news) (T : Top p loose mean mg mb h₀) (hk : cs.kind = .function)
    (hdp : dp + 12 < recursionLimit) (hun : un + 100 < cLine)
    (e7 : mo = 1 → n = 365 * (y + 78 - 1) + (y + 78 - 1) / 4 - (y + 78 - 1) / 100 + (y + 78 - 1) / 400 + 1721425 + 80 + d) (e8 : 2 ≤ mo → mo ≤ 6 → n = 365 * (y + 78 - 1) + (y + 78 - 1) / 4 - (y + 78 - 1) / 100 + (y + 78 - 1) / 400 + 1721425 + 110 + lpN (y + 78) + 31 * (mo - 2) + d) (e9 : 7 ≤ mo → n = 365 * (y + 78 - 1) + (y + 78 - 1) / 4 - (y + 78 - 1) / 100 + (y + 78 - 1) / 400 + 1721425 + 265 + lpN (y + 78) + 30 * (mo - 7) + d) (e1 : 1 ≤ mo) (e2 : mo ≤ 12) (e3 : 1 ≤ d) (e4 : d ≤ 31) (e5 : mo = 1 → d ≤ 30 + lpN (y + 78)) (e6 : 7 ≤ mo → d ≤ 30) (hn1 : -5000000000 ≤ n) (hn2 : n ≤ 5000000000)
    (h1 : RetV h₀ L m news s Q fun t => .float (HF (2 * n - 1)) t) :
    Goes w dp un gd cn cs L a ccd cl outer 245 [.int 4 t0, .int y t1, .int mo t2, .int d t3] Q E s := by
  unfold Goes
  revert X; k_fill; intro X
  refine wpAny_call ?_
  k_dflt (refine' code_def (binds := [(Str.ofString "kind", .int 4 t0), (Str.ofString "year", .int y t1), (Str.ofString "month", .int mo t2), (Str.ofString "day", .int d t3)]) ?k1 ?k2 ?k3 ?k4 ?k5 ?kA ?kF ?kK ?k6 ?k7 ?k8 ?k9 ?kB ?_ ?c2 ?c3 ?c4 ?c5; (case kA => exact rfl); (case kF => exact rfl); (case kK => assumption); (case k1 => k_asm); (case k2 => k_asm); (case k3 => k_asm); (case k4 => k_asm); (case k5 => k_asm); (case k6 => k_is); (case k7 => k_is); (case k8 => (dsimp only [ktrTop]; omega)); (case k9 => exact BindsTo.of_eq rfl); (case c5 => decide); (case kB => exact locs rfl); (case c2 => exact rfl); (case c3 => exact rfl); (case c4 => exact rfl); k_whole; intro g' L' h' FG' F' N' B' X' T'; (try dsimp only); (try k_fold))
  k_steps
  all_goals exact h1 _ _ _ (by k_asm) (by k_asm)
local macro_rules | `(tactic| walk_at "call ref") => `(tactic| (k_here; (with_reducible show wpAny _ _ (call (Value.ref 114) _) _ _ _); k_dflt (refine' Mine.fgj_c _ _ _ _ _ _ _ ?k1 ?k2 ?k3 ?k4 ?k5 ?kK ?kd ?ku ?e7 ?e8 ?e1 ?e2 ?e3 ?e4 ?e5 ?e6 ?hn1 ?hn2 ?_; (case k1 => k_asm); (case k2 => k_asm); (case k3 => k_asm); (case k4 => k_asm); (case k5 => k_asm); (case kK => first | exact rfl | assumption); (case kd => (dsimp only [ktrTop]; omega)); (case ku => (dsimp only [ktrTop]; omega)); (case e7 => first | assumption | omega); (case e8 => first | assumption | omega); (case e1 => first | assumption | omega); (case e2 => first | assumption | omega); (case e3 => first | assumption | omega); (case e4 => first | assumption | omega); (case e5 => first | assumption | omega); (case e6 => first | assumption | omega); (case hn1 => first | assumption | omega); (case hn2 => first | assumption | omega); all_goals (intro y9 mo9 d9 g1 g2 g3 g4 g5 g6 g7 g8 D9 u1 u2 u3 c9 h9 tk9 F9 N9 l9; (try simp only [AllLt, and_true] at l9); (try dsimp only); (try k_sweep); (try k_fold)))))
local macro_rules | `(tactic| walk_at "call ref") => `(tactic| (k_here; (with_reducible show wpAny _ _ (call (Value.ref 142) _) _ _ _); k_dflt (refine' Mine.fgi_c _ _ _ _ _ _ _ ?k1 ?k2 ?k3 ?k4 ?k5 ?kK ?kd ?ku ?e7 ?e8 ?e1 ?e2 ?e3 ?e4 ?e5 ?e6 ?hn1 ?hn2 ?_; (case k1 => k_asm); (case k2 => k_asm); (case k3 => k_asm); (case k4 => k_asm); (case k5 => k_asm); (case kK => first | exact rfl | assumption); (case kd => (dsimp only [ktrTop]; omega)); (case ku => (dsimp only [ktrTop]; omega)); (case e7 => first | assumption | omega); (case e8 => first | assumption | omega); (case e1 => first | assumption | omega); (case e2 => first | assumption | omega); (case e3 => first | assumption | omega); (case e4 => first | assumption | omega); (case e5 => first | assumption | omega); (case e6 => first | assumption | omega); (case hn1 => first | assumption | omega); (case hn2 => first | assumption | omega); all_goals (intro y9 mo9 d9 g1 g2 g3 g4 g5 g6 g7 D9 u1 u2 u3 c9 h9 tk9 F9 N9 l9; (try simp only [AllLt, and_true] at l9); (try dsimp only); (try k_sweep); (try k_fold)))))
local macro_rules | `(tactic| walk_at "call ref") => `(tactic| (k_here; (with_reducible show wpAny _ _ (call (Value.ref 177) _) _ _ _); k_dflt (refine' Mine.fgc_c _ _ _ _ _ _ _ ?k1 ?k2 ?k3 ?k4 ?k5 ?kK ?kd ?ku ?e7 ?e8 ?e1 ?e2 ?e3 ?e4 ?e5 ?e6 ?hn1 ?hn2 ?_; (case k1 => k_asm); (case k2 => k_asm); (case k3 => k_asm); (case k4 => k_asm); (case k5 => k_asm); (case kK => first | exact rfl | assumption); (case kd => (dsimp only [ktrTop]; omega)); (case ku => (dsimp only [ktrTop]; omega)); (case e7 => first | assumption | omega); (case e8 => first | assumption | omega); (case e1 => first | assumption | omega); (case e2 => first | assumption | omega); (case e3 => first | assumption | omega); (case e4 => first | assumption | omega); (case e5 => first | assumption | omega); (case e6 => first | assumption | omega); (case hn1 => first | assumption | omega); (case hn2 => first | assumption | omega); all_goals (intro y9 mo9 d9 g1 g2 g3 g4 g5 g6 D9 u1 u2 u3 c9 h9 tk9 F9 N9 l9; (try simp only [AllLt, and_true] at l9); (try dsimp only); (try k_sweep); (try k_fold)))))
local macro_rules | `(tactic| walk_at "call ref") => `(tactic| (k_here; (with_reducible show wpAny _ _ (call (Value.ref 198) _) _ _ _); k_dflt (refine' Mine.fgn_c _ _ _ _ _ _ _ ?k1 ?k2 ?k3 ?k4 ?k5 ?kK ?kd ?ku ?e7 ?e8 ?e1 ?e2 ?e3 ?e4 ?e5 ?e6 ?hn1 ?hn2 ?_; (case k1 => k_asm); (case k2 => k_asm); (case k3 => k_asm); (case k4 => k_asm); (case k5 => k_asm); (case kK => first | exact rfl | assumption); (case kd => (dsimp only [ktrTop]; omega)); (case ku => (dsimp only [ktrTop]; omega)); (case e7 => first | assumption | omega); (case e8 => first | assumption | omega); (case e1 => first | assumption | omega); (case e2 => first | assumption | omega); (case e3 => first | assumption | omega); (case e4 => first | assumption | omega); (case e5 => first | assumption | omega); (case e6 => first | assumption | omega); (case hn1 => first | assumption | omega); (case hn2 => first | assumption | omega); all_goals (intro y9 mo9 d9 g1 g2 g3 g4 g5 g6 g7 g8 g9 D9 u1 u2 u3 c9 h9 tk9 F9 N9 l9; (try simp only [AllLt, and_true] at l9); (try dsimp only); (try k_sweep); (try k_fold)))))
theorem lawfg_1 (n y mo d : Int) (t0 t1 t2 t3 : Tok) (B : Below A₀ base outer h₀) (F : Fr h₀ L s.heap m) (X : (hd.heap_39 w.params).In h₀) (N : News h₀ L s.heap news) (T : Top p loose mean mg mb h₀) (hk : cs.kind = .function)
    (hdp : dp + 15 < recursionLimit) (hun : un + 130 < cLine)
    (e7 : mo ≤ 2 → n = 365 * (y - 1) + (y - 1) / 4 - (y - 1) / 100 + (y - 1) / 400 + 1721425 + (367 * mo - 362) / 12 + d) (e8 : 2 < mo → n = 365 * (y - 1) + (y - 1) / 4 - (y - 1) / 100 + (y - 1) / 400 + 1721425 + (367 * mo - 362) / 12 + d - 2 + lpN y) (e1 : 1 ≤ mo) (e2 : mo ≤ 12) (e3 : 1 ≤ d) (e4 : mo = 2 → d ≤ 28 + lpN y) (e5 : mo = 4 ∨ mo = 6 ∨ mo = 9 ∨ mo = 11 → d ≤ 30) (e6 : d ≤ 31) (hn1 : -5000000000 ≤ n) (hn2 : n ≤ 5000000000)
    (h1 : ∀ y mo d, 1 ≤ mo → mo ≤ 12 → 1 ≤ d → (mo = 2 → d ≤ 29 - (y % 4 + 3) / 4) → (mo = 4 ∨ mo = 6 ∨ mo = 9 ∨ mo = 11 → d ≤ 30) → d ≤ 31 → (mo ≤ 2 → n = 365 * (y + 4712) + (y + 4715) / 4 + (367 * mo - 362) / 12 + d - 1) → (2 < mo → n = 365 * (y + 4712) + (y + 4715) / 4 + (367 * mo - 362) / 12 + d - 2 - (y % 4 + 3) / 4) → RetT h₀ L m news s Q y mo d) :
    Goes w dp un gd cn cs L a ccd cl outer 252 [.int 1 t0, .int y t1, .int mo t2, .int d t3] Q E s := by
  unfold Goes
  revert X; k_fill; intro X
  refine wpAny_call ?_
  k_dflt (refine' code_def (binds := [(Str.ofString "kind", .int 1 t0), (Str.ofString "year", .int y t1), (Str.ofString "month", .int mo t2), (Str.ofString "day", .int d t3)]) ?k1 ?k2 ?k3 ?k4 ?k5 ?kA ?kF ?kK ?k6 ?k7 ?k8 ?k9 ?kB ?_ ?c2 ?c3 ?c4 ?c5; (case kA => exact rfl); (case kF => exact rfl); (case kK => assumption); (case k1 => k_asm); (case k2 => k_asm); (case k3 => k_asm); (case k4 => k_asm); (case k5 => k_asm); (case k6 => k_is); (case k7 => k_is); (case k8 => (dsimp only [ktrTop]; omega)); (case k9 => exact BindsTo.of_eq rfl); (case c5 => decide); (case kB => exact locs rfl); (case c2 => exact rfl); (case c3 => exact rfl); (case c4 => exact rfl); k_whole; intro g' L' h' FG' F' N' B' X' T'; (try dsimp only); (try k_fold))
  k_steps
  all_goals
    refine' h1 _ _ _ ?_ ?_ ?_ ?_ ?_ ?_ ?_ ?_ _ _ _ _ _ _ _ ?F ?N ?l
    (case F => with_reducible assumption)
    (case N => with_reducible assumption)
    (case l => first | with_reducible assumption | exact allLt_of (by with_reducible assumption))
    all_goals assumption
theorem lawfg_2 (n y mo d : Int) (t0 t1 t2 t3 : Tok) (B : Below A₀ base outer h₀) (F : Fr h₀ L s.heap m) (X : (hd.heap_39 w.params).In h₀) (N : News h₀ L s.heap news) (T : Top p loose mean mg mb h₀) (hk : cs.kind = .function)
    (hdp : dp + 15 < recursionLimit) (hun : un + 130 < cLine)
    (e7 : mo ≤ 2 → n = 365 * (y - 1) + (y - 1) / 4 - (y - 1) / 100 + (y - 1) / 400 + 1721425 + (367 * mo - 362) / 12 + d) (e8 : 2 < mo → n = 365 * (y - 1) + (y - 1) / 4 - (y - 1) / 100 + (y - 1) / 400 + 1721425 + (367 * mo - 362) / 12 + d - 2 + lpN y) (e1 : 1 ≤ mo) (e2 : mo ≤ 12) (e3 : 1 ≤ d) (e4 : mo = 2 → d ≤ 28 + lpN y) (e5 : mo = 4 ∨ mo = 6 ∨ mo = 9 ∨ mo = 11 → d ≤ 30) (e6 : d ≤ 31) (hn1 : -5000000000 ≤ n) (hn2 : n ≤ 5000000000)
    (h1 : ∀ y mo d, 1 ≤ mo → mo ≤ 12 → 1 ≤ d → d ≤ 30 → (mo % 2 = 0 → mo < 12 → d ≤ 29) → (mo = 12 → d ≤ 29 + (14 + 11 * y) / 30 - (3 + 11 * y) / 30) → n = d + (59 * (mo - 1) + 1) / 2 + 354 * (y - 1) + (3 + 11 * y) / 30 + 1948439 → RetT h₀ L m news s Q y mo d) :
    Goes w dp un gd cn cs L a ccd cl outer 252 [.int 2 t0, .int y t1, .int mo t2, .int d t3] Q E s := by
  unfold Goes
  revert X; k_fill; intro X
  refine wpAny_call ?_
  k_dflt (refine' code_def (binds := [(Str.ofString "kind", .int 2 t0), (Str.ofString "year", .int y t1), (Str.ofString "month", .int mo t2), (Str.ofString "day", .int d t3)]) ?k1 ?k2 ?k3 ?k4 ?k5 ?kA ?kF ?kK ?k6 ?k7 ?k8 ?k9 ?kB ?_ ?c2 ?c3 ?c4 ?c5; (case kA => exact rfl); (case kF => exact rfl); (case kK => assumption); (case k1 => k_asm); (case k2 => k_asm); (case k3 => k_asm); (case k4 => k_asm); (case k5 => k_asm); (case k6 => k_is); (case k7 => k_is); (case k8 => (dsimp only [ktrTop]; omega)); (case k9 => exact BindsTo.of_eq rfl); (case c5 => decide); (case kB => exact locs rfl); (case c2 => exact rfl); (case c3 => exact rfl); (case c4 => exact rfl); k_whole; intro g' L' h' FG' F' N' B' X' T'; (try dsimp only); (try k_fold))
  k_steps
  all_goals
    refine' h1 _ _ _ ?_ ?_ ?_ ?_ ?_ ?_ ?_ _ _ _ _ _ _ _ ?F ?N ?l
    (case F => with_reducible assumption)
    (case N => with_reducible assumption)
    (case l => first | with_reducible assumption | exact allLt_of (by with_reducible assumption))
    all_goals assumption
theorem lawfg_3 (n y mo d : Int) (t0 t1 t2 t3 : Tok) (B : Below A₀ base outer h₀) (F : Fr h₀ L s.heap m) (X : (hd.heap_39 w.params).In h₀) (N : News h₀ L s.heap news) (T : Top p loose mean mg mb h₀) (hk : cs.kind = .function)
    (hdp : dp + 15 < recursionLimit) (hun : un + 130 < cLine)
    (e7 : mo ≤ 2 → n = 365 * (y - 1) + (y - 1) / 4 - (y - 1) / 100 + (y - 1) / 400 + 1721425 + (367 * mo - 362) / 12 + d) (e8 : 2 < mo → n = 365 * (y - 1) + (y - 1) / 4 - (y - 1) / 100 + (y - 1) / 400 + 1721425 + (367 * mo - 362) / 12 + d - 2 + lpN y) (e1 : 1 ≤ mo) (e2 : mo ≤ 12) (e3 : 1 ≤ d) (e4 : mo = 2 → d ≤ 28 + lpN y) (e5 : mo = 4 ∨ mo = 6 ∨ mo = 9 ∨ mo = 11 → d ≤ 30) (e6 : d ≤ 31) (hn1 : -5000000000 ≤ n) (hn2 : n ≤ 5000000000)
    (h1 : ∀ y mo d, 1 ≤ mo → mo ≤ 13 → 1 ≤ d → d ≤ 30 → (mo = 13 → d ≤ 5 + (y + 1) / 4 - y / 4) → n = d + 30 * (mo - 1) + 365 * (y - 1) + y / 4 + 1825029 → RetT h₀ L m news s Q y mo d) :
    Goes w dp un gd cn cs L a ccd cl outer 252 [.int 3 t0, .int y t1, .int mo t2, .int d t3] Q E s := by
  unfold Goes
  revert X; k_fill; intro X
  refine wpAny_call ?_
  k_dflt (refine' code_def (binds := [(Str.ofString "kind", .int 3 t0), (Str.ofString "year", .int y t1), (Str.ofString "month", .int mo t2), (Str.ofString "day", .int d t3)]) ?k1 ?k2 ?k3 ?k4 ?k5 ?kA ?kF ?kK ?k6 ?k7 ?k8 ?k9 ?kB ?_ ?c2 ?c3 ?c4 ?c5; (case kA => exact rfl); (case kF => exact rfl); (case kK => assumption); (case k1 => k_asm); (case k2 => k_asm); (case k3 => k_asm); (case k4 => k_asm); (case k5 => k_asm); (case k6 => k_is); (case k7 => k_is); (case k8 => (dsimp only [ktrTop]; omega)); (case k9 => exact BindsTo.of_eq rfl); (case c5 => decide); (case kB => exact locs rfl); (case c2 => exact rfl); (case c3 => exact rfl); (case c4 => exact rfl); k_whole; intro g' L' h' FG' F' N' B' X' T'; (try dsimp only); (try k_fold))
  k_steps
  all_goals
    refine' h1 _ _ _ ?_ ?_ ?_ ?_ ?_ ?_ _ _ _ _ _ _ _ ?F ?N ?l
    (case F => with_reducible assumption)
    (case N => with_reducible assumption)
    (case l => first | with_reducible assumption | exact allLt_of (by with_reducible assumption))
    all_goals assumption
theorem lawfg_4 (n y mo d : Int) (t0 t1 t2 t3 : Tok) (B : Below A₀ base outer h₀) (F : Fr h₀ L s.heap m) (X : (hd.heap_39 w.params).In h₀) (N : News h₀ L s.heap news) (T : Top p loose mean mg mb h₀) (hk : cs.kind = .function)
    (hdp : dp + 15 < recursionLimit) (hun : un + 130 < cLine)
    (e7 : mo ≤ 2 → n = 365 * (y - 1) + (y - 1) / 4 - (y - 1) / 100 + (y - 1) / 400 + 1721425 + (367 * mo - 362) / 12 + d) (e8 : 2 < mo → n = 365 * (y - 1) + (y - 1) / 4 - (y - 1) / 100 + (y - 1) / 400 + 1721425 + (367 * mo - 362) / 12 + d - 2 + lpN y) (e1 : 1 ≤ mo) (e2 : mo ≤ 12) (e3 : 1 ≤ d) (e4 : mo = 2 → d ≤ 28 + lpN y) (e5 : mo = 4 ∨ mo = 6 ∨ mo = 9 ∨ mo = 11 → d ≤ 30) (e6 : d ≤ 31) (hn1 : -5000000000 ≤ n) (hn2 : n ≤ 5000000000)
    (h1 : ∀ y mo d, 1 ≤ mo → mo ≤ 12 → 1 ≤ d → d ≤ 31 → (mo = 1 → d ≤ 30 + lpN (y + 78)) → (7 ≤ mo → d ≤ 30) → (mo = 1 → n = 365 * (y + 78 - 1) + (y + 78 - 1) / 4 - (y + 78 - 1) / 100 + (y + 78 - 1) / 400 + 1721425 + 80 + d) → (2 ≤ mo → mo ≤ 6 → n = 365 * (y + 78 - 1) + (y + 78 - 1) / 4 - (y + 78 - 1) / 100 + (y + 78 - 1) / 400 + 1721425 + 110 + lpN (y + 78) + 31 * (mo - 2) + d) → (7 ≤ mo → n = 365 * (y + 78 - 1) + (y + 78 - 1) / 4 - (y + 78 - 1) / 100 + (y + 78 - 1) / 400 + 1721425 + 265 + lpN (y + 78) + 30 * (mo - 7) + d) → RetT h₀ L m news s Q y mo d) :
    Goes w dp un gd cn cs L a ccd cl outer 252 [.int 4 t0, .int y t1, .int mo t2, .int d t3] Q E s := by
  unfold Goes
  revert X; k_fill; intro X
  refine wpAny_call ?_
  k_dflt (refine' code_def (binds := [(Str.ofString "kind", .int 4 t0), (Str.ofString "year", .int y t1), (Str.ofString "month", .int mo t2), (Str.ofString "day", .int d t3)]) ?k1 ?k2 ?k3 ?k4 ?k5 ?kA ?kF ?kK ?k6 ?k7 ?k8 ?k9 ?kB ?_ ?c2 ?c3 ?c4 ?c5; (case kA => exact rfl); (case kF => exact rfl); (case kK => assumption); (case k1 => k_asm); (case k2 => k_asm); (case k3 => k_asm); (case k4 => k_asm); (case k5 => k_asm); (case k6 => k_is); (case k7 => k_is); (case k8 => (dsimp only [ktrTop]; omega)); (case k9 => exact BindsTo.of_eq rfl); (case c5 => decide); (case kB => exact locs rfl); (case c2 => exact rfl); (case c3 => exact rfl); (case c4 => exact rfl); k_whole; intro g' L' h' FG' F' N' B' X' T'; (try dsimp only); (try k_fold))
  k_steps
  all_goals
    refine' h1 _ _ _ ?_ ?_ ?_ ?_ ?_ ?_ ?_ ?_ ?_ _ _ _ _ _ _ _ ?F ?N ?l
    (case F => with_reducible assumption)
    (case N => with_reducible assumption)
    (case l => first | with_reducible assumption | exact allLt_of (by with_reducible assumption))
    all_goals assumption
local macro_rules | `(tactic| walk_at "call ref") => `(tactic| (k_here; (with_reducible show wpAny _ _ (call (Value.ref 121) _) _ _ _); k_dflt (refine' Mine.tgj_c _ _ _ _ _ _ _ ?k1 ?k2 ?k3 ?k4 ?k5 ?kK ?kd ?ku ?e7 ?e8 ?e1 ?e2 ?e3 ?e4 ?e5 ?e6 ?hn1 ?hn2 ?_; (case k1 => k_asm); (case k2 => k_asm); (case k3 => k_asm); (case k4 => k_asm); (case k5 => k_asm); (case kK => first | exact rfl | assumption); (case kd => (dsimp only [ktrTop]; omega)); (case ku => (dsimp only [ktrTop]; omega)); (case e7 => first | assumption | omega); (case e8 => first | assumption | omega); (case e1 => first | assumption | omega); (case e2 => first | assumption | omega); (case e3 => first | assumption | omega); (case e4 => first | assumption | omega); (case e5 => first | assumption | omega); (case e6 => first | assumption | omega); (case hn1 => first | assumption | omega); (case hn2 => first | assumption | omega); all_goals (intro y9 mo9 d9 g1 g2 g3 g4 g5 g6 g7 g8 D9 u1 u2 u3 c9 h9 tk9 F9 N9 l9; (try simp only [AllLt, and_true] at l9); (try dsimp only); (try k_sweep); (try k_fold)))))
local macro_rules | `(tactic| walk_at "call ref") => `(tactic| (k_here; (with_reducible show wpAny _ _ (call (Value.ref 149) _) _ _ _); k_dflt (refine' Mine.tgi_c _ _ _ _ _ _ _ ?k1 ?k2 ?k3 ?k4 ?k5 ?kK ?kd ?ku ?e7 ?e1 ?e2 ?e3 ?e4 ?e5 ?e6 ?hn1 ?hn2 ?_; (case k1 => k_asm); (case k2 => k_asm); (case k3 => k_asm); (case k4 => k_asm); (case k5 => k_asm); (case kK => first | exact rfl | assumption); (case kd => (dsimp only [ktrTop]; omega)); (case ku => (dsimp only [ktrTop]; omega)); (case e7 => first | assumption | omega); (case e1 => first | assumption | omega); (case e2 => first | assumption | omega); (case e3 => first | assumption | omega); (case e4 => first | assumption | omega); (case e5 => first | assumption | omega); (case e6 => first | assumption | omega); (case hn1 => first | assumption | omega); (case hn2 => first | assumption | omega); all_goals (intro y9 mo9 d9 g1 g2 g3 g4 g5 g6 g7 g8 D9 u1 u2 u3 c9 h9 tk9 F9 N9 l9; (try simp only [AllLt, and_true] at l9); (try dsimp only); (try k_sweep); (try k_fold)))))
local macro_rules | `(tactic| walk_at "call ref") => `(tactic| (k_here; (with_reducible show wpAny _ _ (call (Value.ref 170) _) _ _ _); k_dflt (refine' Mine.tgc_c _ _ _ _ _ _ _ ?k1 ?k2 ?k3 ?k4 ?k5 ?kK ?kd ?ku ?e7 ?e1 ?e2 ?e3 ?e4 ?e5 ?hn1 ?hn2 ?_; (case k1 => k_asm); (case k2 => k_asm); (case k3 => k_asm); (case k4 => k_asm); (case k5 => k_asm); (case kK => first | exact rfl | assumption); (case kd => (dsimp only [ktrTop]; omega)); (case ku => (dsimp only [ktrTop]; omega)); (case e7 => first | assumption | omega); (case e1 => first | assumption | omega); (case e2 => first | assumption | omega); (case e3 => first | assumption | omega); (case e4 => first | assumption | omega); (case e5 => first | assumption | omega); (case hn1 => first | assumption | omega); (case hn2 => first | assumption | omega); all_goals (intro y9 mo9 d9 g1 g2 g3 g4 g5 g6 g7 g8 D9 u1 u2 u3 c9 h9 tk9 F9 N9 l9; (try simp only [AllLt, and_true] at l9); (try dsimp only); (try k_sweep); (try k_fold)))))
local macro_rules | `(tactic| walk_at "call ref") => `(tactic| (k_here; (with_reducible show wpAny _ _ (call (Value.ref 205) _) _ _ _); k_dflt (refine' Mine.tgn_c _ _ _ _ _ _ _ ?k1 ?k2 ?k3 ?k4 ?k5 ?kK ?kd ?ku ?e7 ?e8 ?e9 ?e1 ?e2 ?e3 ?e4 ?e5 ?e6 ?hn1 ?hn2 ?_; (case k1 => k_asm); (case k2 => k_asm); (case k3 => k_asm); (case k4 => k_asm); (case k5 => k_asm); (case kK => first | exact rfl | assumption); (case kd => (dsimp only [ktrTop]; omega)); (case ku => (dsimp only [ktrTop]; omega)); (case e7 => first | assumption | omega); (case e8 => first | assumption | omega); (case e9 => first | assumption | omega); (case e1 => first | assumption | omega); (case e2 => first | assumption | omega); (case e3 => first | assumption | omega); (case e4 => first | assumption | omega); (case e5 => first | assumption | omega); (case e6 => first | assumption | omega); (case hn1 => first | assumption | omega); (case hn2 => first | assumption | omega); all_goals (intro y9 mo9 d9 g1 g2 g3 g4 g5 g6 g7 g8 D9 u1 u2 u3 c9 h9 tk9 F9 N9 l9; (try simp only [AllLt, and_true] at l9); (try dsimp only); (try k_sweep); (try k_fold)))))
theorem lawtg_1 (n y mo d : Int) (t0 t1 t2 t3 : Tok) (B : Below A₀ base outer h₀) (F : Fr h₀ L s.heap m) (X : (hd.heap_39 w.params).In h₀) (N : News h₀ L s.heap news) (T : Top p loose mean mg mb h₀) (hk : cs.kind = .function)
    (hdp : dp + 15 < recursionLimit) (hun : un + 130 < cLine)
    (e7 : mo ≤ 2 → n = 365 * (y + 4712) + (y + 4715) / 4 + (367 * mo - 362) / 12 + d - 1) (e8 : 2 < mo → n = 365 * (y + 4712) + (y + 4715) / 4 + (367 * mo - 362) / 12 + d - 2 - (y % 4 + 3) / 4) (e1 : 1 ≤ mo) (e2 : mo ≤ 12) (e3 : 1 ≤ d) (e4 : mo = 2 → d ≤ 29 - (y % 4 + 3) / 4) (e5 : mo = 4 ∨ mo = 6 ∨ mo = 9 ∨ mo = 11 → d ≤ 30) (e6 : d ≤ 31) (hn1 : -5000000000 ≤ n) (hn2 : n ≤ 5000000000)
    (h1 : ∀ y mo d, 1 ≤ mo → mo ≤ 12 → 1 ≤ d → (mo = 2 → d ≤ 28 + lpN y) → (mo = 4 ∨ mo = 6 ∨ mo = 9 ∨ mo = 11 → d ≤ 30) → d ≤ 31 → (mo ≤ 2 → n = 365 * (y - 1) + (y - 1) / 4 - (y - 1) / 100 + (y - 1) / 400 + 1721425 + (367 * mo - 362) / 12 + d) → (2 < mo → n = 365 * (y - 1) + (y - 1) / 4 - (y - 1) / 100 + (y - 1) / 400 + 1721425 + (367 * mo - 362) / 12 + d - 2 + lpN y) → RetT h₀ L m news s Q y mo d) :
    Goes w dp un gd cn cs L a ccd cl outer 259 [.int 1 t0, .int y t1, .int mo t2, .int d t3] Q E s := by
  unfold Goes
  revert X; k_fill; intro X
  refine wpAny_call ?_
  k_dflt (refine' code_def (binds := [(Str.ofString "kind", .int 1 t0), (Str.ofString "year", .int y t1), (Str.ofString "month", .int mo t2), (Str.ofString "day", .int d t3)]) ?k1 ?k2 ?k3 ?k4 ?k5 ?kA ?kF ?kK ?k6 ?k7 ?k8 ?k9 ?kB ?_ ?c2 ?c3 ?c4 ?c5; (case kA => exact rfl); (case kF => exact rfl); (case kK => assumption); (case k1 => k_asm); (case k2 => k_asm); (case k3 => k_asm); (case k4 => k_asm); (case k5 => k_asm); (case k6 => k_is); (case k7 => k_is); (case k8 => (dsimp only [ktrTop]; omega)); (case k9 => exact BindsTo.of_eq rfl); (case c5 => decide); (case kB => exact locs rfl); (case c2 => exact rfl); (case c3 => exact rfl); (case c4 => exact rfl); k_whole; intro g' L' h' FG' F' N' B' X' T'; (try dsimp only); (try k_fold))
  k_steps
  all_goals
    refine' h1 _ _ _ ?_ ?_ ?_ ?_ ?_ ?_ ?_ ?_ _ _ _ _ _ _ _ ?F ?N ?l
    (case F => with_reducible assumption)
    (case N => with_reducible assumption)
    (case l => first | with_reducible assumption | exact allLt_of (by with_reducible assumption))
    all_goals assumption
theorem lawtg_2 (n y mo d : Int) (t0 t1 t2 t3 : Tok) (B : Below A₀ base outer h₀) (F : Fr h₀ L s.heap m) (X : (hd.heap_39 w.params).In h₀) (N : News h₀ L s.heap news) (T : Top p loose mean mg mb h₀) (hk : cs.kind = .function)
    (hdp : dp + 15 < recursionLimit) (hun : un + 130 < cLine)
    (e7 : n = d + (59 * (mo - 1) + 1) / 2 + 354 * (y - 1) + (3 + 11 * y) / 30 + 1948439) (e1 : 1 ≤ mo) (e2 : mo ≤ 12) (e3 : 1 ≤ d) (e4 : d ≤ 30) (e5 : mo % 2 = 0 → mo < 12 → d ≤ 29) (e6 : mo = 12 → d ≤ 29 + (14 + 11 * y) / 30 - (3 + 11 * y) / 30) (hn1 : -5000000000 ≤ n) (hn2 : n ≤ 5000000000)
    (h1 : ∀ y mo d, 1 ≤ mo → mo ≤ 12 → 1 ≤ d → (mo = 2 → d ≤ 28 + lpN y) → (mo = 4 ∨ mo = 6 ∨ mo = 9 ∨ mo = 11 → d ≤ 30) → d ≤ 31 → (mo ≤ 2 → n = 365 * (y - 1) + (y - 1) / 4 - (y - 1) / 100 + (y - 1) / 400 + 1721425 + (367 * mo - 362) / 12 + d) → (2 < mo → n = 365 * (y - 1) + (y - 1) / 4 - (y - 1) / 100 + (y - 1) / 400 + 1721425 + (367 * mo - 362) / 12 + d - 2 + lpN y) → RetT h₀ L m news s Q y mo d) :
    Goes w dp un gd cn cs L a ccd cl outer 259 [.int 2 t0, .int y t1, .int mo t2, .int d t3] Q E s := by
  unfold Goes
  revert X; k_fill; intro X
  refine wpAny_call ?_
  k_dflt (refine' code_def (binds := [(Str.ofString "kind", .int 2 t0), (Str.ofString "year", .int y t1), (Str.ofString "month", .int mo t2), (Str.ofString "day", .int d t3)]) ?k1 ?k2 ?k3 ?k4 ?k5 ?kA ?kF ?kK ?k6 ?k7 ?k8 ?k9 ?kB ?_ ?c2 ?c3 ?c4 ?c5; (case kA => exact rfl); (case kF => exact rfl); (case kK => assumption); (case k1 => k_asm); (case k2 => k_asm); (case k3 => k_asm); (case k4 => k_asm); (case k5 => k_asm); (case k6 => k_is); (case k7 => k_is); (case k8 => (dsimp only [ktrTop]; omega)); (case k9 => exact BindsTo.of_eq rfl); (case c5 => decide); (case kB => exact locs rfl); (case c2 => exact rfl); (case c3 => exact rfl); (case c4 => exact rfl); k_whole; intro g' L' h' FG' F' N' B' X' T'; (try dsimp only); (try k_fold))
  k_steps
  all_goals
    refine' h1 _ _ _ ?_ ?_ ?_ ?_ ?_ ?_ ?_ ?_ _ _ _ _ _ _ _ ?F ?N ?l
    (case F => with_reducible assumption)
    (case N => with_reducible assumption)
    (case l => first | with_reducible assumption | exact allLt_of (by with_reducible assumption))
    all_goals assumption
theorem lawtg_3 (n y mo d : Int) (t0 t1 t2 t3 : Tok) (B : Below A₀ base outer h₀) (F : Fr h₀ L s.heap m) (X : (hd.heap_39 w.params).In h₀) (N : News h₀ L s.heap news) (T : Top p loose mean mg mb h₀) (hk : cs.kind = .function)
    (hdp : dp + 15 < recursionLimit) (hun : un + 130 < cLine)
    (e7 : n = d + 30 * (mo - 1) + 365 * (y - 1) + y / 4 + 1825029) (e1 : 1 ≤ mo) (e2 : mo ≤ 13) (e3 : 1 ≤ d) (e4 : d ≤ 30) (e5 : mo = 13 → d ≤ 5 + (y + 1) / 4 - y / 4) (hn1 : -5000000000 ≤ n) (hn2 : n ≤ 5000000000)
    (h1 : ∀ y mo d, 1 ≤ mo → mo ≤ 12 → 1 ≤ d → (mo = 2 → d ≤ 28 + lpN y) → (mo = 4 ∨ mo = 6 ∨ mo = 9 ∨ mo = 11 → d ≤ 30) → d ≤ 31 → (mo ≤ 2 → n = 365 * (y - 1) + (y - 1) / 4 - (y - 1) / 100 + (y - 1) / 400 + 1721425 + (367 * mo - 362) / 12 + d) → (2 < mo → n = 365 * (y - 1) + (y - 1) / 4 - (y - 1) / 100 + (y - 1) / 400 + 1721425 + (367 * mo - 362) / 12 + d - 2 + lpN y) → RetT h₀ L m news s Q y mo d) :
    Goes w dp un gd cn cs L a ccd cl outer 259 [.int 3 t0, .int y t1, .int mo t2, .int d t3] Q E s := by
  unfold Goes
  revert X; k_fill; intro X
  refine wpAny_call ?_
  k_dflt (refine' code_def (binds := [(Str.ofString "kind", .int 3 t0), (Str.ofString "year", .int y t1), (Str.ofString "month", .int mo t2), (Str.ofString "day", .int d t3)]) ?k1 ?k2 ?k3 ?k4 ?k5 ?kA ?kF ?kK ?k6 ?k7 ?k8 ?k9 ?kB ?_ ?c2 ?c3 ?c4 ?c5; (case kA => exact rfl); (case kF => exact rfl); (case kK => assumption); (case k1 => k_asm); (case k2 => k_asm); (case k3 => k_asm); (case k4 => k_asm); (case k5 => k_asm); (case k6 => k_is); (case k7 => k_is); (case k8 => (dsimp only [ktrTop]; omega)); (case k9 => exact BindsTo.of_eq rfl); (case c5 => decide); (case kB => exact locs rfl); (case c2 => exact rfl); (case c3 => exact rfl); (case c4 => exact rfl); k_whole; intro g' L' h' FG' F' N' B' X' T'; (try dsimp only); (try k_fold))
  k_steps
  all_goals
    refine' h1 _ _ _ ?_ ?_ ?_ ?_ ?_ ?_ ?_ ?_ _ _ _ _ _ _ _ ?F ?N ?l
    (case F => with_reducible assumption)
    (case N => with_reducible assumption)
    (case l => first | with_reducible assumption | exact allLt_of (by with_reducible assumption))
    all_goals assumption
theorem lawtg_4 (n y mo d : Int) (t0 t1 t2 t3 : Tok) (B : Below A₀ base outer h₀) (F : Fr h₀ L s.heap m) (X : (hd.heap_39 w.params).In h₀) (N : News h₀ L s.heap news) (T : Top p loose mean mg mb h₀) (hk : cs.kind = .function)
    (hdp : dp + 15 < recursionLimit) (hun : un + 130 < cLine)
    (e7 : mo = 1 → n = 365 * (y + 78 - 1) + (y + 78 - 1) / 4 - (y + 78 - 1) / 100 + (y + 78 - 1) / 400 + 1721425 + 80 + d) (e8 : 2 ≤ mo → mo ≤ 6 → n = 365 * (y + 78 - 1) + (y + 78 - 1) / 4 - (y + 78 - 1) / 100 + (y + 78 - 1) / 400 + 1721425 + 110 + lpN (y + 78) + 31 * (mo - 2) + d) (e9 : 7 ≤ mo → n = 365 * (y + 78 - 1) + (y + 78 - 1) / 4 - (y + 78 - 1) / 100 + (y + 78 - 1) / 400 + 1721425 + 265 + lpN (y + 78) + 30 * (mo - 7) + d) (e1 : 1 ≤ mo) (e2 : mo ≤ 12) (e3 : 1 ≤ d) (e4 : d ≤ 31) (e5 : mo = 1 → d ≤ 30 + lpN (y + 78)) (e6 : 7 ≤ mo → d ≤ 30) (hn1 : -5000000000 ≤ n) (hn2 : n ≤ 5000000000)
    (h1 : ∀ y mo d, 1 ≤ mo → mo ≤ 12 → 1 ≤ d → (mo = 2 → d ≤ 28 + lpN y) → (mo = 4 ∨ mo = 6 ∨ mo = 9 ∨ mo = 11 → d ≤ 30) → d ≤ 31 → (mo ≤ 2 → n = 365 * (y - 1) + (y - 1) / 4 - (y - 1) / 100 + (y - 1) / 400 + 1721425 + (367 * mo - 362) / 12 + d) → (2 < mo → n = 365 * (y - 1) + (y - 1) / 4 - (y - 1) / 100 + (y - 1) / 400 + 1721425 + (367 * mo - 362) / 12 + d - 2 + lpN y) → RetT h₀ L m news s Q y mo d) :
    Goes w dp un gd cn cs L a ccd cl outer 259 [.int 4 t0, .int y t1, .int mo t2, .int d t3] Q E s := by
  unfold Goes
  revert X; k_fill; intro X
  refine wpAny_call ?_
  k_dflt (refine' code_def (binds := [(Str.ofString "kind", .int 4 t0), (Str.ofString "year", .int y t1), (Str.ofString "month", .int mo t2), (Str.ofString "day", .int d t3)]) ?k1 ?k2 ?k3 ?k4 ?k5 ?kA ?kF ?kK ?k6 ?k7 ?k8 ?k9 ?kB ?_ ?c2 ?c3 ?c4 ?c5; (case kA => exact rfl); (case kF => exact rfl); (case kK => assumption); (case k1 => k_asm); (case k2 => k_asm); (case k3 => k_asm); (case k4 => k_asm); (case k5 => k_asm); (case k6 => k_is); (case k7 => k_is); (case k8 => (dsimp only [ktrTop]; omega)); (case k9 => exact BindsTo.of_eq rfl); (case c5 => decide); (case kB => exact locs rfl); (case c2 => exact rfl); (case c3 => exact rfl); (case c4 => exact rfl); k_whole; intro g' L' h' FG' F' N' B' X' T'; (try dsimp only); (try k_fold))
  k_steps
  all_goals
    refine' h1 _ _ _ ?_ ?_ ?_ ?_ ?_ ?_ ?_ ?_ _ _ _ _ _ _ _ ?F ?N ?l
    (case F => with_reducible assumption)
    (case N => with_reducible assumption)
    (case l => first | with_reducible assumption | exact allLt_of (by with_reducible assumption))
    all_goals assumption
end
end Mine
-- PV
namespace Mine
set_option maxHeartbeats 4000000
theorem FY_mono {y z : Int} (h : y ≤ z) : 365 * (y - 1) + (y - 1) / 4 - (y - 1) / 100 + (y - 1) / 400 ≤ 365 * (z - 1) + (z - 1) / 4 - (z - 1) / 100 + (z - 1) / 400 := by omega
theorem FY_next (y : Int) : 365 * (y + 1 - 1) + (y + 1 - 1) / 4 - (y + 1 - 1) / 100 + (y + 1 - 1) / 400 = 365 * (y - 1) + (y - 1) / 4 - (y - 1) / 100 + (y - 1) / 400 + 365 + lpN y := by
  unfold lpN
  split <;> omega
theorem FY_uniq {n y z : Int} (a1 : 365 * (y - 1) + (y - 1) / 4 - (y - 1) / 100 + (y - 1) / 400 < n) (a2 : n ≤ 365 * (y - 1) + (y - 1) / 4 - (y - 1) / 100 + (y - 1) / 400 + 365 + lpN y)
    (b1 : 365 * (z - 1) + (z - 1) / 4 - (z - 1) / 100 + (z - 1) / 400 < n) (b2 : n ≤ 365 * (z - 1) + (z - 1) / 4 - (z - 1) / 100 + (z - 1) / 400 + 365 + lpN z) : y = z := by
  have s1 := FY_next y
  have s2 := FY_next z
  by_cases h : y + 1 ≤ z
  · have := FY_mono h; clear s2; omega
  · by_cases h' : z + 1 ≤ y
    · have := FY_mono h'; clear s1; omega
    · clear s1 s2 a1 a2 b1 b2; omega
/-- Gregorian -/
theorem g_in {n y mo d : Int} (e7 : mo ≤ 2 → n = 365 * (y - 1) + (y - 1) / 4 - (y - 1) / 100 + (y - 1) / 400 + 1721425 + (367 * mo - 362) / 12 + d) (e8 : 2 < mo → n = 365 * (y - 1) + (y - 1) / 4 - (y - 1) / 100 + (y - 1) / 400 + 1721425 + (367 * mo - 362) / 12 + d - 2 + lpN y) (e1 : 1 ≤ mo) (e2 : mo ≤ 12) (e3 : 1 ≤ d) (e6 : d ≤ 31) :
    365 * (y - 1) + (y - 1) / 4 - (y - 1) / 100 + (y - 1) / 400 < n - 1721425 ∧ n - 1721425 ≤ 365 * (y - 1) + (y - 1) / 4 - (y - 1) / 100 + (y - 1) / 400 + 365 + lpN y := by
  have hl := lpN_b y
  obtain ⟨G, hG⟩ : ∃ G, G = 365 * (y - 1) + (y - 1) / 4 - (y - 1) / 100 + (y - 1) / 400 := ⟨_, rfl⟩
  rw [← hG] at e7 e8 ⊢
  clear hG
  omega
theorem g_lt {x l mo d mo' d' : Int} (l0 : 0 ≤ l) (l1 : l ≤ 1) (e7 : mo ≤ 2 → x = (367 * mo - 362) / 12 + d) (e8 : 2 < mo → x = (367 * mo - 362) / 12 + d - 2 + l) (e1 : 1 ≤ mo) (e2 : mo ≤ 12) (e4 : mo = 2 → d ≤ 28 + l) (e5 : mo = 4 ∨ mo = 6 ∨ mo = 9 ∨ mo = 11 → d ≤ 30) (e6 : d ≤ 31)
    (f7 : mo' ≤ 2 → x = (367 * mo' - 362) / 12 + d') (f8 : 2 < mo' → x = (367 * mo' - 362) / 12 + d' - 2 + l) (f3 : 1 ≤ d') (h : mo < mo') : False := by
  have h1 : mo = 1 ∨ mo = 2 ∨ mo = 3 ∨ mo = 4 ∨ mo = 5 ∨ mo = 6 ∨ mo = 7 ∨ mo = 8 ∨ mo = 9 ∨ mo = 10 ∨ mo = 11 ∨ mo = 12 := by clear e7 e8 e4 e5 f7 f8; omega
  by_cases h2 : mo' ≤ 2
  · replace f7 := f7 h2
    have : mo = 1 := by clear e7 e8 e4 e5 f7 f8; omega
    replace e7 := e7 (by omega)
    subst this
    clear e8 e4 e5 f8 h1
    omega
  · replace f8 := f8 (by omega)
    clear f7
    rcases h1 with rfl | rfl | rfl | rfl | rfl | rfl | rfl | rfl | rfl | rfl | rfl | rfl
    · replace e7 := e7 (by decide); clear e8 e4 e5; omega
    · replace e7 := e7 (by decide); replace e4 := e4 rfl; clear e8 e5; omega
    all_goals
      replace e8 := e8 (by decide)
      clear e7 e4
      first
        | (replace e5 := e5 (by decide); omega)
        | (clear e5; omega)
theorem g_md {x l mo d mo' d' : Int} (l0 : 0 ≤ l) (l1 : l ≤ 1) (e7 : mo ≤ 2 → x = (367 * mo - 362) / 12 + d) (e8 : 2 < mo → x = (367 * mo - 362) / 12 + d - 2 + l) (e1 : 1 ≤ mo) (e2 : mo ≤ 12) (e3 : 1 ≤ d) (e4 : mo = 2 → d ≤ 28 + l) (e5 : mo = 4 ∨ mo = 6 ∨ mo = 9 ∨ mo = 11 → d ≤ 30) (e6 : d ≤ 31)
    (f7 : mo' ≤ 2 → x = (367 * mo' - 362) / 12 + d') (f8 : 2 < mo' → x = (367 * mo' - 362) / 12 + d' - 2 + l) (f1 : 1 ≤ mo') (f2 : mo' ≤ 12) (f3 : 1 ≤ d') (f4 : mo' = 2 → d' ≤ 28 + l) (f5 : mo' = 4 ∨ mo' = 6 ∨ mo' = 9 ∨ mo' = 11 → d' ≤ 30) (f6 : d' ≤ 31) : mo = mo' ∧ d = d' := by
  rcases Int.lt_trichotomy mo mo' with h | h | h
  · exact (g_lt l0 l1 e7 e8 e1 e2 e4 e5 e6 f7 f8 f3 h).elim
  · subst h
    refine ⟨rfl, ?_⟩
    by_cases q : mo ≤ 2
    · have := e7 q; have := f7 q; omega
    · have := e8 (by omega); have := f8 (by omega); omega
  · exact (g_lt l0 l1 f7 f8 f1 f2 f4 f5 f6 e7 e8 e3 h).elim
theorem g_uniq {n y mo d y' mo' d' : Int} (e7 : mo ≤ 2 → n = 365 * (y - 1) + (y - 1) / 4 - (y - 1) / 100 + (y - 1) / 400 + 1721425 + (367 * mo - 362) / 12 + d) (e8 : 2 < mo → n = 365 * (y - 1) + (y - 1) / 4 - (y - 1) / 100 + (y - 1) / 400 + 1721425 + (367 * mo - 362) / 12 + d - 2 + lpN y) (e1 : 1 ≤ mo) (e2 : mo ≤ 12) (e3 : 1 ≤ d) (e4 : mo = 2 → d ≤ 28 + lpN y) (e5 : mo = 4 ∨ mo = 6 ∨ mo = 9 ∨ mo = 11 → d ≤ 30) (e6 : d ≤ 31)
    (f7 : mo' ≤ 2 → n = 365 * (y' - 1) + (y' - 1) / 4 - (y' - 1) / 100 + (y' - 1) / 400 + 1721425 + (367 * mo' - 362) / 12 + d') (f8 : 2 < mo' → n = 365 * (y' - 1) + (y' - 1) / 4 - (y' - 1) / 100 + (y' - 1) / 400 + 1721425 + (367 * mo' - 362) / 12 + d' - 2 + lpN y') (f1 : 1 ≤ mo') (f2 : mo' ≤ 12) (f3 : 1 ≤ d') (f4 : mo' = 2 → d' ≤ 28 + lpN y') (f5 : mo' = 4 ∨ mo' = 6 ∨ mo' = 9 ∨ mo' = 11 → d' ≤ 30) (f6 : d' ≤ 31) :
    y = y' ∧ mo = mo' ∧ d = d' := by
  obtain ⟨a1, a2⟩ := g_in e7 e8 e1 e2 e3 e6
  obtain ⟨b1, b2⟩ := g_in f7 f8 f1 f2 f3 f6
  obtain rfl := FY_uniq a1 a2 b1 b2
  have hl := lpN_b y
  refine ⟨rfl, g_md (x := n - (365 * (y - 1) + (y - 1) / 4 - (y - 1) / 100 + (y - 1) / 400 + 1721425)) hl.1 hl.2 ?_ ?_ e1 e2 e3 e4 e5 e6 ?_ ?_ f1 f2 f3 f4 f5 f6⟩
  · intro h; rw [e7 h]; omega
  · intro h; rw [e8 h]; omega
  · intro h; rw [f7 h]; omega
  · intro h; rw [f8 h]; omega
theorem j_in {n y mo d : Int} (e7 : mo ≤ 2 → n = 365 * (y + 4712) + (y + 4715) / 4 + (367 * mo - 362) / 12 + d - 1) (e8 : 2 < mo → n = 365 * (y + 4712) + (y + 4715) / 4 + (367 * mo - 362) / 12 + d - 2 - (y % 4 + 3) / 4) (e1 : 1 ≤ mo) (e2 : mo ≤ 12) (e3 : 1 ≤ d) (e6 : d ≤ 31) :
    365 * (y + 4712) + (y + 4715) / 4 ≤ n ∧ n ≤ 365 * (y + 4712) + (y + 4715) / 4 + 365 - (y % 4 + 3) / 4 := by
  obtain ⟨l, hl⟩ : ∃ l, l = (y % 4 + 3) / 4 := ⟨_, rfl⟩
  have hb : 0 ≤ l ∧ l ≤ 1 := by clear e7 e8; omega
  obtain ⟨G, hG⟩ : ∃ G, G = 365 * (y + 4712) + (y + 4715) / 4 := ⟨_, rfl⟩
  rw [← hG] at e7 e8 ⊢
  rw [← hl] at e8 ⊢
  clear hG hl
  omega
theorem j_uniq {n y mo d y' mo' d' : Int} (e7 : mo ≤ 2 → n = 365 * (y + 4712) + (y + 4715) / 4 + (367 * mo - 362) / 12 + d - 1) (e8 : 2 < mo → n = 365 * (y + 4712) + (y + 4715) / 4 + (367 * mo - 362) / 12 + d - 2 - (y % 4 + 3) / 4) (e1 : 1 ≤ mo) (e2 : mo ≤ 12) (e3 : 1 ≤ d) (e4 : mo = 2 → d ≤ 29 - (y % 4 + 3) / 4) (e5 : mo = 4 ∨ mo = 6 ∨ mo = 9 ∨ mo = 11 → d ≤ 30) (e6 : d ≤ 31)
    (f7 : mo' ≤ 2 → n = 365 * (y' + 4712) + (y' + 4715) / 4 + (367 * mo' - 362) / 12 + d' - 1) (f8 : 2 < mo' → n = 365 * (y' + 4712) + (y' + 4715) / 4 + (367 * mo' - 362) / 12 + d' - 2 - (y' % 4 + 3) / 4) (f1 : 1 ≤ mo') (f2 : mo' ≤ 12) (f3 : 1 ≤ d') (f4 : mo' = 2 → d' ≤ 29 - (y' % 4 + 3) / 4) (f5 : mo' = 4 ∨ mo' = 6 ∨ mo' = 9 ∨ mo' = 11 → d' ≤ 30) (f6 : d' ≤ 31) :
    y = y' ∧ mo = mo' ∧ d = d' := by
  have a := j_in e7 e8 e1 e2 e3 e6
  have b := j_in f7 f8 f1 f2 f3 f6
  have a' : 365 * (y + 4712) + (y + 4715) / 4 + 365 - (y % 4 + 3) / 4 < 365 * (y + 1 + 4712) + (y + 1 + 4715) / 4 := by clear a b e7 e8 e4 e5 f7 f8 f4 f5; omega
  have b' : 365 * (y' + 4712) + (y' + 4715) / 4 + 365 - (y' % 4 + 3) / 4 < 365 * (y' + 1 + 4712) + (y' + 1 + 4715) / 4 := by clear a b a' e7 e8 e4 e5 f7 f8 f4 f5; omega
  have a2 := Int.lt_of_le_of_lt a.2 a'
  have b2 := Int.lt_of_le_of_lt b.2 b'
  replace a := a.1
  replace b := b.1
  obtain rfl : y = y' := by clear a' b' e7 e8 e4 e5 f7 f8 f4 f5; omega
  clear a b a' b' a2 b2
  refine ⟨rfl, g_md (x := n + 1 - (365 * (y + 4712) + (y + 4715) / 4)) (l := 1 - (y % 4 + 3) / 4) (by omega) (by omega) ?_ ?_ e1 e2 e3 (fun h => by have := e4 h; omega) e5 e6 ?_ ?_ f1 f2 f3 (fun h => by have := f4 h; omega) f5 f6⟩
  · intro h; rw [e7 h]; omega
  · intro h; rw [e8 h]; omega
  · intro h; rw [f7 h]; omega
  · intro h; rw [f8 h]; omega
theorem i_in {n y mo d : Int} (e7 : n = d + (59 * (mo - 1) + 1) / 2 + 354 * (y - 1) + (3 + 11 * y) / 30 + 1948439) (e1 : 1 ≤ mo) (e2 : mo ≤ 12) (e3 : 1 ≤ d) (e4 : d ≤ 30) (e5 : mo % 2 = 0 → mo < 12 → d ≤ 29) (e6 : mo = 12 → d ≤ 29 + (14 + 11 * y) / 30 - (3 + 11 * y) / 30) :
    354 * (y - 1) + (3 + 11 * y) / 30 + 1948440 ≤ n ∧ n < 354 * y + (14 + 11 * y) / 30 + 1948440 := by
  obtain ⟨f, hf⟩ : ∃ f, f = (3 + 11 * y) / 30 := ⟨_, rfl⟩
  obtain ⟨g, hg⟩ : ∃ f, f = (14 + 11 * y) / 30 := ⟨_, rfl⟩
  have : f ≤ g ∧ g ≤ f + 1 := by clear e7 e5 e6; omega
  rw [← hf] at e7 e6 ⊢
  rw [← hg] at e6 ⊢
  clear hf hg
  by_cases q : mo = 12
  · have := e6 q; subst q; clear e5 e6; omega
  · clear e5 e6; omega
theorem i_uniq {n y mo d y' mo' d' : Int} (e7 : n = d + (59 * (mo - 1) + 1) / 2 + 354 * (y - 1) + (3 + 11 * y) / 30 + 1948439) (e1 : 1 ≤ mo) (e2 : mo ≤ 12) (e3 : 1 ≤ d) (e4 : d ≤ 30) (e5 : mo % 2 = 0 → mo < 12 → d ≤ 29) (e6 : mo = 12 → d ≤ 29 + (14 + 11 * y) / 30 - (3 + 11 * y) / 30)
    (f7 : n = d' + (59 * (mo' - 1) + 1) / 2 + 354 * (y' - 1) + (3 + 11 * y') / 30 + 1948439) (f1 : 1 ≤ mo') (f2 : mo' ≤ 12) (f3 : 1 ≤ d') (f4 : d' ≤ 30) (f5 : mo' % 2 = 0 → mo' < 12 → d' ≤ 29) (f6 : mo' = 12 → d' ≤ 29 + (14 + 11 * y') / 30 - (3 + 11 * y') / 30) :
    y = y' ∧ mo = mo' ∧ d = d' := by
  have a := i_in e7 e1 e2 e3 e4 e5 e6
  have b := i_in f7 f1 f2 f3 f4 f5 f6
  obtain rfl : y = y' := by clear e7 e5 e6 f7 f5 f6; omega
  refine ⟨rfl, ?_⟩
  clear a b e6 f6
  obtain ⟨G, hG⟩ : ∃ G, G = 354 * (y - 1) + (3 + 11 * y) / 30 + 1948439 := ⟨_, rfl⟩
  have g7 : n = d + (59 * (mo - 1) + 1) / 2 + G := by omega
  have h7 : n = d' + (59 * (mo' - 1) + 1) / 2 + G := by omega
  clear e7 f7 hG
  rcases Int.lt_trichotomy mo mo' with h | h | h
  · exfalso
    by_cases q : mo % 2 = 0
    · have := e5 q (by omega); clear e5 f5; omega
    · clear e5 f5; omega
  · subst h; exact ⟨rfl, by omega⟩
  · exfalso
    by_cases q : mo' % 2 = 0
    · have := f5 q (by omega); clear e5 f5; omega
    · clear e5 f5; omega
theorem c_uniq {n y mo d y' mo' d' : Int} (e7 : n = d + 30 * (mo - 1) + 365 * (y - 1) + y / 4 + 1825029) (e1 : 1 ≤ mo) (e2 : mo ≤ 13) (e3 : 1 ≤ d) (e4 : d ≤ 30) (e5 : mo = 13 → d ≤ 5 + (y + 1) / 4 - y / 4)
    (f7 : n = d' + 30 * (mo' - 1) + 365 * (y' - 1) + y' / 4 + 1825029) (f1 : 1 ≤ mo') (f2 : mo' ≤ 13) (f3 : 1 ≤ d') (f4 : d' ≤ 30) (f5 : mo' = 13 → d' ≤ 5 + (y' + 1) / 4 - y' / 4) :
    y = y' ∧ mo = mo' ∧ d = d' := by
  have a : 365 * (y - 1) + y / 4 + 1825030 ≤ n ∧ n < 365 * y + (y + 1) / 4 + 1825030 := by clear f7 f5; omega
  have b : 365 * (y' - 1) + y' / 4 + 1825030 ≤ n ∧ n < 365 * y' + (y' + 1) / 4 + 1825030 := by clear e7 e5; omega
  obtain rfl : y = y' := by clear e7 e5 f7 f5; omega
  refine ⟨rfl, ?_⟩
  clear a b e5 f5
  omega
theorem n_in {n y mo d G l : Int} (l0 : 0 ≤ l) (l1 : l ≤ 1) (e7 : mo = 1 → n = G + 80 + d) (e8 : 2 ≤ mo → mo ≤ 6 → n = G + 110 + l + 31 * (mo - 2) + d) (e9 : 7 ≤ mo → n = G + 265 + l + 30 * (mo - 7) + d) (e1 : 1 ≤ mo) (e2 : mo ≤ 12) (e3 : 1 ≤ d) (e4 : d ≤ 31) (e5 : mo = 1 → d ≤ 30 + l) (e6 : 7 ≤ mo → d ≤ 30) :
    G < n - 80 ∧ n - 80 ≤ G + 365 + l := by omega
theorem n_md {n mo d mo' d' G l : Int} (l0 : 0 ≤ l) (l1 : l ≤ 1) (e7 : mo = 1 → n = G + 80 + d) (e8 : 2 ≤ mo → mo ≤ 6 → n = G + 110 + l + 31 * (mo - 2) + d) (e9 : 7 ≤ mo → n = G + 265 + l + 30 * (mo - 7) + d) (e1 : 1 ≤ mo) (e2 : mo ≤ 12) (e3 : 1 ≤ d) (e4 : d ≤ 31) (e5 : mo = 1 → d ≤ 30 + l) (e6 : 7 ≤ mo → d ≤ 30)
    (f7 : mo' = 1 → n = G + 80 + d') (f8 : 2 ≤ mo' → mo' ≤ 6 → n = G + 110 + l + 31 * (mo' - 2) + d') (f9 : 7 ≤ mo' → n = G + 265 + l + 30 * (mo' - 7) + d') (f1 : 1 ≤ mo') (f2 : mo' ≤ 12) (f3 : 1 ≤ d') (f4 : d' ≤ 31) (f5 : mo' = 1 → d' ≤ 30 + l) (f6 : 7 ≤ mo' → d' ≤ 30) :
    mo = mo' ∧ d = d' := by
  by_cases a : mo = 1
  · replace e7 := e7 a; replace e5 := e5 a; subst a; clear e8 e9 e6; clear f5 f6; omega
  · by_cases a2 : mo ≤ 6
    · replace e8 := e8 (by omega) a2; clear e7 e9 e5 e6; by_cases b : mo' = 1 <;> by_cases b2 : mo' ≤ 6 <;> omega
    · replace e9 := e9 (by omega); replace e6 := e6 (by omega); clear e7 e8 e5; omega
theorem n_uniq {n y mo d y' mo' d' : Int} (e7 : mo = 1 → n = 365 * (y + 78 - 1) + (y + 78 - 1) / 4 - (y + 78 - 1) / 100 + (y + 78 - 1) / 400 + 1721425 + 80 + d) (e8 : 2 ≤ mo → mo ≤ 6 → n = 365 * (y + 78 - 1) + (y + 78 - 1) / 4 - (y + 78 - 1) / 100 + (y + 78 - 1) / 400 + 1721425 + 110 + lpN (y + 78) + 31 * (mo - 2) + d) (e9 : 7 ≤ mo → n = 365 * (y + 78 - 1) + (y + 78 - 1) / 4 - (y + 78 - 1) / 100 + (y + 78 - 1) / 400 + 1721425 + 265 + lpN (y + 78) + 30 * (mo - 7) + d) (e1 : 1 ≤ mo) (e2 : mo ≤ 12) (e3 : 1 ≤ d) (e4 : d ≤ 31) (e5 : mo = 1 → d ≤ 30 + lpN (y + 78)) (e6 : 7 ≤ mo → d ≤ 30)
    (f7 : mo' = 1 → n = 365 * (y' + 78 - 1) + (y' + 78 - 1) / 4 - (y' + 78 - 1) / 100 + (y' + 78 - 1) / 400 + 1721425 + 80 + d') (f8 : 2 ≤ mo' → mo' ≤ 6 → n = 365 * (y' + 78 - 1) + (y' + 78 - 1) / 4 - (y' + 78 - 1) / 100 + (y' + 78 - 1) / 400 + 1721425 + 110 + lpN (y' + 78) + 31 * (mo' - 2) + d') (f9 : 7 ≤ mo' → n = 365 * (y' + 78 - 1) + (y' + 78 - 1) / 4 - (y' + 78 - 1) / 100 + (y' + 78 - 1) / 400 + 1721425 + 265 + lpN (y' + 78) + 30 * (mo' - 7) + d') (f1 : 1 ≤ mo') (f2 : mo' ≤ 12) (f3 : 1 ≤ d') (f4 : d' ≤ 31) (f5 : mo' = 1 → d' ≤ 30 + lpN (y' + 78)) (f6 : 7 ≤ mo' → d' ≤ 30) :
    y = y' ∧ mo = mo' ∧ d = d' := by
  have l := lpN_b (y + 78)
  have l' := lpN_b (y' + 78)
  obtain ⟨a1, a2⟩ := n_in (y := y) l.1 l.2 e7 e8 e9 e1 e2 e3 e4 e5 e6
  obtain ⟨b1, b2⟩ := n_in (y := y') l'.1 l'.2 f7 f8 f9 f1 f2 f3 f4 f5 f6
  obtain rfl : y = y' := by
    have := FY_uniq (n := n - 80 - 1721425) (y := y + 78) (z := y' + 78) (by omega) (by omega) (by omega) (by omega)
    omega
  exact ⟨rfl, n_md l.1 l.2 e7 e8 e9 e1 e2 e3 e4 e5 e6 f7 f8 f9 f1 f2 f3 f4 f5 f6⟩
theorem yb_0 {n y mo d : Int} (e7 : mo ≤ 2 → n = 365 * (y - 1) + (y - 1) / 4 - (y - 1) / 100 + (y - 1) / 400 + 1721425 + (367 * mo - 362) / 12 + d) (e8 : 2 < mo → n = 365 * (y - 1) + (y - 1) / 4 - (y - 1) / 100 + (y - 1) / 400 + 1721425 + (367 * mo - 362) / 12 + d - 2 + lpN y) (e1 : 1 ≤ mo) (e2 : mo ≤ 12) (e3 : 1 ≤ d) (e4 : mo = 2 → d ≤ 28 + lpN y) (e5 : mo = 4 ∨ mo = 6 ∨ mo = 9 ∨ mo = 11 → d ≤ 30) (e6 : d ≤ 31) (hn1 : -5000000000 ≤ n) (hn2 : n ≤ 5000000000) : -20000000 ≤ y ∧ y ≤ 20000000 := by
  have a := g_in e7 e8 e1 e2 e3 e6
  have b := lpN_b y
  clear e7 e8 e4 e5
  omega
theorem ml_0 {n y mo d : Int} (e7 : mo ≤ 2 → n = 365 * (y - 1) + (y - 1) / 4 - (y - 1) / 100 + (y - 1) / 400 + 1721425 + (367 * mo - 362) / 12 + d) (e8 : 2 < mo → n = 365 * (y - 1) + (y - 1) / 4 - (y - 1) / 100 + (y - 1) / 400 + 1721425 + (367 * mo - 362) / 12 + d - 2 + lpN y) (e1 : 1 ≤ mo) (e2 : mo ≤ 12) (e3 : 1 ≤ d) (e4 : mo = 2 → d ≤ 28 + lpN y) (e5 : mo = 4 ∨ mo = 6 ∨ mo = 9 ∨ mo = 11 → d ≤ 30) (e6 : d ≤ 31) : d ≤ ([31, 28 + lpN y, 31, 30, 31, 30, 31, 31, 30, 31, 30, 31] : List Int).getD (mo - 1).toNat 0 ∧ 365 * (y - 1) + (y - 1) / 4 - (y - 1) / 100 + (y - 1) / 400 + 1721426 + (List.take (mo - 1).toNat ([31, 28 + lpN y, 31, 30, 31, 30, 31, 31, 30, 31, 30, 31] : List Int)).sum + d - 1 = n := by
  obtain ⟨l, hl⟩ : ∃ l, l = lpN y := ⟨_, rfl⟩
  have hb := lpN_b y
  rw [← hl] at hb
  obtain ⟨G, hG⟩ : ∃ G, G = 365 * (y - 1) + (y - 1) / 4 - (y - 1) / 100 + (y - 1) / 400 + 1721425 := ⟨_, rfl⟩
  have e7' : mo ≤ 2 → n = G + (367 * mo - 362) / 12 + d := by rw [hG]; exact e7
  have e8' : 2 < mo → n = G + (367 * mo - 362) / 12 + d - 2 + l := by rw [hG, hl]; exact e8
  have hf : 365 * (y - 1) + (y - 1) / 4 - (y - 1) / 100 + (y - 1) / 400 + 1721426 = G + 1 := by omega
  rw [hf]
  rw [← hl] at e4 ⊢
  clear e7 e8 hG hf hl
  have h : mo = 1 ∨ mo = 2 ∨ mo = 3 ∨ mo = 4 ∨ mo = 5 ∨ mo = 6 ∨ mo = 7 ∨ mo = 8 ∨ mo = 9 ∨ mo = 10 ∨ mo = 11 ∨ mo = 12 := by omega
  rcases h with rfl | rfl | rfl | rfl | rfl | rfl | rfl | rfl | rfl | rfl | rfl | rfl
  all_goals
    simp only [Int.sub_self, Int.reduceSub, Int.toNat_zero, Int.reduceToNat, List.getD_cons_zero, List.getD_cons_succ, List.take_zero, List.take_succ_cons, List.sum_cons, List.sum_nil]
    omega
theorem yb_1 {n y mo d : Int} (e7 : mo ≤ 2 → n = 365 * (y + 4712) + (y + 4715) / 4 + (367 * mo - 362) / 12 + d - 1) (e8 : 2 < mo → n = 365 * (y + 4712) + (y + 4715) / 4 + (367 * mo - 362) / 12 + d - 2 - (y % 4 + 3) / 4) (e1 : 1 ≤ mo) (e2 : mo ≤ 12) (e3 : 1 ≤ d) (e4 : mo = 2 → d ≤ 29 - (y % 4 + 3) / 4) (e5 : mo = 4 ∨ mo = 6 ∨ mo = 9 ∨ mo = 11 → d ≤ 30) (e6 : d ≤ 31) (hn1 : -5000000000 ≤ n) (hn2 : n ≤ 5000000000) : -20000000 ≤ y ∧ y ≤ 20000000 := by
  have a := j_in e7 e8 e1 e2 e3 e6
  clear e7 e8 e4 e5
  omega
theorem ml_1 {n y mo d : Int} (e7 : mo ≤ 2 → n = 365 * (y + 4712) + (y + 4715) / 4 + (367 * mo - 362) / 12 + d - 1) (e8 : 2 < mo → n = 365 * (y + 4712) + (y + 4715) / 4 + (367 * mo - 362) / 12 + d - 2 - (y % 4 + 3) / 4) (e1 : 1 ≤ mo) (e2 : mo ≤ 12) (e3 : 1 ≤ d) (e4 : mo = 2 → d ≤ 29 - (y % 4 + 3) / 4) (e5 : mo = 4 ∨ mo = 6 ∨ mo = 9 ∨ mo = 11 → d ≤ 30) (e6 : d ≤ 31) : d ≤ ([31, 28 + (1 - (y % 4 + 3) / 4), 31, 30, 31, 30, 31, 31, 30, 31, 30, 31] : List Int).getD (mo - 1).toNat 0 ∧ 365 * (y + 4712) + (y + 4715) / 4 + (List.take (mo - 1).toNat ([31, 28 + (1 - (y % 4 + 3) / 4), 31, 30, 31, 30, 31, 31, 30, 31, 30, 31] : List Int)).sum + d - 1 = n := by
  obtain ⟨l, hl⟩ : ∃ l, l = (1 - (y % 4 + 3) / 4) := ⟨_, rfl⟩
  have hb : 0 ≤ l ∧ l ≤ 1 := by clear e7 e8 e4 e5; omega
  obtain ⟨G, hG⟩ : ∃ G, G = 365 * (y + 4712) + (y + 4715) / 4 := ⟨_, rfl⟩
  rw [← hG] at e7 e8 ⊢
  have e8' : 2 < mo → n = G + (367 * mo - 362) / 12 + d - 3 + l := by intro h; rw [e8 h, hl]; omega
  replace e4 : mo = 2 → d ≤ 28 + l := by intro h; have := e4 h; omega
  rw [← hl]
  clear e8 hG hl
  have h : mo = 1 ∨ mo = 2 ∨ mo = 3 ∨ mo = 4 ∨ mo = 5 ∨ mo = 6 ∨ mo = 7 ∨ mo = 8 ∨ mo = 9 ∨ mo = 10 ∨ mo = 11 ∨ mo = 12 := by omega
  rcases h with rfl | rfl | rfl | rfl | rfl | rfl | rfl | rfl | rfl | rfl | rfl | rfl
  all_goals
    simp only [Int.sub_self, Int.reduceSub, Int.toNat_zero, Int.reduceToNat, List.getD_cons_zero, List.getD_cons_succ, List.take_zero, List.take_succ_cons, List.sum_cons, List.sum_nil]
    omega
theorem yb_2 {n y mo d : Int} (e7 : n = d + (59 * (mo - 1) + 1) / 2 + 354 * (y - 1) + (3 + 11 * y) / 30 + 1948439) (e1 : 1 ≤ mo) (e2 : mo ≤ 12) (e3 : 1 ≤ d) (e4 : d ≤ 30) (e5 : mo % 2 = 0 → mo < 12 → d ≤ 29) (e6 : mo = 12 → d ≤ 29 + (14 + 11 * y) / 30 - (3 + 11 * y) / 30) (hn1 : -5000000000 ≤ n) (hn2 : n ≤ 5000000000) : -20000000 ≤ y ∧ y ≤ 20000000 := by
  have a := i_in e7 e1 e2 e3 e4 e5 e6
  clear e7 e5 e6
  omega
theorem ml_2 {n y mo d : Int} (e7 : n = d + (59 * (mo - 1) + 1) / 2 + 354 * (y - 1) + (3 + 11 * y) / 30 + 1948439) (e1 : 1 ≤ mo) (e2 : mo ≤ 12) (e3 : 1 ≤ d) (e4 : d ≤ 30) (e5 : mo % 2 = 0 → mo < 12 → d ≤ 29) (e6 : mo = 12 → d ≤ 29 + (14 + 11 * y) / 30 - (3 + 11 * y) / 30) : d ≤ ([30, 29, 30, 29, 30, 29, 30, 29, 30, 29, 30, 29 + iLg y] : List Int).getD (mo - 1).toNat 0 ∧ 1948440 + 354 * (y - 1) + (3 + 11 * y) / 30 + (List.take (mo - 1).toNat ([30, 29, 30, 29, 30, 29, 30, 29, 30, 29, 30, 29 + iLg y] : List Int)).sum + d - 1 = n := by
  obtain ⟨l, hl⟩ : ∃ l, l = iLg y := ⟨_, rfl⟩
  have hb : 0 ≤ l ∧ l ≤ 1 := by unfold iLg at hl; clear e7 e5 e6; omega
  rw [← hl]
  have e6' : mo = 12 → d ≤ 29 + l := by intro h; have := e6 h; unfold iLg at hl; omega
  clear hl e6
  have h : mo = 1 ∨ mo = 2 ∨ mo = 3 ∨ mo = 4 ∨ mo = 5 ∨ mo = 6 ∨ mo = 7 ∨ mo = 8 ∨ mo = 9 ∨ mo = 10 ∨ mo = 11 ∨ mo = 12 := by omega
  rcases h with rfl | rfl | rfl | rfl | rfl | rfl | rfl | rfl | rfl | rfl | rfl | rfl
  all_goals
    simp only [Int.sub_self, Int.reduceSub, Int.toNat_zero, Int.reduceToNat, List.getD_cons_zero, List.getD_cons_succ, List.take_zero, List.take_succ_cons, List.sum_cons, List.sum_nil]
    omega
theorem yb_3 {n y mo d : Int} (e7 : n = d + 30 * (mo - 1) + 365 * (y - 1) + y / 4 + 1825029) (e1 : 1 ≤ mo) (e2 : mo ≤ 13) (e3 : 1 ≤ d) (e4 : d ≤ 30) (e5 : mo = 13 → d ≤ 5 + (y + 1) / 4 - y / 4) (hn1 : -5000000000 ≤ n) (hn2 : n ≤ 5000000000) : -20000000 ≤ y ∧ y ≤ 20000000 := by
  clear e5
  omega
theorem ml_3 {n y mo d : Int} (e7 : n = d + 30 * (mo - 1) + 365 * (y - 1) + y / 4 + 1825029) (e1 : 1 ≤ mo) (e2 : mo ≤ 13) (e3 : 1 ≤ d) (e4 : d ≤ 30) (e5 : mo = 13 → d ≤ 5 + (y + 1) / 4 - y / 4) : d ≤ ([30, 30, 30, 30, 30, 30, 30, 30, 30, 30, 30, 30, 5 + cLg y] : List Int).getD (mo - 1).toNat 0 ∧ 1825030 + 365 * (y - 1) + y / 4 + (List.take (mo - 1).toNat ([30, 30, 30, 30, 30, 30, 30, 30, 30, 30, 30, 30, 5 + cLg y] : List Int)).sum + d - 1 = n := by
  obtain ⟨l, hl⟩ : ∃ l, l = cLg y := ⟨_, rfl⟩
  have hb : 0 ≤ l ∧ l ≤ 1 := by unfold cLg at hl; clear e7 e5; omega
  rw [← hl]
  have e5' : mo = 13 → d ≤ 5 + l := by intro h; have := e5 h; unfold cLg at hl; omega
  clear hl e5
  have h : mo = 1 ∨ mo = 2 ∨ mo = 3 ∨ mo = 4 ∨ mo = 5 ∨ mo = 6 ∨ mo = 7 ∨ mo = 8 ∨ mo = 9 ∨ mo = 10 ∨ mo = 11 ∨ mo = 12 ∨ mo = 13 := by omega
  rcases h with rfl | rfl | rfl | rfl | rfl | rfl | rfl | rfl | rfl | rfl | rfl | rfl | rfl
  all_goals
    simp only [Int.sub_self, Int.reduceSub, Int.toNat_zero, Int.reduceToNat, List.getD_cons_zero, List.getD_cons_succ, List.take_zero, List.take_succ_cons, List.sum_cons, List.sum_nil]
    omega
theorem yb_4 {n y mo d : Int} (e7 : mo = 1 → n = 365 * (y + 78 - 1) + (y + 78 - 1) / 4 - (y + 78 - 1) / 100 + (y + 78 - 1) / 400 + 1721425 + 80 + d) (e8 : 2 ≤ mo → mo ≤ 6 → n = 365 * (y + 78 - 1) + (y + 78 - 1) / 4 - (y + 78 - 1) / 100 + (y + 78 - 1) / 400 + 1721425 + 110 + lpN (y + 78) + 31 * (mo - 2) + d) (e9 : 7 ≤ mo → n = 365 * (y + 78 - 1) + (y + 78 - 1) / 4 - (y + 78 - 1) / 100 + (y + 78 - 1) / 400 + 1721425 + 265 + lpN (y + 78) + 30 * (mo - 7) + d) (e1 : 1 ≤ mo) (e2 : mo ≤ 12) (e3 : 1 ≤ d) (e4 : d ≤ 31) (e5 : mo = 1 → d ≤ 30 + lpN (y + 78)) (e6 : 7 ≤ mo → d ≤ 30) (hn1 : -5000000000 ≤ n) (hn2 : n ≤ 5000000000) : -20000000 ≤ y ∧ y ≤ 20000000 := by
  have b := lpN_b (y + 78)
  have a := n_in (y := y) b.1 b.2 e7 e8 e9 e1 e2 e3 e4 e5 e6
  clear e7 e8 e9 e5 e6
  omega
theorem ml_4 {n y mo d : Int} (e7 : mo = 1 → n = 365 * (y + 78 - 1) + (y + 78 - 1) / 4 - (y + 78 - 1) / 100 + (y + 78 - 1) / 400 + 1721425 + 80 + d) (e8 : 2 ≤ mo → mo ≤ 6 → n = 365 * (y + 78 - 1) + (y + 78 - 1) / 4 - (y + 78 - 1) / 100 + (y + 78 - 1) / 400 + 1721425 + 110 + lpN (y + 78) + 31 * (mo - 2) + d) (e9 : 7 ≤ mo → n = 365 * (y + 78 - 1) + (y + 78 - 1) / 4 - (y + 78 - 1) / 100 + (y + 78 - 1) / 400 + 1721425 + 265 + lpN (y + 78) + 30 * (mo - 7) + d) (e1 : 1 ≤ mo) (e2 : mo ≤ 12) (e3 : 1 ≤ d) (e4 : d ≤ 31) (e5 : mo = 1 → d ≤ 30 + lpN (y + 78)) (e6 : 7 ≤ mo → d ≤ 30) : d ≤ ([30 + lpN (y + 78), 31, 31, 31, 31, 31, 30, 30, 30, 30, 30, 30] : List Int).getD (mo - 1).toNat 0 ∧ 365 * (y + 78 - 1) + (y + 78 - 1) / 4 - (y + 78 - 1) / 100 + (y + 78 - 1) / 400 + 1721506 + (List.take (mo - 1).toNat ([30 + lpN (y + 78), 31, 31, 31, 31, 31, 30, 30, 30, 30, 30, 30] : List Int)).sum + d - 1 = n := by
  obtain ⟨l, hl⟩ : ∃ l, l = lpN (y + 78) := ⟨_, rfl⟩
  have hb := lpN_b (y + 78)
  rw [← hl] at hb
  obtain ⟨G, hG⟩ : ∃ G, G = 365 * (y + 78 - 1) + (y + 78 - 1) / 4 - (y + 78 - 1) / 100 + (y + 78 - 1) / 400 + 1721425 := ⟨_, rfl⟩
  rw [← hG] at e7 e8 e9
  have hf : 365 * (y + 78 - 1) + (y + 78 - 1) / 4 - (y + 78 - 1) / 100 + (y + 78 - 1) / 400 + 1721506 = G + 81 := by omega
  rw [hf]
  rw [← hl] at e5 e8 e9 ⊢
  clear hG hf hl
  have h : mo = 1 ∨ mo = 2 ∨ mo = 3 ∨ mo = 4 ∨ mo = 5 ∨ mo = 6 ∨ mo = 7 ∨ mo = 8 ∨ mo = 9 ∨ mo = 10 ∨ mo = 11 ∨ mo = 12 := by omega
  rcases h with rfl | rfl | rfl | rfl | rfl | rfl | rfl | rfl | rfl | rfl | rfl | rfl
  all_goals
    simp only [Int.sub_self, Int.reduceSub, Int.toNat_zero, Int.reduceToNat, List.getD_cons_zero, List.getD_cons_succ, List.take_zero, List.take_succ_cons, List.sum_cons, List.sum_nil]
    omega
end Mine
-- CT
namespace Mine
set_option maxRecDepth 100000
set_option maxHeartbeats 8000000
open PySem PySem.W PyProof.Rows PySem.Calls
theorem still_CT : True := by w_top off; trivial
local macro_rules | `(tactic| walk_at "binaryOp Mod int int") => `(tactic| (k_here; (refine' Mine.r_mod_ii ?ba ?_; (case ba => decide); k_whole)))
local macro_rules | `(tactic| walk_at "ite") => `(tactic| (k_here; k_openite; first
  | (refine ite_pos (by ((try simp only [decide_eq_true_eq, beq_iff_eq, bne_iff_ne, ne_eq]); omega)) ?_)
  | (refine ite_neg (by ((try simp only [decide_eq_true_eq, beq_iff_eq, bne_iff_ne, ne_eq]); omega)) ?_)))
local macro_rules | `(tactic| walk_at "eval Name") => `(tactic| (k_here; (name_kind "globalImplicit"); k_dflt (refine' nameX_K ?F ?X ?T ?e ?_ ?a ?b; (case F => k_asm); (case X => k_asm); (case T => k_asm); (case a => rfl); (case b => rfl); (case e => k_is); k_whole)))
local macro_rules | `(tactic| walk_at "eval Name") => `(tactic| (k_here; (name_kind "local"); k_dflt (refine' nameX_L ?F ?v ?_ ?a ?b; (case F => k_asm); (case a => rfl); (case b => rfl); (case v => first | rfl | assumption); k_whole)))
local macro_rules | `(tactic| walk_at "binaryOp Add int bool") => `(tactic| (k_here; (first | with_reducible refine Mine.r_add_it ?_ | with_reducible refine Mine.r_add_i0 ?_)))
local macro_rules | `(tactic| walk_at "binaryOp Sub int bool") => `(tactic| (k_here; (first | with_reducible refine Mine.r_sub_it ?_ | with_reducible refine Mine.r_sub_i0 ?_)))
local macro_rules | `(tactic| walk_at "ite") => `(tactic| (k_here; k_closed; first | (with_reducible refine ite_pos ?c ?_; (case c => k_dflt decide)) | (with_reducible refine ite_neg ?c ?_; (case c => k_dflt decide))))
local macro_rules | `(tactic| walk_at "eval List") => `(tactic| (k_here; (with_reducible refine List_ ?_)))
local macro_rules | `(tactic| walk_at "eval Call Name") => `(tactic| (k_here; k_dflt (refine Call_ ?_)))
local macro_rules | `(tactic| walk_at "exec If") => `(tactic| (k_here; k_dflt (refine wpAny_If ?_)))
local macro_rules | `(tactic| walk_at "binaryOp Add float float") => `(tactic| (k_here; (with_reducible refine' Mine.r_add_ff ?hx ?hy ?bal ?bau ?bbl ?bbu ?_); k_dflt ((case hx => first | with_reducible exact Mine.c_half | with_reducible exact Mine.c_greg | with_reducible exact Mine.c_isl | with_reducible exact Mine.c_cop | with_reducible exact Mine.c_295 | with_reducible exact Mine.c_1524 | with_reducible rfl); (case hy => first | with_reducible exact Mine.c_half | with_reducible exact Mine.c_greg | with_reducible exact Mine.c_isl | with_reducible exact Mine.c_cop | with_reducible exact Mine.c_295 | with_reducible exact Mine.c_1524 | with_reducible rfl); (case bal => first | decide | (law_clear; omega) | omega); (case bau => first | decide | (law_clear; omega) | omega); (case bbl => first | decide | (law_clear; omega) | omega); (case bbu => first | decide | (law_clear; omega) | omega); k_whole)))
local macro_rules | `(tactic| walk_at "binaryOp Sub float float") => `(tactic| (k_here; (with_reducible refine' Mine.r_sub_ff ?hx ?hy ?bal ?bau ?bbl ?bbu ?_); k_dflt ((case hx => first | with_reducible exact Mine.c_half | with_reducible exact Mine.c_greg | with_reducible exact Mine.c_isl | with_reducible exact Mine.c_cop | with_reducible exact Mine.c_295 | with_reducible exact Mine.c_1524 | with_reducible rfl); (case hy => first | with_reducible exact Mine.c_half | with_reducible exact Mine.c_greg | with_reducible exact Mine.c_isl | with_reducible exact Mine.c_cop | with_reducible exact Mine.c_295 | with_reducible exact Mine.c_1524 | with_reducible rfl); (case bal => first | decide | (law_clear; omega) | omega); (case bau => first | decide | (law_clear; omega) | omega); (case bbl => first | decide | (law_clear; omega) | omega); (case bbu => first | decide | (law_clear; omega) | omega); k_whole)))
local macro_rules | `(tactic| walk_at "inplaceOp Add float float") => `(tactic| (k_here; (with_reducible refine' Mine.r_iadd_ff ?hx ?hy ?bal ?bau ?bbl ?bbu ?_); k_dflt ((case hx => first | with_reducible exact Mine.c_half | with_reducible exact Mine.c_greg | with_reducible exact Mine.c_isl | with_reducible exact Mine.c_cop | with_reducible exact Mine.c_295 | with_reducible exact Mine.c_1524 | with_reducible rfl); (case hy => first | with_reducible exact Mine.c_half | with_reducible exact Mine.c_greg | with_reducible exact Mine.c_isl | with_reducible exact Mine.c_cop | with_reducible exact Mine.c_295 | with_reducible exact Mine.c_1524 | with_reducible rfl); (case bal => first | decide | (law_clear; omega) | omega); (case bau => first | decide | (law_clear; omega) | omega); (case bbl => first | decide | (law_clear; omega) | omega); (case bbu => first | decide | (law_clear; omega) | omega); k_whole)))
local macro_rules | `(tactic| walk_at "binaryOp Add float int") => `(tactic| (k_here; (with_reducible refine' Mine.r_add_xi ?hnl ?hnu ?_); k_dflt ((case hnl => first | decide | (law_clear; omega) | omega); (case hnu => first | decide | (law_clear; omega) | omega); k_whole)))
local macro_rules | `(tactic| walk_at "binaryOp Add float int") => `(tactic| (k_here; (with_reducible refine' Mine.r_add_fi ?hx ?bal ?bau ?bbl ?bbu ?_); k_dflt ((case hx => first | with_reducible exact Mine.c_half | with_reducible exact Mine.c_greg | with_reducible exact Mine.c_isl | with_reducible exact Mine.c_cop | with_reducible exact Mine.c_295 | with_reducible exact Mine.c_1524 | with_reducible rfl); (case bal => first | decide | (law_clear; omega) | omega); (case bau => first | decide | (law_clear; omega) | omega); (case bbl => first | decide | (law_clear; omega) | omega); (case bbu => first | decide | (law_clear; omega) | omega); k_whole)))
local macro_rules | `(tactic| walk_at "binaryOp Sub float int") => `(tactic| (k_here; (with_reducible refine' Mine.r_sub_fi ?hx ?bal ?bau ?bbl ?bbu ?_); k_dflt ((case hx => first | with_reducible exact Mine.c_half | with_reducible exact Mine.c_greg | with_reducible exact Mine.c_isl | with_reducible exact Mine.c_cop | with_reducible exact Mine.c_295 | with_reducible exact Mine.c_1524 | with_reducible rfl); (case bal => first | decide | (law_clear; omega) | omega); (case bau => first | decide | (law_clear; omega) | omega); (case bbl => first | decide | (law_clear; omega) | omega); (case bbu => first | decide | (law_clear; omega) | omega); k_whole)))
local macro_rules | `(tactic| walk_at "inplaceOp Add float int") => `(tactic| (k_here; (with_reducible refine' Mine.r_iadd_fi ?hx ?bal ?bau ?bbl ?bbu ?_); k_dflt ((case hx => first | with_reducible exact Mine.c_half | with_reducible exact Mine.c_greg | with_reducible exact Mine.c_isl | with_reducible exact Mine.c_cop | with_reducible exact Mine.c_295 | with_reducible exact Mine.c_1524 | with_reducible rfl); (case bal => first | decide | (law_clear; omega) | omega); (case bau => first | decide | (law_clear; omega) | omega); (case bbl => first | decide | (law_clear; omega) | omega); (case bbu => first | decide | (law_clear; omega) | omega); k_whole)))
local macro_rules | `(tactic| walk_at "inplaceOp Sub float int") => `(tactic| (k_here; (with_reducible refine' Mine.r_isub_fi ?hx ?bal ?bau ?bbl ?bbu ?_); k_dflt ((case hx => first | with_reducible exact Mine.c_half | with_reducible exact Mine.c_greg | with_reducible exact Mine.c_isl | with_reducible exact Mine.c_cop | with_reducible exact Mine.c_295 | with_reducible exact Mine.c_1524 | with_reducible rfl); (case bal => first | decide | (law_clear; omega) | omega); (case bau => first | decide | (law_clear; omega) | omega); (case bbl => first | decide | (law_clear; omega) | omega); (case bbu => first | decide | (law_clear; omega) | omega); k_whole)))
local macro_rules | `(tactic| walk_at "binaryOp Sub int float") => `(tactic| (k_here; (with_reducible refine' Mine.r_sub_ic ?hnl ?hnu ?_); k_dflt ((case hnl => first | decide | (law_clear; omega) | omega); (case hnu => first | decide | (law_clear; omega) | omega); k_whole)))
local macro_rules | `(tactic| walk_at "binaryOp Add int float") => `(tactic| (k_here; (with_reducible refine' Mine.r_add_if ?hx ?bal ?bau ?bbl ?bbu ?_); k_dflt ((case hx => first | with_reducible exact Mine.c_half | with_reducible exact Mine.c_greg | with_reducible exact Mine.c_isl | with_reducible exact Mine.c_cop | with_reducible exact Mine.c_295 | with_reducible exact Mine.c_1524 | with_reducible rfl); (case bal => first | decide | (law_clear; omega) | omega); (case bau => first | decide | (law_clear; omega) | omega); (case bbl => first | decide | (law_clear; omega) | omega); (case bbu => first | decide | (law_clear; omega) | omega); k_whole)))
local macro_rules | `(tactic| walk_at "binaryOp Sub int float") => `(tactic| (k_here; (with_reducible refine' Mine.r_sub_if ?hx ?bal ?bau ?bbl ?bbu ?_); k_dflt ((case hx => first | with_reducible exact Mine.c_half | with_reducible exact Mine.c_greg | with_reducible exact Mine.c_isl | with_reducible exact Mine.c_cop | with_reducible exact Mine.c_295 | with_reducible exact Mine.c_1524 | with_reducible rfl); (case bal => first | decide | (law_clear; omega) | omega); (case bau => first | decide | (law_clear; omega) | omega); (case bbl => first | decide | (law_clear; omega) | omega); (case bbu => first | decide | (law_clear; omega) | omega); k_whole)))
local macro_rules | `(tactic| walk_at "binaryOp Mult float int") => `(tactic| (k_here; (with_reducible refine' Mine.r_mul_xi ?hnl ?hnu ?_); k_dflt ((case hnl => first | decide | (law_clear; omega) | omega); (case hnu => first | decide | (law_clear; omega) | omega); k_whole)))
local macro_rules | `(tactic| walk_at "binaryOp Mult float int") => `(tactic| (k_here; (with_reducible refine' Mine.r_mul_ci ?hx ?ha ?ha2 ?bnl ?bnu ?_); k_dflt ((case hx => first | with_reducible exact Mine.c_half | with_reducible exact Mine.c_greg | with_reducible exact Mine.c_isl | with_reducible exact Mine.c_cop | with_reducible exact Mine.c_295 | with_reducible exact Mine.c_1524 | with_reducible rfl); (case ha => decide); (case ha2 => decide); (case bnl => first | decide | (law_clear; omega) | omega); (case bnu => first | decide | (law_clear; omega) | omega); k_whole)))
local macro_rules | `(tactic| walk_at "binaryOp Mult float int") => `(tactic| (k_here; (with_reducible refine' Mine.r_mul_fi ?hx ?hn ?hn2 ?bal ?bau ?_); k_dflt ((case hx => first | with_reducible exact Mine.c_half | with_reducible exact Mine.c_greg | with_reducible exact Mine.c_isl | with_reducible exact Mine.c_cop | with_reducible exact Mine.c_295 | with_reducible exact Mine.c_1524 | with_reducible rfl); (case hn => decide); (case hn2 => decide); (case bal => first | decide | (law_clear; omega) | omega); (case bau => first | decide | (law_clear; omega) | omega); k_whole)))
local macro_rules | `(tactic| walk_at "binaryOp Mult int float") => `(tactic| (k_here; (with_reducible refine' Mine.r_mul_if ?hx ?hn ?hn2 ?bal ?bau ?_); k_dflt ((case hx => first | with_reducible exact Mine.c_half | with_reducible exact Mine.c_greg | with_reducible exact Mine.c_isl | with_reducible exact Mine.c_cop | with_reducible exact Mine.c_295 | with_reducible exact Mine.c_1524 | with_reducible rfl); (case hn => decide); (case hn2 => decide); (case bal => first | decide | (law_clear; omega) | omega); (case bau => first | decide | (law_clear; omega) | omega); k_whole)))
local macro_rules | `(tactic| walk_at "binaryOp Mod float int") => `(tactic| (k_here; (with_reducible refine' Mine.r_mod_q ?hA ?hx ?hn ?hn2 ?bal ?bau ?_); k_dflt ((case hA => exact rfl); (case hx => first | with_reducible exact Mine.c_half | with_reducible exact Mine.c_greg | with_reducible exact Mine.c_isl | with_reducible exact Mine.c_cop | with_reducible exact Mine.c_295 | with_reducible exact Mine.c_1524 | with_reducible rfl); (case hn => decide); (case hn2 => decide); (case bal => first | decide | (law_clear; omega) | omega); (case bau => first | decide | (law_clear; omega) | omega); k_whole); intro r9 hr9 hr0 hr1))
local macro_rules | `(tactic| walk_at "binaryOp Div float int") => `(tactic| (k_here; (with_reducible refine' Mine.r_div_fi ?hA ?hn ?hn2 ?_); k_dflt ((case hA => exact rfl); (case hn => decide); (case hn2 => decide); k_whole)))
local macro_rules | `(tactic| walk_at "binaryOp Div float float") => `(tactic| (k_here; (with_reducible refine' Mine.r_div_fc ?hA ?hz ?_); k_dflt ((case hA => exact rfl); (case hz => decide +kernel); k_whole)))
local macro_rules | `(tactic| walk_at "binaryOp Div float float") => `(tactic| (k_here; (with_reducible refine' Mine.r_div_ff ?hA ?hy ?hb ?hb2 ?_); k_dflt ((case hA => exact rfl); (case hy => first | with_reducible exact Mine.c_half | with_reducible exact Mine.c_greg | with_reducible exact Mine.c_isl | with_reducible exact Mine.c_cop | with_reducible exact Mine.c_295 | with_reducible exact Mine.c_1524 | with_reducible rfl); (case hb => decide); (case hb2 => decide); k_whole)))
local macro_rules | `(tactic| walk_at "binaryOp Div int float") => `(tactic| (k_here; (with_reducible refine' Mine.r_div_ic ?hA ?hnl ?hnu ?hz ?_); k_dflt ((case hA => exact rfl); (case hnl => first | decide | (law_clear; omega) | omega); (case hnu => first | decide | (law_clear; omega) | omega); (case hz => decide +kernel); k_whole)))
local macro_rules | `(tactic| walk_at "binaryOp Div int int") => `(tactic| (k_here; (with_reducible refine' Mine.r_div_ii ?hA ?hb ?hal ?hau ?_); k_dflt ((case hA => exact rfl); (case hb => decide); (case hal => first | decide | (law_clear; omega) | omega); (case hau => first | decide | (law_clear; omega) | omega); k_whole)))
local macro_rules | `(tactic| walk_at "call builtin:math.floor") => `(tactic| (k_here; (with_reducible refine' Mine.r_floor_g ?hA ?hx ?hm0 ?hm1 ?ha0 ?ha1 ?hd0 ?hd1 ?_); k_dflt ((case hA => exact rfl); (case hx => first | with_reducible exact rfl | exact rfl); (case hm0 => first | decide | (law_clear; omega) | omega); (case hm1 => first | decide | (law_clear; omega) | omega); (case ha0 => first | decide | (law_clear; omega) | omega); (case ha1 => first | decide | (law_clear; omega) | omega); (case hd0 => first | decide | (law_clear; omega) | omega); (case hd1 => first | decide | (law_clear; omega) | omega); k_whole); intro q9 hq0))
local macro_rules | `(tactic| walk_at "call builtin:math.floor") => `(tactic| (k_here; (with_reducible refine' Mine.r_floor_jm ?hA ?hx ?b0 ?b1 ?_); k_dflt ((case hA => exact rfl); (case hx => first | with_reducible exact rfl | exact rfl); (case b0 => first | decide | (law_clear; omega) | omega); (case b1 => first | decide | (law_clear; omega) | omega); k_whole); intro q9 hq0))
local macro_rules | `(tactic| walk_at "call builtin:math.floor") => `(tactic| (k_here; (with_reducible refine' Mine.r_floor_je ?hA ?hx ?b0 ?b1 ?_); k_dflt ((case hA => exact rfl); (case hx => first | with_reducible exact rfl | exact rfl); (case b0 => first | decide | (law_clear; omega) | omega); (case b1 => first | decide | (law_clear; omega) | omega); k_whole); intro q9 hq0))
local macro_rules | `(tactic| walk_at "call builtin:math.floor") => `(tactic| (k_here; (with_reducible refine' Mine.r_floor_jd ?hA ?hx ?bnl ?bnu ?_); k_dflt ((case hA => exact rfl); (case hx => first | with_reducible exact rfl | exact rfl); (case bnl => first | decide | (law_clear; omega) | omega); (case bnu => first | decide | (law_clear; omega) | omega); k_whole); intro q9 hq0))
local macro_rules | `(tactic| walk_at "call builtin:math.floor") => `(tactic| (k_here; (with_reducible refine' Mine.r_floor_jc ?hA ?hx ?bnl ?bnu ?_); k_dflt ((case hA => exact rfl); (case hx => first | with_reducible exact rfl | exact rfl); (case bnl => first | decide | (law_clear; omega) | omega); (case bnu => first | decide | (law_clear; omega) | omega); k_whole); intro q9 hq0))
local macro_rules | `(tactic| walk_at "call builtin:math.floor") => `(tactic| (k_here; (with_reducible refine' Mine.r_floor_ii ?hA ?hb ?hb2 ?bal ?bau ?k1 ?k2 ?_); k_dflt ((case hA => exact rfl); (case hb => decide); (case hb2 => decide); (case bal => first | decide | (law_clear; omega) | omega); (case bau => first | decide | (law_clear; omega) | omega); (case k1 => first | decide | (law_clear; omega) | omega); (case k2 => first | decide | (law_clear; omega) | omega); k_whole); intro q9 hq0))
local macro_rules | `(tactic| walk_at "call builtin:math.floor") => `(tactic| (k_here; (with_reducible refine' Mine.r_floor_div ?hA ?hb ?hb2 ?bal ?bau ?k1 ?k2 ?_); k_dflt ((case hA => exact rfl); (case hb => decide); (case hb2 => decide); (case bal => first | decide | (law_clear; omega) | omega); (case bau => first | decide | (law_clear; omega) | omega); (case k1 => first | decide | (law_clear; omega) | omega); (case k2 => first | decide | (law_clear; omega) | omega); k_whole); intro q9 hq0))
local macro_rules | `(tactic| walk_at "call builtin:math.floor") => `(tactic| (k_here; (with_reducible refine' Mine.r_floor_hf ?hA ?bal ?bau ?_); k_dflt ((case hA => exact rfl); (case bal => first | decide | (law_clear; omega) | omega); (case bau => first | decide | (law_clear; omega) | omega); k_whole); intro q9 hq0))
local macro_rules | `(tactic| walk_at "call builtin:math.ceil") => `(tactic| (k_here; (with_reducible refine' Mine.r_ceil_div ?hA ?hb ?hb2 ?bal ?bau ?k1 ?k2 ?_); k_dflt ((case hA => exact rfl); (case hb => decide); (case hb2 => decide); (case bal => first | decide | (law_clear; omega) | omega); (case bau => first | decide | (law_clear; omega) | omega); (case k1 => first | decide | (law_clear; omega) | omega); (case k2 => first | decide | (law_clear; omega) | omega); k_whole); intro q9 hq0 hq1))
local macro_rules | `(tactic| walk_at "call builtin:math.ceil") => `(tactic| (k_here; (with_reducible refine' Mine.r_ceil_hf ?hA ?bal ?bau ?_); k_dflt ((case hA => exact rfl); (case bal => first | decide | (law_clear; omega) | omega); (case bau => first | decide | (law_clear; omega) | omega); k_whole); intro q9 hq0 hq1))
local macro_rules | `(tactic| walk_at "call type:int") => `(tactic| (k_here; (with_reducible refine' Mine.r_trunc_hf ?hA ?bal ?bau ?he ?_); k_dflt ((case hA => exact rfl); (case bal => first | decide | (law_clear; omega) | omega); (case bau => first | decide | (law_clear; omega) | omega); (case he => first | decide | (law_clear; omega) | omega); k_whole); intro q9 hq0))
local macro_rules | `(tactic| walk_at "compareOp Lt float int") => `(tactic| (k_here; (with_reducible refine' Mine.r_lt_fi ?hx ?bal ?bau ?_); k_dflt ((case hx => first | with_reducible exact Mine.c_half | with_reducible exact Mine.c_greg | with_reducible exact Mine.c_isl | with_reducible exact Mine.c_cop | with_reducible exact Mine.c_295 | with_reducible exact Mine.c_1524 | with_reducible rfl); (case bal => first | decide | (law_clear; omega) | omega); (case bau => first | decide | (law_clear; omega) | omega); k_whole)))
local macro_rules | `(tactic| walk_at "compareOp NotEq float float") => `(tactic| (k_here; (with_reducible refine' Mine.r_ne_ff ?hx ?hy ?bal ?bau ?bbl ?bbu ?hab ?_); k_dflt ((case hx => first | with_reducible exact Mine.c_half | with_reducible exact Mine.c_greg | with_reducible exact Mine.c_isl | with_reducible exact Mine.c_cop | with_reducible exact Mine.c_295 | with_reducible exact Mine.c_1524 | with_reducible rfl); (case hy => first | with_reducible exact Mine.c_half | with_reducible exact Mine.c_greg | with_reducible exact Mine.c_isl | with_reducible exact Mine.c_cop | with_reducible exact Mine.c_295 | with_reducible exact Mine.c_1524 | with_reducible rfl); (case bal => first | decide | (law_clear; omega) | omega); (case bau => first | decide | (law_clear; omega) | omega); (case bbl => first | decide | (law_clear; omega) | omega); (case bbu => first | decide | (law_clear; omega) | omega); (case hab => omega); k_whole)))
def dayBody : List Stmt := match (bodyOf 72)[4]? with
  | some (PySem.Stmt.For _ _ b _ _) => b
  | _ => []
def turnBody : List Stmt := match dayBody[1]? with
  | some (PySem.Stmt.For _ _ b _ _) => b
  | _ => []
def pairBody : List Stmt := match dayBody[3]? with
  | some (PySem.Stmt.For _ _ b _ _) => b
  | _ => []
abbrev lawEnv (L a : Addr) (ccd : Value) : Env := envOf (Str.ofString "law") (scopeOf 72) L a ccd
abbrev lawTop (dp un : Nat) (gd : Option (List Code)) (L a : Addr) (ccd : Value) (outer : List Env) : Around := ktrTop dp un gd (Str.ofString "law") (scopeOf 72) L a ccd [] outer
section
variable {w : World} {p : Program} {loose : List Str} {mean : ExcName → Option Value} {mg mb : Str → Option Value} {dp un : Nat} {gd : Option (List Code)} {a : Addr} {ccd : Value} {outer : List Env} {A₀ : Around} {base h₀ : Heap} {L : Addr} {m : Str → Option Value} {news : List (Addr × Obj)} {s : Shared} {Q : Flow → Shared → Prop}
local macro_rules | `(tactic| k_all) => `(tactic| with_reducible assumption)
local macro_rules | `(tactic| walk_at "call ref") => `(tactic| (k_here; (with_reducible show wpAny _ _ (call (Value.ref 238) _) _ _ _); k_dflt (refine' Mine.lawdate_0 _ _ _ ?k1 ?k2 ?k3 ?k4 ?k5 ?kK ?kd ?ku ?hn1 ?hn2 ?_; (case k1 => k_asm); (case k2 => k_asm); (case k3 => k_asm); (case k4 => k_asm); (case k5 => k_asm); (case kK => first | exact rfl | assumption); (case kd => ((try dsimp only [ktrTop]); omega)); (case ku => ((try dsimp only [ktrTop]); omega)); (case hn1 => first | omega | assumption); (case hn2 => first | omega | assumption); all_goals (intro y9 mo9 d9 g1 g2 g3 g4 g5 g6 g7 g8 D9 u1 u2 u3 c9 h9 tk9 F9 N9 l9; (have hyb9 := Mine.yb_0 g7 g8 g1 g2 g3 g4 g5 g6 (by with_reducible assumption) (by with_reducible assumption)); (obtain ⟨hdl9, hsm9⟩ := Mine.ml_0 g7 g8 g1 g2 g3 g4 g5 g6); (try simp only [AllLt, and_true] at l9); (try dsimp only); (try k_sweep); (try k_fold)))))
local macro_rules | `(tactic| walk_at "call ref") => `(tactic| (k_here; (with_reducible show wpAny _ _ (call (Value.ref 226) _) _ _ _); k_dflt (refine' Mine.lawmonths_0 _ _ _ ?k1 ?k2 ?k3 ?k4 ?k5 ?kK ?kd ?ku  ?_; (case k1 => k_asm); (case k2 => k_asm); (case k3 => k_asm); (case k4 => k_asm); (case k5 => k_asm); (case kK => first | exact rfl | assumption); (case kd => ((try dsimp only [ktrTop]); omega)); (case ku => ((try dsimp only [ktrTop]); omega)); all_goals (intro D9 u1 u2 u3 u4 u5 u6 u7 u8 u9 u10 u11 u12 h9 tk9 F9 N9 l9; (try simp only [AllLt, and_true] at l9); (try dsimp only); (try k_sweep); (try k_fold)))))
local macro_rules | `(tactic| walk_at "call ref") => `(tactic| (k_here; (with_reducible show wpAny _ _ (call (Value.ref 231) _) _ _ _); k_dflt (refine' Mine.lawfirst_0 _ _ _ ?k1 ?k2 ?k3 ?k4 ?k5 ?kK ?kd ?ku ?hy1 ?hy2 ?_; (case k1 => k_asm); (case k2 => k_asm); (case k3 => k_asm); (case k4 => k_asm); (case k5 => k_asm); (case kK => first | exact rfl | assumption); (case kd => ((try dsimp only [ktrTop]); omega)); (case ku => ((try dsimp only [ktrTop]); omega)); (case hy1 => first | omega | assumption); (case hy2 => first | omega | assumption); all_goals (intro t9 h9 tk9 F9 N9; (try simp only [AllLt, and_true] at l9); (try dsimp only); (try k_sweep); (try k_fold)))))
local macro_rules | `(tactic| walk_at "call ref") => `(tactic| (k_here; (with_reducible show wpAny _ _ (call (Value.ref 245) _) _ _ _); k_dflt (refine' Mine.lawback_0 _ _ _ _ _ _ _ _ ?k1 ?k2 ?k3 ?k4 ?k5 ?kK ?kd ?ku ?e7 ?e8 ?e1 ?e2 ?e3 ?e4 ?e5 ?e6 ?hn1 ?hn2 ?_; (case k1 => k_asm); (case k2 => k_asm); (case k3 => k_asm); (case k4 => k_asm); (case k5 => k_asm); (case kK => first | exact rfl | assumption); (case kd => ((try dsimp only [ktrTop]); omega)); (case ku => ((try dsimp only [ktrTop]); omega)); (case e7 => first | assumption | omega); (case e8 => first | assumption | omega); (case e1 => first | assumption | omega); (case e2 => first | assumption | omega); (case e3 => first | assumption | omega); (case e4 => first | assumption | omega); (case e5 => first | assumption | omega); (case e6 => first | assumption | omega); (case hn1 => first | assumption | omega); (case hn2 => first | assumption | omega); all_goals (intro t9 h9 tk9 F9 N9; (try simp only [AllLt, and_true] at l9); (try dsimp only); (try k_sweep); (try k_fold)))))
theorem turn_0 (n : Int) (t tk : Tok) (I DD : Addr) (it : Obj) (c : Nat) (hn1 : -5000000000 ≤ n) (hn2 : n ≤ 5000000000) (B : Below A₀ base outer h₀) (F : Fr h₀ L s.heap m) (X : (hd.heap_39 w.params).In h₀) (N : News h₀ L s.heap ((I, it) :: (DD, ({ cls := .type "list", data := .seq #[] c } : Obj)) :: news)) (T : Top p loose mean mg mb h₀)
    (hdp : dp + 20 < recursionLimit) (hun : un + 200 < cLine)
    (hmn : m (Str.ofString "number") = some (.int n t)) (hmk : m (Str.ofString "kind") = some (.int 0 tk)) (hmd : m (Str.ofString "dates") = some (.ref DD)) (hID : @Ne Nat I DD) (hDn : ∀ p ∈ news, p.1 ≠ DD)
    (hret : ∀ y mo d, 1 ≤ mo → mo ≤ 12 → 1 ≤ d → (mo = 2 → d ≤ 28 + lpN y) → (mo = 4 ∨ mo = 6 ∨ mo = 9 ∨ mo = 11 → d ≤ 30) → d ≤ 31 → (mo ≤ 2 → n = 365 * (y - 1) + (y - 1) / 4 - (y - 1) / 100 + (y - 1) / 400 + 1721425 + (367 * mo - 362) / 12 + d) → (2 < mo → n = 365 * (y - 1) + (y - 1) / 4 - (y - 1) / 100 + (y - 1) / 400 + 1721425 + (367 * mo - 362) / 12 + d - 2 + lpN y) → ∀ (D : Addr) (t1 t2 t3 : Tok) (c1 c' : Nat) (m' : Str → Option Value) (h' : Heap) (tk' : Nat), m' (Str.ofString "number") = some (.int n t) → m' (Str.ofString "dates") = some (.ref DD) → Fr h₀ L h' m' → News h₀ L h' ((D, tup3 y mo d t1 t2 t3 c1) :: (I, it) :: (DD, ({ cls := .type "list", data := .seq #[.ref D] c' } : Obj)) :: news) → @LT.lt Nat _ I D → @LT.lt Nat _ DD D → AllLt D news → Q .next { s with heap := h', toks := tk' }) :
    wpAny (model PySem.Challenge.rw_ak5015_01.row.prog w) (lawTop dp un gd L a ccd outer) (execs turnBody (lawEnv L a ccd)) Q (fun _ _ => False) s := by
  revert X; k_fill; intro X
  show wpAny _ (ktrTop _ _ _ _ ⟨_, _, _, _, _⟩ _ _ _ _ _) (execs (_ :: _ :: _ :: _ :: _ :: _ :: _ :: _ :: []) (envOf _ ⟨_, _, _, _, _⟩ _ _ _)) _ _ _
  k_steps
  rename News _ _ _ _ => NZ
  have NZ2 := drop1 (drop1 (drop1 NZ))
  simp only [List.push_toArray, List.cons_append, List.nil_append] at NZ2
  rename Fr _ _ _ _ => FZ
  refine hret _ _ _ ?_ ?_ ?_ ?_ ?_ ?_ ?_ ?_ _ _ _ _ _ _ _ _ _ (by exact hmn) (by exact hmd) FZ NZ2 (And.left (by with_reducible assumption)) (And.left (And.right (by with_reducible assumption))) (And.right (And.right (by with_reducible assumption)))
  all_goals with_reducible assumption
local macro_rules | `(tactic| walk_at "call ref") => `(tactic| (k_here; (with_reducible show wpAny _ _ (call (Value.ref 238) _) _ _ _); k_dflt (refine' Mine.lawdate_1 _ _ _ ?k1 ?k2 ?k3 ?k4 ?k5 ?kK ?kd ?ku ?hn1 ?hn2 ?_; (case k1 => k_asm); (case k2 => k_asm); (case k3 => k_asm); (case k4 => k_asm); (case k5 => k_asm); (case kK => first | exact rfl | assumption); (case kd => ((try dsimp only [ktrTop]); omega)); (case ku => ((try dsimp only [ktrTop]); omega)); (case hn1 => first | omega | assumption); (case hn2 => first | omega | assumption); all_goals (intro y9 mo9 d9 g1 g2 g3 g4 g5 g6 g7 g8 D9 u1 u2 u3 c9 h9 tk9 F9 N9 l9; (have hyb9 := Mine.yb_1 g7 g8 g1 g2 g3 g4 g5 g6 (by with_reducible assumption) (by with_reducible assumption)); (obtain ⟨hdl9, hsm9⟩ := Mine.ml_1 g7 g8 g1 g2 g3 g4 g5 g6); (try simp only [AllLt, and_true] at l9); (try dsimp only); (try k_sweep); (try k_fold)))))
local macro_rules | `(tactic| walk_at "call ref") => `(tactic| (k_here; (with_reducible show wpAny _ _ (call (Value.ref 226) _) _ _ _); k_dflt (refine' Mine.lawmonths_1 _ _ _ ?k1 ?k2 ?k3 ?k4 ?k5 ?kK ?kd ?ku  ?_; (case k1 => k_asm); (case k2 => k_asm); (case k3 => k_asm); (case k4 => k_asm); (case k5 => k_asm); (case kK => first | exact rfl | assumption); (case kd => ((try dsimp only [ktrTop]); omega)); (case ku => ((try dsimp only [ktrTop]); omega)); all_goals (intro D9 u1 u2 u3 u4 u5 u6 u7 u8 u9 u10 u11 u12 h9 tk9 F9 N9 l9; (try simp only [AllLt, and_true] at l9); (try dsimp only); (try k_sweep); (try k_fold)))))
local macro_rules | `(tactic| walk_at "call ref") => `(tactic| (k_here; (with_reducible show wpAny _ _ (call (Value.ref 231) _) _ _ _); k_dflt (refine' Mine.lawfirst_1 _ _ _ ?k1 ?k2 ?k3 ?k4 ?k5 ?kK ?kd ?ku ?hy1 ?hy2 ?_; (case k1 => k_asm); (case k2 => k_asm); (case k3 => k_asm); (case k4 => k_asm); (case k5 => k_asm); (case kK => first | exact rfl | assumption); (case kd => ((try dsimp only [ktrTop]); omega)); (case ku => ((try dsimp only [ktrTop]); omega)); (case hy1 => first | omega | assumption); (case hy2 => first | omega | assumption); all_goals (intro t9 h9 tk9 F9 N9; (try simp only [AllLt, and_true] at l9); (try dsimp only); (try k_sweep); (try k_fold)))))
local macro_rules | `(tactic| walk_at "call ref") => `(tactic| (k_here; (with_reducible show wpAny _ _ (call (Value.ref 245) _) _ _ _); k_dflt (refine' Mine.lawback_1 _ _ _ _ _ _ _ _ ?k1 ?k2 ?k3 ?k4 ?k5 ?kK ?kd ?ku ?e7 ?e8 ?e1 ?e2 ?e3 ?e4 ?e5 ?e6 ?hn1 ?hn2 ?_; (case k1 => k_asm); (case k2 => k_asm); (case k3 => k_asm); (case k4 => k_asm); (case k5 => k_asm); (case kK => first | exact rfl | assumption); (case kd => ((try dsimp only [ktrTop]); omega)); (case ku => ((try dsimp only [ktrTop]); omega)); (case e7 => first | assumption | omega); (case e8 => first | assumption | omega); (case e1 => first | assumption | omega); (case e2 => first | assumption | omega); (case e3 => first | assumption | omega); (case e4 => first | assumption | omega); (case e5 => first | assumption | omega); (case e6 => first | assumption | omega); (case hn1 => first | assumption | omega); (case hn2 => first | assumption | omega); all_goals (intro t9 h9 tk9 F9 N9; (try simp only [AllLt, and_true] at l9); (try dsimp only); (try k_sweep); (try k_fold)))))
theorem turn_1 (n : Int) (t tk : Tok) (I DD D0 : Addr) (it : Obj) (c : Nat) (hn1 : -5000000000 ≤ n) (hn2 : n ≤ 5000000000) (B : Below A₀ base outer h₀) (F : Fr h₀ L s.heap m) (X : (hd.heap_39 w.params).In h₀) (N : News h₀ L s.heap ((I, it) :: (DD, ({ cls := .type "list", data := .seq #[.ref D0] c } : Obj)) :: news)) (T : Top p loose mean mg mb h₀)
    (hdp : dp + 20 < recursionLimit) (hun : un + 200 < cLine)
    (hmn : m (Str.ofString "number") = some (.int n t)) (hmk : m (Str.ofString "kind") = some (.int 1 tk)) (hmd : m (Str.ofString "dates") = some (.ref DD)) (hID : @Ne Nat I DD) (hDn : ∀ p ∈ news, p.1 ≠ DD)
    (hret : ∀ y mo d, 1 ≤ mo → mo ≤ 12 → 1 ≤ d → (mo = 2 → d ≤ 29 - (y % 4 + 3) / 4) → (mo = 4 ∨ mo = 6 ∨ mo = 9 ∨ mo = 11 → d ≤ 30) → d ≤ 31 → (mo ≤ 2 → n = 365 * (y + 4712) + (y + 4715) / 4 + (367 * mo - 362) / 12 + d - 1) → (2 < mo → n = 365 * (y + 4712) + (y + 4715) / 4 + (367 * mo - 362) / 12 + d - 2 - (y % 4 + 3) / 4) → ∀ (D : Addr) (t1 t2 t3 : Tok) (c1 c' : Nat) (m' : Str → Option Value) (h' : Heap) (tk' : Nat), m' (Str.ofString "number") = some (.int n t) → m' (Str.ofString "dates") = some (.ref DD) → Fr h₀ L h' m' → News h₀ L h' ((D, tup3 y mo d t1 t2 t3 c1) :: (I, it) :: (DD, ({ cls := .type "list", data := .seq #[.ref D0, .ref D] c' } : Obj)) :: news) → @LT.lt Nat _ I D → @LT.lt Nat _ DD D → AllLt D news → Q .next { s with heap := h', toks := tk' }) :
    wpAny (model PySem.Challenge.rw_ak5015_01.row.prog w) (lawTop dp un gd L a ccd outer) (execs turnBody (lawEnv L a ccd)) Q (fun _ _ => False) s := by
  revert X; k_fill; intro X
  show wpAny _ (ktrTop _ _ _ _ ⟨_, _, _, _, _⟩ _ _ _ _ _) (execs (_ :: _ :: _ :: _ :: _ :: _ :: _ :: _ :: []) (envOf _ ⟨_, _, _, _, _⟩ _ _ _)) _ _ _
  k_steps
  rename News _ _ _ _ => NZ
  have NZ2 := drop1 (drop1 (drop1 NZ))
  simp only [List.push_toArray, List.cons_append, List.nil_append] at NZ2
  rename Fr _ _ _ _ => FZ
  refine hret _ _ _ ?_ ?_ ?_ ?_ ?_ ?_ ?_ ?_ _ _ _ _ _ _ _ _ _ (by exact hmn) (by exact hmd) FZ NZ2 (And.left (by with_reducible assumption)) (And.left (And.right (by with_reducible assumption))) (And.right (And.right (by with_reducible assumption)))
  all_goals with_reducible assumption
local macro_rules | `(tactic| walk_at "call ref") => `(tactic| (k_here; (with_reducible show wpAny _ _ (call (Value.ref 238) _) _ _ _); k_dflt (refine' Mine.lawdate_2 _ _ _ ?k1 ?k2 ?k3 ?k4 ?k5 ?kK ?kd ?ku ?hn1 ?hn2 ?_; (case k1 => k_asm); (case k2 => k_asm); (case k3 => k_asm); (case k4 => k_asm); (case k5 => k_asm); (case kK => first | exact rfl | assumption); (case kd => ((try dsimp only [ktrTop]); omega)); (case ku => ((try dsimp only [ktrTop]); omega)); (case hn1 => first | omega | assumption); (case hn2 => first | omega | assumption); all_goals (intro y9 mo9 d9 g1 g2 g3 g4 g5 g6 g7 D9 u1 u2 u3 c9 h9 tk9 F9 N9 l9; (have hyb9 := Mine.yb_2 g7 g1 g2 g3 g4 g5 g6 (by with_reducible assumption) (by with_reducible assumption)); (obtain ⟨hdl9, hsm9⟩ := Mine.ml_2 g7 g1 g2 g3 g4 g5 g6); (try simp only [AllLt, and_true] at l9); (try dsimp only); (try k_sweep); (try k_fold)))))
local macro_rules | `(tactic| walk_at "call ref") => `(tactic| (k_here; (with_reducible show wpAny _ _ (call (Value.ref 226) _) _ _ _); k_dflt (refine' Mine.lawmonths_2 _ _ _ ?k1 ?k2 ?k3 ?k4 ?k5 ?kK ?kd ?ku  ?_; (case k1 => k_asm); (case k2 => k_asm); (case k3 => k_asm); (case k4 => k_asm); (case k5 => k_asm); (case kK => first | exact rfl | assumption); (case kd => ((try dsimp only [ktrTop]); omega)); (case ku => ((try dsimp only [ktrTop]); omega)); all_goals (intro D9 u1 u2 u3 u4 u5 u6 u7 u8 u9 u10 u11 u12 h9 tk9 F9 N9 l9; (try simp only [AllLt, and_true] at l9); (try dsimp only); (try k_sweep); (try k_fold)))))
local macro_rules | `(tactic| walk_at "call ref") => `(tactic| (k_here; (with_reducible show wpAny _ _ (call (Value.ref 231) _) _ _ _); k_dflt (refine' Mine.lawfirst_2 _ _ _ ?k1 ?k2 ?k3 ?k4 ?k5 ?kK ?kd ?ku ?hy1 ?hy2 ?_; (case k1 => k_asm); (case k2 => k_asm); (case k3 => k_asm); (case k4 => k_asm); (case k5 => k_asm); (case kK => first | exact rfl | assumption); (case kd => ((try dsimp only [ktrTop]); omega)); (case ku => ((try dsimp only [ktrTop]); omega)); (case hy1 => first | omega | assumption); (case hy2 => first | omega | assumption); all_goals (intro t9 h9 tk9 F9 N9; (try simp only [AllLt, and_true] at l9); (try dsimp only); (try k_sweep); (try k_fold)))))
local macro_rules | `(tactic| walk_at "call ref") => `(tactic| (k_here; (with_reducible show wpAny _ _ (call (Value.ref 245) _) _ _ _); k_dflt (refine' Mine.lawback_2 _ _ _ _ _ _ _ _ ?k1 ?k2 ?k3 ?k4 ?k5 ?kK ?kd ?ku ?e7 ?e1 ?e2 ?e3 ?e4 ?e5 ?e6 ?hn1 ?hn2 ?_; (case k1 => k_asm); (case k2 => k_asm); (case k3 => k_asm); (case k4 => k_asm); (case k5 => k_asm); (case kK => first | exact rfl | assumption); (case kd => ((try dsimp only [ktrTop]); omega)); (case ku => ((try dsimp only [ktrTop]); omega)); (case e7 => first | assumption | omega); (case e1 => first | assumption | omega); (case e2 => first | assumption | omega); (case e3 => first | assumption | omega); (case e4 => first | assumption | omega); (case e5 => first | assumption | omega); (case e6 => first | assumption | omega); (case hn1 => first | assumption | omega); (case hn2 => first | assumption | omega); all_goals (intro t9 h9 tk9 F9 N9; (try simp only [AllLt, and_true] at l9); (try dsimp only); (try k_sweep); (try k_fold)))))
theorem turn_2 (n : Int) (t tk : Tok) (I DD D0 D1 : Addr) (it : Obj) (c : Nat) (hn1 : -5000000000 ≤ n) (hn2 : n ≤ 5000000000) (B : Below A₀ base outer h₀) (F : Fr h₀ L s.heap m) (X : (hd.heap_39 w.params).In h₀) (N : News h₀ L s.heap ((I, it) :: (DD, ({ cls := .type "list", data := .seq #[.ref D0, .ref D1] c } : Obj)) :: news)) (T : Top p loose mean mg mb h₀)
    (hdp : dp + 20 < recursionLimit) (hun : un + 200 < cLine)
    (hmn : m (Str.ofString "number") = some (.int n t)) (hmk : m (Str.ofString "kind") = some (.int 2 tk)) (hmd : m (Str.ofString "dates") = some (.ref DD)) (hID : @Ne Nat I DD) (hDn : ∀ p ∈ news, p.1 ≠ DD)
    (hret : ∀ y mo d, 1 ≤ mo → mo ≤ 12 → 1 ≤ d → d ≤ 30 → (mo % 2 = 0 → mo < 12 → d ≤ 29) → (mo = 12 → d ≤ 29 + (14 + 11 * y) / 30 - (3 + 11 * y) / 30) → n = d + (59 * (mo - 1) + 1) / 2 + 354 * (y - 1) + (3 + 11 * y) / 30 + 1948439 → ∀ (D : Addr) (t1 t2 t3 : Tok) (c1 c' : Nat) (m' : Str → Option Value) (h' : Heap) (tk' : Nat), m' (Str.ofString "number") = some (.int n t) → m' (Str.ofString "dates") = some (.ref DD) → Fr h₀ L h' m' → News h₀ L h' ((D, tup3 y mo d t1 t2 t3 c1) :: (I, it) :: (DD, ({ cls := .type "list", data := .seq #[.ref D0, .ref D1, .ref D] c' } : Obj)) :: news) → @LT.lt Nat _ I D → @LT.lt Nat _ DD D → AllLt D news → Q .next { s with heap := h', toks := tk' }) :
    wpAny (model PySem.Challenge.rw_ak5015_01.row.prog w) (lawTop dp un gd L a ccd outer) (execs turnBody (lawEnv L a ccd)) Q (fun _ _ => False) s := by
  revert X; k_fill; intro X
  show wpAny _ (ktrTop _ _ _ _ ⟨_, _, _, _, _⟩ _ _ _ _ _) (execs (_ :: _ :: _ :: _ :: _ :: _ :: _ :: _ :: []) (envOf _ ⟨_, _, _, _, _⟩ _ _ _)) _ _ _
  k_steps
  rename News _ _ _ _ => NZ
  have NZ2 := drop1 (drop1 (drop1 NZ))
  simp only [List.push_toArray, List.cons_append, List.nil_append] at NZ2
  rename Fr _ _ _ _ => FZ
  refine hret _ _ _ ?_ ?_ ?_ ?_ ?_ ?_ ?_ _ _ _ _ _ _ _ _ _ (by exact hmn) (by exact hmd) FZ NZ2 (And.left (by with_reducible assumption)) (And.left (And.right (by with_reducible assumption))) (And.right (And.right (by with_reducible assumption)))
  all_goals with_reducible assumption
local macro_rules | `(tactic| walk_at "call ref") => `(tactic| (k_here; (with_reducible show wpAny _ _ (call (Value.ref 238) _) _ _ _); k_dflt (refine' Mine.lawdate_3 _ _ _ ?k1 ?k2 ?k3 ?k4 ?k5 ?kK ?kd ?ku ?hn1 ?hn2 ?_; (case k1 => k_asm); (case k2 => k_asm); (case k3 => k_asm); (case k4 => k_asm); (case k5 => k_asm); (case kK => first | exact rfl | assumption); (case kd => ((try dsimp only [ktrTop]); omega)); (case ku => ((try dsimp only [ktrTop]); omega)); (case hn1 => first | omega | assumption); (case hn2 => first | omega | assumption); all_goals (intro y9 mo9 d9 g1 g2 g3 g4 g5 g6 D9 u1 u2 u3 c9 h9 tk9 F9 N9 l9; (have hyb9 := Mine.yb_3 g6 g1 g2 g3 g4 g5 (by with_reducible assumption) (by with_reducible assumption)); (obtain ⟨hdl9, hsm9⟩ := Mine.ml_3 g6 g1 g2 g3 g4 g5); (try simp only [AllLt, and_true] at l9); (try dsimp only); (try k_sweep); (try k_fold)))))
local macro_rules | `(tactic| walk_at "call ref") => `(tactic| (k_here; (with_reducible show wpAny _ _ (call (Value.ref 226) _) _ _ _); k_dflt (refine' Mine.lawmonths_3 _ _ _ ?k1 ?k2 ?k3 ?k4 ?k5 ?kK ?kd ?ku  ?_; (case k1 => k_asm); (case k2 => k_asm); (case k3 => k_asm); (case k4 => k_asm); (case k5 => k_asm); (case kK => first | exact rfl | assumption); (case kd => ((try dsimp only [ktrTop]); omega)); (case ku => ((try dsimp only [ktrTop]); omega)); all_goals (intro D9 u1 u2 u3 u4 u5 u6 u7 u8 u9 u10 u11 u12 u13 h9 tk9 F9 N9 l9; (try simp only [AllLt, and_true] at l9); (try dsimp only); (try k_sweep); (try k_fold)))))
local macro_rules | `(tactic| walk_at "call ref") => `(tactic| (k_here; (with_reducible show wpAny _ _ (call (Value.ref 231) _) _ _ _); k_dflt (refine' Mine.lawfirst_3 _ _ _ ?k1 ?k2 ?k3 ?k4 ?k5 ?kK ?kd ?ku ?hy1 ?hy2 ?_; (case k1 => k_asm); (case k2 => k_asm); (case k3 => k_asm); (case k4 => k_asm); (case k5 => k_asm); (case kK => first | exact rfl | assumption); (case kd => ((try dsimp only [ktrTop]); omega)); (case ku => ((try dsimp only [ktrTop]); omega)); (case hy1 => first | omega | assumption); (case hy2 => first | omega | assumption); all_goals (intro t9 h9 tk9 F9 N9; (try simp only [AllLt, and_true] at l9); (try dsimp only); (try k_sweep); (try k_fold)))))
local macro_rules | `(tactic| walk_at "call ref") => `(tactic| (k_here; (with_reducible show wpAny _ _ (call (Value.ref 245) _) _ _ _); k_dflt (refine' Mine.lawback_3 _ _ _ _ _ _ _ _ ?k1 ?k2 ?k3 ?k4 ?k5 ?kK ?kd ?ku ?e7 ?e1 ?e2 ?e3 ?e4 ?e5 ?hn1 ?hn2 ?_; (case k1 => k_asm); (case k2 => k_asm); (case k3 => k_asm); (case k4 => k_asm); (case k5 => k_asm); (case kK => first | exact rfl | assumption); (case kd => ((try dsimp only [ktrTop]); omega)); (case ku => ((try dsimp only [ktrTop]); omega)); (case e7 => first | assumption | omega); (case e1 => first | assumption | omega); (case e2 => first | assumption | omega); (case e3 => first | assumption | omega); (case e4 => first | assumption | omega); (case e5 => first | assumption | omega); (case hn1 => first | assumption | omega); (case hn2 => first | assumption | omega); all_goals (intro t9 h9 tk9 F9 N9; (try simp only [AllLt, and_true] at l9); (try dsimp only); (try k_sweep); (try k_fold)))))
theorem turn_3 (n : Int) (t tk : Tok) (I DD D0 D1 D2 : Addr) (it : Obj) (c : Nat) (hn1 : -5000000000 ≤ n) (hn2 : n ≤ 5000000000) (B : Below A₀ base outer h₀) (F : Fr h₀ L s.heap m) (X : (hd.heap_39 w.params).In h₀) (N : News h₀ L s.heap ((I, it) :: (DD, ({ cls := .type "list", data := .seq #[.ref D0, .ref D1, .ref D2] c } : Obj)) :: news)) (T : Top p loose mean mg mb h₀)
    (hdp : dp + 20 < recursionLimit) (hun : un + 200 < cLine)
    (hmn : m (Str.ofString "number") = some (.int n t)) (hmk : m (Str.ofString "kind") = some (.int 3 tk)) (hmd : m (Str.ofString "dates") = some (.ref DD)) (hID : @Ne Nat I DD) (hDn : ∀ p ∈ news, p.1 ≠ DD)
    (hret : ∀ y mo d, 1 ≤ mo → mo ≤ 13 → 1 ≤ d → d ≤ 30 → (mo = 13 → d ≤ 5 + (y + 1) / 4 - y / 4) → n = d + 30 * (mo - 1) + 365 * (y - 1) + y / 4 + 1825029 → ∀ (D : Addr) (t1 t2 t3 : Tok) (c1 c' : Nat) (m' : Str → Option Value) (h' : Heap) (tk' : Nat), m' (Str.ofString "number") = some (.int n t) → m' (Str.ofString "dates") = some (.ref DD) → Fr h₀ L h' m' → News h₀ L h' ((D, tup3 y mo d t1 t2 t3 c1) :: (I, it) :: (DD, ({ cls := .type "list", data := .seq #[.ref D0, .ref D1, .ref D2, .ref D] c' } : Obj)) :: news) → @LT.lt Nat _ I D → @LT.lt Nat _ DD D → AllLt D news → Q .next { s with heap := h', toks := tk' }) :
    wpAny (model PySem.Challenge.rw_ak5015_01.row.prog w) (lawTop dp un gd L a ccd outer) (execs turnBody (lawEnv L a ccd)) Q (fun _ _ => False) s := by
  revert X; k_fill; intro X
  show wpAny _ (ktrTop _ _ _ _ ⟨_, _, _, _, _⟩ _ _ _ _ _) (execs (_ :: _ :: _ :: _ :: _ :: _ :: _ :: _ :: []) (envOf _ ⟨_, _, _, _, _⟩ _ _ _)) _ _ _
  k_steps
  rename News _ _ _ _ => NZ
  have NZ2 := drop1 (drop1 (drop1 NZ))
  simp only [List.push_toArray, List.cons_append, List.nil_append] at NZ2
  rename Fr _ _ _ _ => FZ
  refine hret _ _ _ ?_ ?_ ?_ ?_ ?_ ?_ _ _ _ _ _ _ _ _ _ (by exact hmn) (by exact hmd) FZ NZ2 (And.left (by with_reducible assumption)) (And.left (And.right (by with_reducible assumption))) (And.right (And.right (by with_reducible assumption)))
  all_goals with_reducible assumption
local macro_rules | `(tactic| walk_at "call ref") => `(tactic| (k_here; (with_reducible show wpAny _ _ (call (Value.ref 238) _) _ _ _); k_dflt (refine' Mine.lawdate_4 _ _ _ ?k1 ?k2 ?k3 ?k4 ?k5 ?kK ?kd ?ku ?hn1 ?hn2 ?_; (case k1 => k_asm); (case k2 => k_asm); (case k3 => k_asm); (case k4 => k_asm); (case k5 => k_asm); (case kK => first | exact rfl | assumption); (case kd => ((try dsimp only [ktrTop]); omega)); (case ku => ((try dsimp only [ktrTop]); omega)); (case hn1 => first | omega | assumption); (case hn2 => first | omega | assumption); all_goals (intro y9 mo9 d9 g1 g2 g3 g4 g5 g6 g7 g8 g9 D9 u1 u2 u3 c9 h9 tk9 F9 N9 l9; (have hyb9 := Mine.yb_4 g7 g8 g9 g1 g2 g3 g4 g5 g6 (by with_reducible assumption) (by with_reducible assumption)); (obtain ⟨hdl9, hsm9⟩ := Mine.ml_4 g7 g8 g9 g1 g2 g3 g4 g5 g6); (try simp only [AllLt, and_true] at l9); (try dsimp only); (try k_sweep); (try k_fold)))))
local macro_rules | `(tactic| walk_at "call ref") => `(tactic| (k_here; (with_reducible show wpAny _ _ (call (Value.ref 226) _) _ _ _); k_dflt (refine' Mine.lawmonths_4 _ _ _ ?k1 ?k2 ?k3 ?k4 ?k5 ?kK ?kd ?ku  ?_; (case k1 => k_asm); (case k2 => k_asm); (case k3 => k_asm); (case k4 => k_asm); (case k5 => k_asm); (case kK => first | exact rfl | assumption); (case kd => ((try dsimp only [ktrTop]); omega)); (case ku => ((try dsimp only [ktrTop]); omega)); all_goals (intro D9 u1 u2 u3 u4 u5 u6 u7 u8 u9 u10 u11 u12 h9 tk9 F9 N9 l9; (try simp only [AllLt, and_true] at l9); (try dsimp only); (try k_sweep); (try k_fold)))))
local macro_rules | `(tactic| walk_at "call ref") => `(tactic| (k_here; (with_reducible show wpAny _ _ (call (Value.ref 231) _) _ _ _); k_dflt (refine' Mine.lawfirst_4 _ _ _ ?k1 ?k2 ?k3 ?k4 ?k5 ?kK ?kd ?ku ?hy1 ?hy2 ?_; (case k1 => k_asm); (case k2 => k_asm); (case k3 => k_asm); (case k4 => k_asm); (case k5 => k_asm); (case kK => first | exact rfl | assumption); (case kd => ((try dsimp only [ktrTop]); omega)); (case ku => ((try dsimp only [ktrTop]); omega)); (case hy1 => first | omega | assumption); (case hy2 => first | omega | assumption); all_goals (intro t9 h9 tk9 F9 N9; (try simp only [AllLt, and_true] at l9); (try dsimp only); (try k_sweep); (try k_fold)))))
local macro_rules | `(tactic| walk_at "call ref") => `(tactic| (k_here; (with_reducible show wpAny _ _ (call (Value.ref 245) _) _ _ _); k_dflt (refine' Mine.lawback_4 _ _ _ _ _ _ _ _ ?k1 ?k2 ?k3 ?k4 ?k5 ?kK ?kd ?ku ?e7 ?e8 ?e9 ?e1 ?e2 ?e3 ?e4 ?e5 ?e6 ?hn1 ?hn2 ?_; (case k1 => k_asm); (case k2 => k_asm); (case k3 => k_asm); (case k4 => k_asm); (case k5 => k_asm); (case kK => first | exact rfl | assumption); (case kd => ((try dsimp only [ktrTop]); omega)); (case ku => ((try dsimp only [ktrTop]); omega)); (case e7 => first | assumption | omega); (case e8 => first | assumption | omega); (case e9 => first | assumption | omega); (case e1 => first | assumption | omega); (case e2 => first | assumption | omega); (case e3 => first | assumption | omega); (case e4 => first | assumption | omega); (case e5 => first | assumption | omega); (case e6 => first | assumption | omega); (case hn1 => first | assumption | omega); (case hn2 => first | assumption | omega); all_goals (intro t9 h9 tk9 F9 N9; (try simp only [AllLt, and_true] at l9); (try dsimp only); (try k_sweep); (try k_fold)))))
theorem turn_4 (n : Int) (t tk : Tok) (I DD D0 D1 D2 D3 : Addr) (it : Obj) (c : Nat) (hn1 : -5000000000 ≤ n) (hn2 : n ≤ 5000000000) (B : Below A₀ base outer h₀) (F : Fr h₀ L s.heap m) (X : (hd.heap_39 w.params).In h₀) (N : News h₀ L s.heap ((I, it) :: (DD, ({ cls := .type "list", data := .seq #[.ref D0, .ref D1, .ref D2, .ref D3] c } : Obj)) :: news)) (T : Top p loose mean mg mb h₀)
    (hdp : dp + 20 < recursionLimit) (hun : un + 200 < cLine)
    (hmn : m (Str.ofString "number") = some (.int n t)) (hmk : m (Str.ofString "kind") = some (.int 4 tk)) (hmd : m (Str.ofString "dates") = some (.ref DD)) (hID : @Ne Nat I DD) (hDn : ∀ p ∈ news, p.1 ≠ DD)
    (hret : ∀ y mo d, 1 ≤ mo → mo ≤ 12 → 1 ≤ d → d ≤ 31 → (mo = 1 → d ≤ 30 + lpN (y + 78)) → (7 ≤ mo → d ≤ 30) → (mo = 1 → n = 365 * (y + 78 - 1) + (y + 78 - 1) / 4 - (y + 78 - 1) / 100 + (y + 78 - 1) / 400 + 1721425 + 80 + d) → (2 ≤ mo → mo ≤ 6 → n = 365 * (y + 78 - 1) + (y + 78 - 1) / 4 - (y + 78 - 1) / 100 + (y + 78 - 1) / 400 + 1721425 + 110 + lpN (y + 78) + 31 * (mo - 2) + d) → (7 ≤ mo → n = 365 * (y + 78 - 1) + (y + 78 - 1) / 4 - (y + 78 - 1) / 100 + (y + 78 - 1) / 400 + 1721425 + 265 + lpN (y + 78) + 30 * (mo - 7) + d) → ∀ (D : Addr) (t1 t2 t3 : Tok) (c1 c' : Nat) (m' : Str → Option Value) (h' : Heap) (tk' : Nat), m' (Str.ofString "number") = some (.int n t) → m' (Str.ofString "dates") = some (.ref DD) → Fr h₀ L h' m' → News h₀ L h' ((D, tup3 y mo d t1 t2 t3 c1) :: (I, it) :: (DD, ({ cls := .type "list", data := .seq #[.ref D0, .ref D1, .ref D2, .ref D3, .ref D] c' } : Obj)) :: news) → @LT.lt Nat _ I D → @LT.lt Nat _ DD D → AllLt D news → Q .next { s with heap := h', toks := tk' }) :
    wpAny (model PySem.Challenge.rw_ak5015_01.row.prog w) (lawTop dp un gd L a ccd outer) (execs turnBody (lawEnv L a ccd)) Q (fun _ _ => False) s := by
  revert X; k_fill; intro X
  show wpAny _ (ktrTop _ _ _ _ ⟨_, _, _, _, _⟩ _ _ _ _ _) (execs (_ :: _ :: _ :: _ :: _ :: _ :: _ :: _ :: []) (envOf _ ⟨_, _, _, _, _⟩ _ _ _)) _ _ _
  k_steps
  rename News _ _ _ _ => NZ
  have NZ2 := drop1 (drop1 (drop1 NZ))
  simp only [List.push_toArray, List.cons_append, List.nil_append] at NZ2
  rename Fr _ _ _ _ => FZ
  refine hret _ _ _ ?_ ?_ ?_ ?_ ?_ ?_ ?_ ?_ ?_ _ _ _ _ _ _ _ _ _ (by exact hmn) (by exact hmd) FZ NZ2 (And.left (by with_reducible assumption)) (And.left (And.right (by with_reducible assumption))) (And.right (And.right (by with_reducible assumption)))
  all_goals with_reducible assumption
end
end Mine
-- CP
namespace Mine
set_option maxRecDepth 100000
set_option maxHeartbeats 8000000
open PySem PySem.W PyProof.Rows PySem.Calls
theorem still_CP : True := by w_top off; trivial
local macro_rules | `(tactic| walk_at "binaryOp Mod int int") => `(tactic| (k_here; (refine' Mine.r_mod_ii ?ba ?_; (case ba => decide); k_whole)))
local macro_rules | `(tactic| walk_at "ite") => `(tactic| (k_here; k_openite; first
  | (refine ite_pos (by ((try simp only [decide_eq_true_eq, beq_iff_eq, bne_iff_ne, ne_eq]); omega)) ?_)
  | (refine ite_neg (by ((try simp only [decide_eq_true_eq, beq_iff_eq, bne_iff_ne, ne_eq]); omega)) ?_)))
local macro_rules | `(tactic| walk_at "eval Name") => `(tactic| (k_here; (name_kind "globalImplicit"); k_dflt (refine' nameX_K ?F ?X ?T ?e ?_ ?a ?b; (case F => k_asm); (case X => k_asm); (case T => k_asm); (case a => rfl); (case b => rfl); (case e => k_is); k_whole)))
local macro_rules | `(tactic| walk_at "eval Name") => `(tactic| (k_here; (name_kind "local"); k_dflt (refine' nameX_L ?F ?v ?_ ?a ?b; (case F => k_asm); (case a => rfl); (case b => rfl); (case v => first | rfl | assumption); k_whole)))
local macro_rules | `(tactic| walk_at "binaryOp Add int bool") => `(tactic| (k_here; (first | with_reducible refine Mine.r_add_it ?_ | with_reducible refine Mine.r_add_i0 ?_)))
local macro_rules | `(tactic| walk_at "binaryOp Sub int bool") => `(tactic| (k_here; (first | with_reducible refine Mine.r_sub_it ?_ | with_reducible refine Mine.r_sub_i0 ?_)))
local macro_rules | `(tactic| walk_at "ite") => `(tactic| (k_here; k_closed; first | (with_reducible refine ite_pos ?c ?_; (case c => k_dflt decide)) | (with_reducible refine ite_neg ?c ?_; (case c => k_dflt decide))))
local macro_rules | `(tactic| walk_at "eval List") => `(tactic| (k_here; (with_reducible refine List_ ?_)))
local macro_rules | `(tactic| walk_at "eval Call Name") => `(tactic| (k_here; k_dflt (refine Call_ ?_)))
local macro_rules | `(tactic| walk_at "exec If") => `(tactic| (k_here; k_dflt (refine wpAny_If ?_)))
local macro_rules | `(tactic| walk_at "binaryOp Add float float") => `(tactic| (k_here; (with_reducible refine' Mine.r_add_ff ?hx ?hy ?bal ?bau ?bbl ?bbu ?_); k_dflt ((case hx => first | with_reducible exact Mine.c_half | with_reducible exact Mine.c_greg | with_reducible exact Mine.c_isl | with_reducible exact Mine.c_cop | with_reducible exact Mine.c_295 | with_reducible exact Mine.c_1524 | with_reducible rfl); (case hy => first | with_reducible exact Mine.c_half | with_reducible exact Mine.c_greg | with_reducible exact Mine.c_isl | with_reducible exact Mine.c_cop | with_reducible exact Mine.c_295 | with_reducible exact Mine.c_1524 | with_reducible rfl); (case bal => first | decide | (law_clear; omega) | omega); (case bau => first | decide | (law_clear; omega) | omega); (case bbl => first | decide | (law_clear; omega) | omega); (case bbu => first | decide | (law_clear; omega) | omega); k_whole)))
local macro_rules | `(tactic| walk_at "binaryOp Sub float float") => `(tactic| (k_here; (with_reducible refine' Mine.r_sub_ff ?hx ?hy ?bal ?bau ?bbl ?bbu ?_); k_dflt ((case hx => first | with_reducible exact Mine.c_half | with_reducible exact Mine.c_greg | with_reducible exact Mine.c_isl | with_reducible exact Mine.c_cop | with_reducible exact Mine.c_295 | with_reducible exact Mine.c_1524 | with_reducible rfl); (case hy => first | with_reducible exact Mine.c_half | with_reducible exact Mine.c_greg | with_reducible exact Mine.c_isl | with_reducible exact Mine.c_cop | with_reducible exact Mine.c_295 | with_reducible exact Mine.c_1524 | with_reducible rfl); (case bal => first | decide | (law_clear; omega) | omega); (case bau => first | decide | (law_clear; omega) | omega); (case bbl => first | decide | (law_clear; omega) | omega); (case bbu => first | decide | (law_clear; omega) | omega); k_whole)))
local macro_rules | `(tactic| walk_at "inplaceOp Add float float") => `(tactic| (k_here; (with_reducible refine' Mine.r_iadd_ff ?hx ?hy ?bal ?bau ?bbl ?bbu ?_); k_dflt ((case hx => first | with_reducible exact Mine.c_half | with_reducible exact Mine.c_greg | with_reducible exact Mine.c_isl | with_reducible exact Mine.c_cop | with_reducible exact Mine.c_295 | with_reducible exact Mine.c_1524 | with_reducible rfl); (case hy => first | with_reducible exact Mine.c_half | with_reducible exact Mine.c_greg | with_reducible exact Mine.c_isl | with_reducible exact Mine.c_cop | with_reducible exact Mine.c_295 | with_reducible exact Mine.c_1524 | with_reducible rfl); (case bal => first | decide | (law_clear; omega) | omega); (case bau => first | decide | (law_clear; omega) | omega); (case bbl => first | decide | (law_clear; omega) | omega); (case bbu => first | decide | (law_clear; omega) | omega); k_whole)))
local macro_rules | `(tactic| walk_at "binaryOp Add float int") => `(tactic| (k_here; (with_reducible refine' Mine.r_add_xi ?hnl ?hnu ?_); k_dflt ((case hnl => first | decide | (law_clear; omega) | omega); (case hnu => first | decide | (law_clear; omega) | omega); k_whole)))
local macro_rules | `(tactic| walk_at "binaryOp Add float int") => `(tactic| (k_here; (with_reducible refine' Mine.r_add_fi ?hx ?bal ?bau ?bbl ?bbu ?_); k_dflt ((case hx => first | with_reducible exact Mine.c_half | with_reducible exact Mine.c_greg | with_reducible exact Mine.c_isl | with_reducible exact Mine.c_cop | with_reducible exact Mine.c_295 | with_reducible exact Mine.c_1524 | with_reducible rfl); (case bal => first | decide | (law_clear; omega) | omega); (case bau => first | decide | (law_clear; omega) | omega); (case bbl => first | decide | (law_clear; omega) | omega); (case bbu => first | decide | (law_clear; omega) | omega); k_whole)))
local macro_rules | `(tactic| walk_at "binaryOp Sub float int") => `(tactic| (k_here; (with_reducible refine' Mine.r_sub_fi ?hx ?bal ?bau ?bbl ?bbu ?_); k_dflt ((case hx => first | with_reducible exact Mine.c_half | with_reducible exact Mine.c_greg | with_reducible exact Mine.c_isl | with_reducible exact Mine.c_cop | with_reducible exact Mine.c_295 | with_reducible exact Mine.c_1524 | with_reducible rfl); (case bal => first | decide | (law_clear; omega) | omega); (case bau => first | decide | (law_clear; omega) | omega); (case bbl => first | decide | (law_clear; omega) | omega); (case bbu => first | decide | (law_clear; omega) | omega); k_whole)))
local macro_rules | `(tactic| walk_at "inplaceOp Add float int") => `(tactic| (k_here; (with_reducible refine' Mine.r_iadd_fi ?hx ?bal ?bau ?bbl ?bbu ?_); k_dflt ((case hx => first | with_reducible exact Mine.c_half | with_reducible exact Mine.c_greg | with_reducible exact Mine.c_isl | with_reducible exact Mine.c_cop | with_reducible exact Mine.c_295 | with_reducible exact Mine.c_1524 | with_reducible rfl); (case bal => first | decide | (law_clear; omega) | omega); (case bau => first | decide | (law_clear; omega) | omega); (case bbl => first | decide | (law_clear; omega) | omega); (case bbu => first | decide | (law_clear; omega) | omega); k_whole)))
local macro_rules | `(tactic| walk_at "inplaceOp Sub float int") => `(tactic| (k_here; (with_reducible refine' Mine.r_isub_fi ?hx ?bal ?bau ?bbl ?bbu ?_); k_dflt ((case hx => first | with_reducible exact Mine.c_half | with_reducible exact Mine.c_greg | with_reducible exact Mine.c_isl | with_reducible exact Mine.c_cop | with_reducible exact Mine.c_295 | with_reducible exact Mine.c_1524 | with_reducible rfl); (case bal => first | decide | (law_clear; omega) | omega); (case bau => first | decide | (law_clear; omega) | omega); (case bbl => first | decide | (law_clear; omega) | omega); (case bbu => first | decide | (law_clear; omega) | omega); k_whole)))
local macro_rules | `(tactic| walk_at "binaryOp Sub int float") => `(tactic| (k_here; (with_reducible refine' Mine.r_sub_ic ?hnl ?hnu ?_); k_dflt ((case hnl => first | decide | (law_clear; omega) | omega); (case hnu => first | decide | (law_clear; omega) | omega); k_whole)))
local macro_rules | `(tactic| walk_at "binaryOp Add int float") => `(tactic| (k_here; (with_reducible refine' Mine.r_add_if ?hx ?bal ?bau ?bbl ?bbu ?_); k_dflt ((case hx => first | with_reducible exact Mine.c_half | with_reducible exact Mine.c_greg | with_reducible exact Mine.c_isl | with_reducible exact Mine.c_cop | with_reducible exact Mine.c_295 | with_reducible exact Mine.c_1524 | with_reducible rfl); (case bal => first | decide | (law_clear; omega) | omega); (case bau => first | decide | (law_clear; omega) | omega); (case bbl => first | decide | (law_clear; omega) | omega); (case bbu => first | decide | (law_clear; omega) | omega); k_whole)))
local macro_rules | `(tactic| walk_at "binaryOp Sub int float") => `(tactic| (k_here; (with_reducible refine' Mine.r_sub_if ?hx ?bal ?bau ?bbl ?bbu ?_); k_dflt ((case hx => first | with_reducible exact Mine.c_half | with_reducible exact Mine.c_greg | with_reducible exact Mine.c_isl | with_reducible exact Mine.c_cop | with_reducible exact Mine.c_295 | with_reducible exact Mine.c_1524 | with_reducible rfl); (case bal => first | decide | (law_clear; omega) | omega); (case bau => first | decide | (law_clear; omega) | omega); (case bbl => first | decide | (law_clear; omega) | omega); (case bbu => first | decide | (law_clear; omega) | omega); k_whole)))
local macro_rules | `(tactic| walk_at "binaryOp Mult float int") => `(tactic| (k_here; (with_reducible refine' Mine.r_mul_xi ?hnl ?hnu ?_); k_dflt ((case hnl => first | decide | (law_clear; omega) | omega); (case hnu => first | decide | (law_clear; omega) | omega); k_whole)))
local macro_rules | `(tactic| walk_at "binaryOp Mult float int") => `(tactic| (k_here; (with_reducible refine' Mine.r_mul_ci ?hx ?ha ?ha2 ?bnl ?bnu ?_); k_dflt ((case hx => first | with_reducible exact Mine.c_half | with_reducible exact Mine.c_greg | with_reducible exact Mine.c_isl | with_reducible exact Mine.c_cop | with_reducible exact Mine.c_295 | with_reducible exact Mine.c_1524 | with_reducible rfl); (case ha => decide); (case ha2 => decide); (case bnl => first | decide | (law_clear; omega) | omega); (case bnu => first | decide | (law_clear; omega) | omega); k_whole)))
local macro_rules | `(tactic| walk_at "binaryOp Mult float int") => `(tactic| (k_here; (with_reducible refine' Mine.r_mul_fi ?hx ?hn ?hn2 ?bal ?bau ?_); k_dflt ((case hx => first | with_reducible exact Mine.c_half | with_reducible exact Mine.c_greg | with_reducible exact Mine.c_isl | with_reducible exact Mine.c_cop | with_reducible exact Mine.c_295 | with_reducible exact Mine.c_1524 | with_reducible rfl); (case hn => decide); (case hn2 => decide); (case bal => first | decide | (law_clear; omega) | omega); (case bau => first | decide | (law_clear; omega) | omega); k_whole)))
local macro_rules | `(tactic| walk_at "binaryOp Mult int float") => `(tactic| (k_here; (with_reducible refine' Mine.r_mul_if ?hx ?hn ?hn2 ?bal ?bau ?_); k_dflt ((case hx => first | with_reducible exact Mine.c_half | with_reducible exact Mine.c_greg | with_reducible exact Mine.c_isl | with_reducible exact Mine.c_cop | with_reducible exact Mine.c_295 | with_reducible exact Mine.c_1524 | with_reducible rfl); (case hn => decide); (case hn2 => decide); (case bal => first | decide | (law_clear; omega) | omega); (case bau => first | decide | (law_clear; omega) | omega); k_whole)))
local macro_rules | `(tactic| walk_at "binaryOp Mod float int") => `(tactic| (k_here; (with_reducible refine' Mine.r_mod_q ?hA ?hx ?hn ?hn2 ?bal ?bau ?_); k_dflt ((case hA => exact rfl); (case hx => first | with_reducible exact Mine.c_half | with_reducible exact Mine.c_greg | with_reducible exact Mine.c_isl | with_reducible exact Mine.c_cop | with_reducible exact Mine.c_295 | with_reducible exact Mine.c_1524 | with_reducible rfl); (case hn => decide); (case hn2 => decide); (case bal => first | decide | (law_clear; omega) | omega); (case bau => first | decide | (law_clear; omega) | omega); k_whole); intro r9 hr9 hr0 hr1))
local macro_rules | `(tactic| walk_at "binaryOp Div float int") => `(tactic| (k_here; (with_reducible refine' Mine.r_div_fi ?hA ?hn ?hn2 ?_); k_dflt ((case hA => exact rfl); (case hn => decide); (case hn2 => decide); k_whole)))
local macro_rules | `(tactic| walk_at "binaryOp Div float float") => `(tactic| (k_here; (with_reducible refine' Mine.r_div_fc ?hA ?hz ?_); k_dflt ((case hA => exact rfl); (case hz => decide +kernel); k_whole)))
local macro_rules | `(tactic| walk_at "binaryOp Div float float") => `(tactic| (k_here; (with_reducible refine' Mine.r_div_ff ?hA ?hy ?hb ?hb2 ?_); k_dflt ((case hA => exact rfl); (case hy => first | with_reducible exact Mine.c_half | with_reducible exact Mine.c_greg | with_reducible exact Mine.c_isl | with_reducible exact Mine.c_cop | with_reducible exact Mine.c_295 | with_reducible exact Mine.c_1524 | with_reducible rfl); (case hb => decide); (case hb2 => decide); k_whole)))
local macro_rules | `(tactic| walk_at "binaryOp Div int float") => `(tactic| (k_here; (with_reducible refine' Mine.r_div_ic ?hA ?hnl ?hnu ?hz ?_); k_dflt ((case hA => exact rfl); (case hnl => first | decide | (law_clear; omega) | omega); (case hnu => first | decide | (law_clear; omega) | omega); (case hz => decide +kernel); k_whole)))
local macro_rules | `(tactic| walk_at "binaryOp Div int int") => `(tactic| (k_here; (with_reducible refine' Mine.r_div_ii ?hA ?hb ?hal ?hau ?_); k_dflt ((case hA => exact rfl); (case hb => decide); (case hal => first | decide | (law_clear; omega) | omega); (case hau => first | decide | (law_clear; omega) | omega); k_whole)))
local macro_rules | `(tactic| walk_at "call builtin:math.floor") => `(tactic| (k_here; (with_reducible refine' Mine.r_floor_g ?hA ?hx ?hm0 ?hm1 ?ha0 ?ha1 ?hd0 ?hd1 ?_); k_dflt ((case hA => exact rfl); (case hx => first | with_reducible exact rfl | exact rfl); (case hm0 => first | decide | (law_clear; omega) | omega); (case hm1 => first | decide | (law_clear; omega) | omega); (case ha0 => first | decide | (law_clear; omega) | omega); (case ha1 => first | decide | (law_clear; omega) | omega); (case hd0 => first | decide | (law_clear; omega) | omega); (case hd1 => first | decide | (law_clear; omega) | omega); k_whole); intro q9 hq0))
local macro_rules | `(tactic| walk_at "call builtin:math.floor") => `(tactic| (k_here; (with_reducible refine' Mine.r_floor_jm ?hA ?hx ?b0 ?b1 ?_); k_dflt ((case hA => exact rfl); (case hx => first | with_reducible exact rfl | exact rfl); (case b0 => first | decide | (law_clear; omega) | omega); (case b1 => first | decide | (law_clear; omega) | omega); k_whole); intro q9 hq0))
local macro_rules | `(tactic| walk_at "call builtin:math.floor") => `(tactic| (k_here; (with_reducible refine' Mine.r_floor_je ?hA ?hx ?b0 ?b1 ?_); k_dflt ((case hA => exact rfl); (case hx => first | with_reducible exact rfl | exact rfl); (case b0 => first | decide | (law_clear; omega) | omega); (case b1 => first | decide | (law_clear; omega) | omega); k_whole); intro q9 hq0))
local macro_rules | `(tactic| walk_at "call builtin:math.floor") => `(tactic| (k_here; (with_reducible refine' Mine.r_floor_jd ?hA ?hx ?bnl ?bnu ?_); k_dflt ((case hA => exact rfl); (case hx => first | with_reducible exact rfl | exact rfl); (case bnl => first | decide | (law_clear; omega) | omega); (case bnu => first | decide | (law_clear; omega) | omega); k_whole); intro q9 hq0))
local macro_rules | `(tactic| walk_at "call builtin:math.floor") => `(tactic| (k_here; (with_reducible refine' Mine.r_floor_jc ?hA ?hx ?bnl ?bnu ?_); k_dflt ((case hA => exact rfl); (case hx => first | with_reducible exact rfl | exact rfl); (case bnl => first | decide | (law_clear; omega) | omega); (case bnu => first | decide | (law_clear; omega) | omega); k_whole); intro q9 hq0))
local macro_rules | `(tactic| walk_at "call builtin:math.floor") => `(tactic| (k_here; (with_reducible refine' Mine.r_floor_ii ?hA ?hb ?hb2 ?bal ?bau ?k1 ?k2 ?_); k_dflt ((case hA => exact rfl); (case hb => decide); (case hb2 => decide); (case bal => first | decide | (law_clear; omega) | omega); (case bau => first | decide | (law_clear; omega) | omega); (case k1 => first | decide | (law_clear; omega) | omega); (case k2 => first | decide | (law_clear; omega) | omega); k_whole); intro q9 hq0))
local macro_rules | `(tactic| walk_at "call builtin:math.floor") => `(tactic| (k_here; (with_reducible refine' Mine.r_floor_div ?hA ?hb ?hb2 ?bal ?bau ?k1 ?k2 ?_); k_dflt ((case hA => exact rfl); (case hb => decide); (case hb2 => decide); (case bal => first | decide | (law_clear; omega) | omega); (case bau => first | decide | (law_clear; omega) | omega); (case k1 => first | decide | (law_clear; omega) | omega); (case k2 => first | decide | (law_clear; omega) | omega); k_whole); intro q9 hq0))
local macro_rules | `(tactic| walk_at "call builtin:math.floor") => `(tactic| (k_here; (with_reducible refine' Mine.r_floor_hf ?hA ?bal ?bau ?_); k_dflt ((case hA => exact rfl); (case bal => first | decide | (law_clear; omega) | omega); (case bau => first | decide | (law_clear; omega) | omega); k_whole); intro q9 hq0))
local macro_rules | `(tactic| walk_at "call builtin:math.ceil") => `(tactic| (k_here; (with_reducible refine' Mine.r_ceil_div ?hA ?hb ?hb2 ?bal ?bau ?k1 ?k2 ?_); k_dflt ((case hA => exact rfl); (case hb => decide); (case hb2 => decide); (case bal => first | decide | (law_clear; omega) | omega); (case bau => first | decide | (law_clear; omega) | omega); (case k1 => first | decide | (law_clear; omega) | omega); (case k2 => first | decide | (law_clear; omega) | omega); k_whole); intro q9 hq0 hq1))
local macro_rules | `(tactic| walk_at "call builtin:math.ceil") => `(tactic| (k_here; (with_reducible refine' Mine.r_ceil_hf ?hA ?bal ?bau ?_); k_dflt ((case hA => exact rfl); (case bal => first | decide | (law_clear; omega) | omega); (case bau => first | decide | (law_clear; omega) | omega); k_whole); intro q9 hq0 hq1))
local macro_rules | `(tactic| walk_at "call type:int") => `(tactic| (k_here; (with_reducible refine' Mine.r_trunc_hf ?hA ?bal ?bau ?he ?_); k_dflt ((case hA => exact rfl); (case bal => first | decide | (law_clear; omega) | omega); (case bau => first | decide | (law_clear; omega) | omega); (case he => first | decide | (law_clear; omega) | omega); k_whole); intro q9 hq0))
local macro_rules | `(tactic| walk_at "compareOp Lt float int") => `(tactic| (k_here; (with_reducible refine' Mine.r_lt_fi ?hx ?bal ?bau ?_); k_dflt ((case hx => first | with_reducible exact Mine.c_half | with_reducible exact Mine.c_greg | with_reducible exact Mine.c_isl | with_reducible exact Mine.c_cop | with_reducible exact Mine.c_295 | with_reducible exact Mine.c_1524 | with_reducible rfl); (case bal => first | decide | (law_clear; omega) | omega); (case bau => first | decide | (law_clear; omega) | omega); k_whole)))
local macro_rules | `(tactic| walk_at "compareOp NotEq float float") => `(tactic| (k_here; (with_reducible refine' Mine.r_ne_ff ?hx ?hy ?bal ?bau ?bbl ?bbu ?hab ?_); k_dflt ((case hx => first | with_reducible exact Mine.c_half | with_reducible exact Mine.c_greg | with_reducible exact Mine.c_isl | with_reducible exact Mine.c_cop | with_reducible exact Mine.c_295 | with_reducible exact Mine.c_1524 | with_reducible rfl); (case hy => first | with_reducible exact Mine.c_half | with_reducible exact Mine.c_greg | with_reducible exact Mine.c_isl | with_reducible exact Mine.c_cop | with_reducible exact Mine.c_295 | with_reducible exact Mine.c_1524 | with_reducible rfl); (case bal => first | decide | (law_clear; omega) | omega); (case bau => first | decide | (law_clear; omega) | omega); (case bbl => first | decide | (law_clear; omega) | omega); (case bbu => first | decide | (law_clear; omega) | omega); (case hab => omega); k_whole)))
section
variable {w : World} {p : Program} {loose : List Str} {mean : ExcName → Option Value} {mg mb : Str → Option Value} {dp un : Nat} {gd : Option (List Code)} {cn : Str} {cs : Scope} {a : Addr} {ccd : Value} {cl : List (Str × Addr)} {outer : List Env} {A₀ : Around} {base h₀ : Heap} {L : Addr} {m : Str → Option Value} {news : List (Addr × Obj)} {s : Shared} {Q E : Value → Shared → Prop}
theorem lawfgd_1 (n y mo d yk mk dk : Int) (t0 t1 t2 t3 : Tok) (B : Below A₀ base outer h₀) (F : Fr h₀ L s.heap m) (X : (hd.heap_39 w.params).In h₀) (N : News h₀ L s.heap news) (T : Top p loose mean mg mb h₀) (hk : cs.kind = .function)
    (hdp : dp + 15 < recursionLimit) (hun : un + 130 < cLine)
    (e7 : mo ≤ 2 → n = 365 * (y - 1) + (y - 1) / 4 - (y - 1) / 100 + (y - 1) / 400 + 1721425 + (367 * mo - 362) / 12 + d) (e8 : 2 < mo → n = 365 * (y - 1) + (y - 1) / 4 - (y - 1) / 100 + (y - 1) / 400 + 1721425 + (367 * mo - 362) / 12 + d - 2 + lpN y) (e1 : 1 ≤ mo) (e2 : mo ≤ 12) (e3 : 1 ≤ d) (e4 : mo = 2 → d ≤ 28 + lpN y) (e5 : mo = 4 ∨ mo = 6 ∨ mo = 9 ∨ mo = 11 → d ≤ 30) (e6 : d ≤ 31) (f7 : mk ≤ 2 → n = 365 * (yk + 4712) + (yk + 4715) / 4 + (367 * mk - 362) / 12 + dk - 1) (f8 : 2 < mk → n = 365 * (yk + 4712) + (yk + 4715) / 4 + (367 * mk - 362) / 12 + dk - 2 - (yk % 4 + 3) / 4) (f1 : 1 ≤ mk) (f2 : mk ≤ 12) (f3 : 1 ≤ dk) (f4 : mk = 2 → dk ≤ 29 - (yk % 4 + 3) / 4) (f5 : mk = 4 ∨ mk = 6 ∨ mk = 9 ∨ mk = 11 → dk ≤ 30) (f6 : dk ≤ 31) (hn1 : -5000000000 ≤ n) (hn2 : n ≤ 5000000000)
    (h1 : RetT h₀ L m news s Q yk mk dk) :
    Goes w dp un gd cn cs L a ccd cl outer 252 [.int 1 t0, .int y t1, .int mo t2, .int d t3] Q E s := by
  refine lawfg_1 n y mo d t0 t1 t2 t3 B F X N T hk hdp hun e7 e8 e1 e2 e3 e4 e5 e6 hn1 hn2 (fun y9 mo9 d9 g1 g2 g3 g4 g5 g6 g7 g8 => ?_)
  obtain ⟨rfl, rfl, rfl⟩ := Mine.j_uniq f7 f8 f1 f2 f3 f4 f5 f6 g7 g8 g1 g2 g3 g4 g5 g6
  exact h1
theorem lawtgd_1 (n y mo d yk mk dk : Int) (t0 t1 t2 t3 : Tok) (B : Below A₀ base outer h₀) (F : Fr h₀ L s.heap m) (X : (hd.heap_39 w.params).In h₀) (N : News h₀ L s.heap news) (T : Top p loose mean mg mb h₀) (hk : cs.kind = .function)
    (hdp : dp + 15 < recursionLimit) (hun : un + 130 < cLine)
    (e7 : mo ≤ 2 → n = 365 * (y - 1) + (y - 1) / 4 - (y - 1) / 100 + (y - 1) / 400 + 1721425 + (367 * mo - 362) / 12 + d) (e8 : 2 < mo → n = 365 * (y - 1) + (y - 1) / 4 - (y - 1) / 100 + (y - 1) / 400 + 1721425 + (367 * mo - 362) / 12 + d - 2 + lpN y) (e1 : 1 ≤ mo) (e2 : mo ≤ 12) (e3 : 1 ≤ d) (e4 : mo = 2 → d ≤ 28 + lpN y) (e5 : mo = 4 ∨ mo = 6 ∨ mo = 9 ∨ mo = 11 → d ≤ 30) (e6 : d ≤ 31) (f7 : mk ≤ 2 → n = 365 * (yk + 4712) + (yk + 4715) / 4 + (367 * mk - 362) / 12 + dk - 1) (f8 : 2 < mk → n = 365 * (yk + 4712) + (yk + 4715) / 4 + (367 * mk - 362) / 12 + dk - 2 - (yk % 4 + 3) / 4) (f1 : 1 ≤ mk) (f2 : mk ≤ 12) (f3 : 1 ≤ dk) (f4 : mk = 2 → dk ≤ 29 - (yk % 4 + 3) / 4) (f5 : mk = 4 ∨ mk = 6 ∨ mk = 9 ∨ mk = 11 → dk ≤ 30) (f6 : dk ≤ 31) (hn1 : -5000000000 ≤ n) (hn2 : n ≤ 5000000000)
    (h1 : RetT h₀ L m news s Q y mo d) :
    Goes w dp un gd cn cs L a ccd cl outer 259 [.int 1 t0, .int yk t1, .int mk t2, .int dk t3] Q E s := by
  refine lawtg_1 n yk mk dk t0 t1 t2 t3 B F X N T hk hdp hun f7 f8 f1 f2 f3 f4 f5 f6 hn1 hn2 (fun y9 mo9 d9 g1 g2 g3 g4 g5 g6 g7 g8 => ?_)
  obtain ⟨rfl, rfl, rfl⟩ := Mine.g_uniq e7 e8 e1 e2 e3 e4 e5 e6 g7 g8 g1 g2 g3 g4 g5 g6
  exact h1
theorem lawfgd_2 (n y mo d yk mk dk : Int) (t0 t1 t2 t3 : Tok) (B : Below A₀ base outer h₀) (F : Fr h₀ L s.heap m) (X : (hd.heap_39 w.params).In h₀) (N : News h₀ L s.heap news) (T : Top p loose mean mg mb h₀) (hk : cs.kind = .function)
    (hdp : dp + 15 < recursionLimit) (hun : un + 130 < cLine)
    (e7 : mo ≤ 2 → n = 365 * (y - 1) + (y - 1) / 4 - (y - 1) / 100 + (y - 1) / 400 + 1721425 + (367 * mo - 362) / 12 + d) (e8 : 2 < mo → n = 365 * (y - 1) + (y - 1) / 4 - (y - 1) / 100 + (y - 1) / 400 + 1721425 + (367 * mo - 362) / 12 + d - 2 + lpN y) (e1 : 1 ≤ mo) (e2 : mo ≤ 12) (e3 : 1 ≤ d) (e4 : mo = 2 → d ≤ 28 + lpN y) (e5 : mo = 4 ∨ mo = 6 ∨ mo = 9 ∨ mo = 11 → d ≤ 30) (e6 : d ≤ 31) (f7 : n = dk + (59 * (mk - 1) + 1) / 2 + 354 * (yk - 1) + (3 + 11 * yk) / 30 + 1948439) (f1 : 1 ≤ mk) (f2 : mk ≤ 12) (f3 : 1 ≤ dk) (f4 : dk ≤ 30) (f5 : mk % 2 = 0 → mk < 12 → dk ≤ 29) (f6 : mk = 12 → dk ≤ 29 + (14 + 11 * yk) / 30 - (3 + 11 * yk) / 30) (hn1 : -5000000000 ≤ n) (hn2 : n ≤ 5000000000)
    (h1 : RetT h₀ L m news s Q yk mk dk) :
    Goes w dp un gd cn cs L a ccd cl outer 252 [.int 2 t0, .int y t1, .int mo t2, .int d t3] Q E s := by
  refine lawfg_2 n y mo d t0 t1 t2 t3 B F X N T hk hdp hun e7 e8 e1 e2 e3 e4 e5 e6 hn1 hn2 (fun y9 mo9 d9 g1 g2 g3 g4 g5 g6 g7 => ?_)
  obtain ⟨rfl, rfl, rfl⟩ := Mine.i_uniq f7 f1 f2 f3 f4 f5 f6 g7 g1 g2 g3 g4 g5 g6
  exact h1
theorem lawtgd_2 (n y mo d yk mk dk : Int) (t0 t1 t2 t3 : Tok) (B : Below A₀ base outer h₀) (F : Fr h₀ L s.heap m) (X : (hd.heap_39 w.params).In h₀) (N : News h₀ L s.heap news) (T : Top p loose mean mg mb h₀) (hk : cs.kind = .function)
    (hdp : dp + 15 < recursionLimit) (hun : un + 130 < cLine)
    (e7 : mo ≤ 2 → n = 365 * (y - 1) + (y - 1) / 4 - (y - 1) / 100 + (y - 1) / 400 + 1721425 + (367 * mo - 362) / 12 + d) (e8 : 2 < mo → n = 365 * (y - 1) + (y - 1) / 4 - (y - 1) / 100 + (y - 1) / 400 + 1721425 + (367 * mo - 362) / 12 + d - 2 + lpN y) (e1 : 1 ≤ mo) (e2 : mo ≤ 12) (e3 : 1 ≤ d) (e4 : mo = 2 → d ≤ 28 + lpN y) (e5 : mo = 4 ∨ mo = 6 ∨ mo = 9 ∨ mo = 11 → d ≤ 30) (e6 : d ≤ 31) (f7 : n = dk + (59 * (mk - 1) + 1) / 2 + 354 * (yk - 1) + (3 + 11 * yk) / 30 + 1948439) (f1 : 1 ≤ mk) (f2 : mk ≤ 12) (f3 : 1 ≤ dk) (f4 : dk ≤ 30) (f5 : mk % 2 = 0 → mk < 12 → dk ≤ 29) (f6 : mk = 12 → dk ≤ 29 + (14 + 11 * yk) / 30 - (3 + 11 * yk) / 30) (hn1 : -5000000000 ≤ n) (hn2 : n ≤ 5000000000)
    (h1 : RetT h₀ L m news s Q y mo d) :
    Goes w dp un gd cn cs L a ccd cl outer 259 [.int 2 t0, .int yk t1, .int mk t2, .int dk t3] Q E s := by
  refine lawtg_2 n yk mk dk t0 t1 t2 t3 B F X N T hk hdp hun f7 f1 f2 f3 f4 f5 f6 hn1 hn2 (fun y9 mo9 d9 g1 g2 g3 g4 g5 g6 g7 g8 => ?_)
  obtain ⟨rfl, rfl, rfl⟩ := Mine.g_uniq e7 e8 e1 e2 e3 e4 e5 e6 g7 g8 g1 g2 g3 g4 g5 g6
  exact h1
theorem lawfgd_3 (n y mo d yk mk dk : Int) (t0 t1 t2 t3 : Tok) (B : Below A₀ base outer h₀) (F : Fr h₀ L s.heap m) (X : (hd.heap_39 w.params).In h₀) (N : News h₀ L s.heap news) (T : Top p loose mean mg mb h₀) (hk : cs.kind = .function)
    (hdp : dp + 15 < recursionLimit) (hun : un + 130 < cLine)
    (e7 : mo ≤ 2 → n = 365 * (y - 1) + (y - 1) / 4 - (y - 1) / 100 + (y - 1) / 400 + 1721425 + (367 * mo - 362) / 12 + d) (e8 : 2 < mo → n = 365 * (y - 1) + (y - 1) / 4 - (y - 1) / 100 + (y - 1) / 400 + 1721425 + (367 * mo - 362) / 12 + d - 2 + lpN y) (e1 : 1 ≤ mo) (e2 : mo ≤ 12) (e3 : 1 ≤ d) (e4 : mo = 2 → d ≤ 28 + lpN y) (e5 : mo = 4 ∨ mo = 6 ∨ mo = 9 ∨ mo = 11 → d ≤ 30) (e6 : d ≤ 31) (f7 : n = dk + 30 * (mk - 1) + 365 * (yk - 1) + yk / 4 + 1825029) (f1 : 1 ≤ mk) (f2 : mk ≤ 13) (f3 : 1 ≤ dk) (f4 : dk ≤ 30) (f5 : mk = 13 → dk ≤ 5 + (yk + 1) / 4 - yk / 4) (hn1 : -5000000000 ≤ n) (hn2 : n ≤ 5000000000)
    (h1 : RetT h₀ L m news s Q yk mk dk) :
    Goes w dp un gd cn cs L a ccd cl outer 252 [.int 3 t0, .int y t1, .int mo t2, .int d t3] Q E s := by
  refine lawfg_3 n y mo d t0 t1 t2 t3 B F X N T hk hdp hun e7 e8 e1 e2 e3 e4 e5 e6 hn1 hn2 (fun y9 mo9 d9 g1 g2 g3 g4 g5 g6 => ?_)
  obtain ⟨rfl, rfl, rfl⟩ := Mine.c_uniq f7 f1 f2 f3 f4 f5 g6 g1 g2 g3 g4 g5
  exact h1
theorem lawtgd_3 (n y mo d yk mk dk : Int) (t0 t1 t2 t3 : Tok) (B : Below A₀ base outer h₀) (F : Fr h₀ L s.heap m) (X : (hd.heap_39 w.params).In h₀) (N : News h₀ L s.heap news) (T : Top p loose mean mg mb h₀) (hk : cs.kind = .function)
    (hdp : dp + 15 < recursionLimit) (hun : un + 130 < cLine)
    (e7 : mo ≤ 2 → n = 365 * (y - 1) + (y - 1) / 4 - (y - 1) / 100 + (y - 1) / 400 + 1721425 + (367 * mo - 362) / 12 + d) (e8 : 2 < mo → n = 365 * (y - 1) + (y - 1) / 4 - (y - 1) / 100 + (y - 1) / 400 + 1721425 + (367 * mo - 362) / 12 + d - 2 + lpN y) (e1 : 1 ≤ mo) (e2 : mo ≤ 12) (e3 : 1 ≤ d) (e4 : mo = 2 → d ≤ 28 + lpN y) (e5 : mo = 4 ∨ mo = 6 ∨ mo = 9 ∨ mo = 11 → d ≤ 30) (e6 : d ≤ 31) (f7 : n = dk + 30 * (mk - 1) + 365 * (yk - 1) + yk / 4 + 1825029) (f1 : 1 ≤ mk) (f2 : mk ≤ 13) (f3 : 1 ≤ dk) (f4 : dk ≤ 30) (f5 : mk = 13 → dk ≤ 5 + (yk + 1) / 4 - yk / 4) (hn1 : -5000000000 ≤ n) (hn2 : n ≤ 5000000000)
    (h1 : RetT h₀ L m news s Q y mo d) :
    Goes w dp un gd cn cs L a ccd cl outer 259 [.int 3 t0, .int yk t1, .int mk t2, .int dk t3] Q E s := by
  refine lawtg_3 n yk mk dk t0 t1 t2 t3 B F X N T hk hdp hun f7 f1 f2 f3 f4 f5 hn1 hn2 (fun y9 mo9 d9 g1 g2 g3 g4 g5 g6 g7 g8 => ?_)
  obtain ⟨rfl, rfl, rfl⟩ := Mine.g_uniq e7 e8 e1 e2 e3 e4 e5 e6 g7 g8 g1 g2 g3 g4 g5 g6
  exact h1
theorem lawfgd_4 (n y mo d yk mk dk : Int) (t0 t1 t2 t3 : Tok) (B : Below A₀ base outer h₀) (F : Fr h₀ L s.heap m) (X : (hd.heap_39 w.params).In h₀) (N : News h₀ L s.heap news) (T : Top p loose mean mg mb h₀) (hk : cs.kind = .function)
    (hdp : dp + 15 < recursionLimit) (hun : un + 130 < cLine)
    (e7 : mo ≤ 2 → n = 365 * (y - 1) + (y - 1) / 4 - (y - 1) / 100 + (y - 1) / 400 + 1721425 + (367 * mo - 362) / 12 + d) (e8 : 2 < mo → n = 365 * (y - 1) + (y - 1) / 4 - (y - 1) / 100 + (y - 1) / 400 + 1721425 + (367 * mo - 362) / 12 + d - 2 + lpN y) (e1 : 1 ≤ mo) (e2 : mo ≤ 12) (e3 : 1 ≤ d) (e4 : mo = 2 → d ≤ 28 + lpN y) (e5 : mo = 4 ∨ mo = 6 ∨ mo = 9 ∨ mo = 11 → d ≤ 30) (e6 : d ≤ 31) (f7 : mk = 1 → n = 365 * (yk + 78 - 1) + (yk + 78 - 1) / 4 - (yk + 78 - 1) / 100 + (yk + 78 - 1) / 400 + 1721425 + 80 + dk) (f8 : 2 ≤ mk → mk ≤ 6 → n = 365 * (yk + 78 - 1) + (yk + 78 - 1) / 4 - (yk + 78 - 1) / 100 + (yk + 78 - 1) / 400 + 1721425 + 110 + lpN (yk + 78) + 31 * (mk - 2) + dk) (f9 : 7 ≤ mk → n = 365 * (yk + 78 - 1) + (yk + 78 - 1) / 4 - (yk + 78 - 1) / 100 + (yk + 78 - 1) / 400 + 1721425 + 265 + lpN (yk + 78) + 30 * (mk - 7) + dk) (f1 : 1 ≤ mk) (f2 : mk ≤ 12) (f3 : 1 ≤ dk) (f4 : dk ≤ 31) (f5 : mk = 1 → dk ≤ 30 + lpN (yk + 78)) (f6 : 7 ≤ mk → dk ≤ 30) (hn1 : -5000000000 ≤ n) (hn2 : n ≤ 5000000000)
    (h1 : RetT h₀ L m news s Q yk mk dk) :
    Goes w dp un gd cn cs L a ccd cl outer 252 [.int 4 t0, .int y t1, .int mo t2, .int d t3] Q E s := by
  refine lawfg_4 n y mo d t0 t1 t2 t3 B F X N T hk hdp hun e7 e8 e1 e2 e3 e4 e5 e6 hn1 hn2 (fun y9 mo9 d9 g1 g2 g3 g4 g5 g6 g7 g8 g9 => ?_)
  obtain ⟨rfl, rfl, rfl⟩ := Mine.n_uniq f7 f8 f9 f1 f2 f3 f4 f5 f6 g7 g8 g9 g1 g2 g3 g4 g5 g6
  exact h1
theorem lawtgd_4 (n y mo d yk mk dk : Int) (t0 t1 t2 t3 : Tok) (B : Below A₀ base outer h₀) (F : Fr h₀ L s.heap m) (X : (hd.heap_39 w.params).In h₀) (N : News h₀ L s.heap news) (T : Top p loose mean mg mb h₀) (hk : cs.kind = .function)
    (hdp : dp + 15 < recursionLimit) (hun : un + 130 < cLine)
    (e7 : mo ≤ 2 → n = 365 * (y - 1) + (y - 1) / 4 - (y - 1) / 100 + (y - 1) / 400 + 1721425 + (367 * mo - 362) / 12 + d) (e8 : 2 < mo → n = 365 * (y - 1) + (y - 1) / 4 - (y - 1) / 100 + (y - 1) / 400 + 1721425 + (367 * mo - 362) / 12 + d - 2 + lpN y) (e1 : 1 ≤ mo) (e2 : mo ≤ 12) (e3 : 1 ≤ d) (e4 : mo = 2 → d ≤ 28 + lpN y) (e5 : mo = 4 ∨ mo = 6 ∨ mo = 9 ∨ mo = 11 → d ≤ 30) (e6 : d ≤ 31) (f7 : mk = 1 → n = 365 * (yk + 78 - 1) + (yk + 78 - 1) / 4 - (yk + 78 - 1) / 100 + (yk + 78 - 1) / 400 + 1721425 + 80 + dk) (f8 : 2 ≤ mk → mk ≤ 6 → n = 365 * (yk + 78 - 1) + (yk + 78 - 1) / 4 - (yk + 78 - 1) / 100 + (yk + 78 - 1) / 400 + 1721425 + 110 + lpN (yk + 78) + 31 * (mk - 2) + dk) (f9 : 7 ≤ mk → n = 365 * (yk + 78 - 1) + (yk + 78 - 1) / 4 - (yk + 78 - 1) / 100 + (yk + 78 - 1) / 400 + 1721425 + 265 + lpN (yk + 78) + 30 * (mk - 7) + dk) (f1 : 1 ≤ mk) (f2 : mk ≤ 12) (f3 : 1 ≤ dk) (f4 : dk ≤ 31) (f5 : mk = 1 → dk ≤ 30 + lpN (yk + 78)) (f6 : 7 ≤ mk → dk ≤ 30) (hn1 : -5000000000 ≤ n) (hn2 : n ≤ 5000000000)
    (h1 : RetT h₀ L m news s Q y mo d) :
    Goes w dp un gd cn cs L a ccd cl outer 259 [.int 4 t0, .int yk t1, .int mk t2, .int dk t3] Q E s := by
  refine lawtg_4 n yk mk dk t0 t1 t2 t3 B F X N T hk hdp hun f7 f8 f9 f1 f2 f3 f4 f5 f6 hn1 hn2 (fun y9 mo9 d9 g1 g2 g3 g4 g5 g6 g7 g8 => ?_)
  obtain ⟨rfl, rfl, rfl⟩ := Mine.g_uniq e7 e8 e1 e2 e3 e4 e5 e6 g7 g8 g1 g2 g3 g4 g5 g6
  exact h1
end
section
variable {w : World} {p : Program} {loose : List Str} {mean : ExcName → Option Value} {mg mb : Str → Option Value} {dp un : Nat} {gd : Option (List Code)} {a : Addr} {ccd : Value} {outer : List Env} {A₀ : Around} {base h₀ : Heap} {L : Addr} {m : Str → Option Value} {news : List (Addr × Obj)} {s : Shared} {Q : Flow → Shared → Prop}
local macro_rules | `(tactic| k_all) => `(tactic| with_reducible assumption)
local macro_rules | `(tactic| walk_at "call ref") => `(tactic| (k_here; (with_reducible show wpAny _ _ (call (Value.ref 252) _) _ _ _); k_dflt (refine' Mine.lawfgd_1 _ _ _ _ _ _ _ _ _ _ _ ?k1 ?k2 ?k3 ?k4 ?k5 ?kK ?kd ?ku ?e7 ?e8 ?e1 ?e2 ?e3 ?e4 ?e5 ?e6 ?f7 ?f8 ?f1 ?f2 ?f3 ?f4 ?f5 ?f6 ?hn1 ?hn2 ?_; (case k1 => k_asm); (case k2 => k_asm); (case k3 => k_asm); (case k4 => k_asm); (case k5 => k_asm); (case kK => first | exact rfl | assumption); (case kd => ((try dsimp only [ktrTop]); omega)); (case ku => ((try dsimp only [ktrTop]); omega)); (case e7 => first | with_reducible assumption | omega); (case e8 => first | with_reducible assumption | omega); (case e1 => first | with_reducible assumption | omega); (case e2 => first | with_reducible assumption | omega); (case e3 => first | with_reducible assumption | omega); (case e4 => first | with_reducible assumption | omega); (case e5 => first | with_reducible assumption | omega); (case e6 => first | with_reducible assumption | omega); (case f7 => first | with_reducible assumption | omega); (case f8 => first | with_reducible assumption | omega); (case f1 => first | with_reducible assumption | omega); (case f2 => first | with_reducible assumption | omega); (case f3 => first | with_reducible assumption | omega); (case f4 => first | with_reducible assumption | omega); (case f5 => first | with_reducible assumption | omega); (case f6 => first | with_reducible assumption | omega); (case hn1 => first | with_reducible assumption | omega); (case hn2 => first | with_reducible assumption | omega); all_goals (intro D9 u1 u2 u3 c9 h9 tk9 F9 N9 l9; (try simp only [AllLt, and_true] at l9); (try dsimp only); (try k_sweep); (try k_fold)))))
local macro_rules | `(tactic| walk_at "call ref") => `(tactic| (k_here; (with_reducible show wpAny _ _ (call (Value.ref 259) _) _ _ _); k_dflt (refine' Mine.lawtgd_1 _ _ _ _ _ _ _ _ _ _ _ ?k1 ?k2 ?k3 ?k4 ?k5 ?kK ?kd ?ku ?e7 ?e8 ?e1 ?e2 ?e3 ?e4 ?e5 ?e6 ?f7 ?f8 ?f1 ?f2 ?f3 ?f4 ?f5 ?f6 ?hn1 ?hn2 ?_; (case k1 => k_asm); (case k2 => k_asm); (case k3 => k_asm); (case k4 => k_asm); (case k5 => k_asm); (case kK => first | exact rfl | assumption); (case kd => ((try dsimp only [ktrTop]); omega)); (case ku => ((try dsimp only [ktrTop]); omega)); (case e7 => first | with_reducible assumption | omega); (case e8 => first | with_reducible assumption | omega); (case e1 => first | with_reducible assumption | omega); (case e2 => first | with_reducible assumption | omega); (case e3 => first | with_reducible assumption | omega); (case e4 => first | with_reducible assumption | omega); (case e5 => first | with_reducible assumption | omega); (case e6 => first | with_reducible assumption | omega); (case f7 => first | with_reducible assumption | omega); (case f8 => first | with_reducible assumption | omega); (case f1 => first | with_reducible assumption | omega); (case f2 => first | with_reducible assumption | omega); (case f3 => first | with_reducible assumption | omega); (case f4 => first | with_reducible assumption | omega); (case f5 => first | with_reducible assumption | omega); (case f6 => first | with_reducible assumption | omega); (case hn1 => first | with_reducible assumption | omega); (case hn2 => first | with_reducible assumption | omega); all_goals (intro D9 u1 u2 u3 c9 h9 tk9 F9 N9 l9; (try simp only [AllLt, and_true] at l9); (try dsimp only); (try k_sweep); (try k_fold)))))
theorem pair_1 (n y mo d yk mk dk : Int) (tk t1 t2 t3 u1 u2 u3 : Tok) (I DD D0 D1 D2 D3 D4 : Addr) (it : Obj) (c c1 : Nat) (B : Below A₀ base outer h₀) (F : Fr h₀ L s.heap m) (X : (hd.heap_39 w.params).In h₀) (N : News h₀ L s.heap ((I, it) :: (DD, ({ cls := .type "list", data := .seq #[.ref D0, .ref D1, .ref D2, .ref D3, .ref D4] c } : Obj)) :: (D1, tup3 yk mk dk u1 u2 u3 c1) :: news)) (T : Top p loose mean mg mb h₀)
    (hdp : dp + 20 < recursionLimit) (hun : un + 200 < cLine) (e7 : mo ≤ 2 → n = 365 * (y - 1) + (y - 1) / 4 - (y - 1) / 100 + (y - 1) / 400 + 1721425 + (367 * mo - 362) / 12 + d) (e8 : 2 < mo → n = 365 * (y - 1) + (y - 1) / 4 - (y - 1) / 100 + (y - 1) / 400 + 1721425 + (367 * mo - 362) / 12 + d - 2 + lpN y) (e1 : 1 ≤ mo) (e2 : mo ≤ 12) (e3 : 1 ≤ d) (e4 : mo = 2 → d ≤ 28 + lpN y) (e5 : mo = 4 ∨ mo = 6 ∨ mo = 9 ∨ mo = 11 → d ≤ 30) (e6 : d ≤ 31) (f7 : mk ≤ 2 → n = 365 * (yk + 4712) + (yk + 4715) / 4 + (367 * mk - 362) / 12 + dk - 1) (f8 : 2 < mk → n = 365 * (yk + 4712) + (yk + 4715) / 4 + (367 * mk - 362) / 12 + dk - 2 - (yk % 4 + 3) / 4) (f1 : 1 ≤ mk) (f2 : mk ≤ 12) (f3 : 1 ≤ dk) (f4 : mk = 2 → dk ≤ 29 - (yk % 4 + 3) / 4) (f5 : mk = 4 ∨ mk = 6 ∨ mk = 9 ∨ mk = 11 → dk ≤ 30) (f6 : dk ≤ 31) (hn1 : -5000000000 ≤ n) (hn2 : n ≤ 5000000000)
    (hmk : m (Str.ofString "kind") = some (.int 1 tk)) (hmd : m (Str.ofString "dates") = some (.ref DD)) (hmy : m (Str.ofString "year") = some (.int y t1)) (hmm : m (Str.ofString "month") = some (.int mo t2)) (hmz : m (Str.ofString "day") = some (.int d t3))
    (hret : ∀ (h' : Heap) (tk' : Nat), Fr h₀ L h' m → News h₀ L h' ((I, it) :: (DD, ({ cls := .type "list", data := .seq #[.ref D0, .ref D1, .ref D2, .ref D3, .ref D4] c } : Obj)) :: (D1, tup3 yk mk dk u1 u2 u3 c1) :: news) → Q .next { s with heap := h', toks := tk' }) :
    wpAny (model PySem.Challenge.rw_ak5015_01.row.prog w) (lawTop dp un gd L a ccd outer) (execs pairBody (lawEnv L a ccd)) Q (fun _ _ => False) s := by
  revert X; k_fill; intro X
  show wpAny _ (ktrTop _ _ _ _ ⟨_, _, _, _, _⟩ _ _ _ _ _) (execs (_ :: _ :: []) (envOf _ ⟨_, _, _, _, _⟩ _ _ _)) _ _ _
  k_steps
  rename News _ _ _ _ => NZ
  rename Fr _ _ _ _ => FZ
  first
  | exact hret _ _ FZ (drop1 (drop1 (drop1 NZ)))
  | exact hret _ _ FZ (drop1 (drop1 NZ))
  | exact hret _ _ FZ (drop1 (drop1 (drop1 (drop1 NZ))))
local macro_rules | `(tactic| walk_at "call ref") => `(tactic| (k_here; (with_reducible show wpAny _ _ (call (Value.ref 252) _) _ _ _); k_dflt (refine' Mine.lawfgd_2 _ _ _ _ _ _ _ _ _ _ _ ?k1 ?k2 ?k3 ?k4 ?k5 ?kK ?kd ?ku ?e7 ?e8 ?e1 ?e2 ?e3 ?e4 ?e5 ?e6 ?f7 ?f1 ?f2 ?f3 ?f4 ?f5 ?f6 ?hn1 ?hn2 ?_; (case k1 => k_asm); (case k2 => k_asm); (case k3 => k_asm); (case k4 => k_asm); (case k5 => k_asm); (case kK => first | exact rfl | assumption); (case kd => ((try dsimp only [ktrTop]); omega)); (case ku => ((try dsimp only [ktrTop]); omega)); (case e7 => first | with_reducible assumption | omega); (case e8 => first | with_reducible assumption | omega); (case e1 => first | with_reducible assumption | omega); (case e2 => first | with_reducible assumption | omega); (case e3 => first | with_reducible assumption | omega); (case e4 => first | with_reducible assumption | omega); (case e5 => first | with_reducible assumption | omega); (case e6 => first | with_reducible assumption | omega); (case f7 => first | with_reducible assumption | omega); (case f1 => first | with_reducible assumption | omega); (case f2 => first | with_reducible assumption | omega); (case f3 => first | with_reducible assumption | omega); (case f4 => first | with_reducible assumption | omega); (case f5 => first | with_reducible assumption | omega); (case f6 => first | with_reducible assumption | omega); (case hn1 => first | with_reducible assumption | omega); (case hn2 => first | with_reducible assumption | omega); all_goals (intro D9 u1 u2 u3 c9 h9 tk9 F9 N9 l9; (try simp only [AllLt, and_true] at l9); (try dsimp only); (try k_sweep); (try k_fold)))))
local macro_rules | `(tactic| walk_at "call ref") => `(tactic| (k_here; (with_reducible show wpAny _ _ (call (Value.ref 259) _) _ _ _); k_dflt (refine' Mine.lawtgd_2 _ _ _ _ _ _ _ _ _ _ _ ?k1 ?k2 ?k3 ?k4 ?k5 ?kK ?kd ?ku ?e7 ?e8 ?e1 ?e2 ?e3 ?e4 ?e5 ?e6 ?f7 ?f1 ?f2 ?f3 ?f4 ?f5 ?f6 ?hn1 ?hn2 ?_; (case k1 => k_asm); (case k2 => k_asm); (case k3 => k_asm); (case k4 => k_asm); (case k5 => k_asm); (case kK => first | exact rfl | assumption); (case kd => ((try dsimp only [ktrTop]); omega)); (case ku => ((try dsimp only [ktrTop]); omega)); (case e7 => first | with_reducible assumption | omega); (case e8 => first | with_reducible assumption | omega); (case e1 => first | with_reducible assumption | omega); (case e2 => first | with_reducible assumption | omega); (case e3 => first | with_reducible assumption | omega); (case e4 => first | with_reducible assumption | omega); (case e5 => first | with_reducible assumption | omega); (case e6 => first | with_reducible assumption | omega); (case f7 => first | with_reducible assumption | omega); (case f1 => first | with_reducible assumption | omega); (case f2 => first | with_reducible assumption | omega); (case f3 => first | with_reducible assumption | omega); (case f4 => first | with_reducible assumption | omega); (case f5 => first | with_reducible assumption | omega); (case f6 => first | with_reducible assumption | omega); (case hn1 => first | with_reducible assumption | omega); (case hn2 => first | with_reducible assumption | omega); all_goals (intro D9 u1 u2 u3 c9 h9 tk9 F9 N9 l9; (try simp only [AllLt, and_true] at l9); (try dsimp only); (try k_sweep); (try k_fold)))))
theorem pair_2 (n y mo d yk mk dk : Int) (tk t1 t2 t3 u1 u2 u3 : Tok) (I DD D0 D1 D2 D3 D4 : Addr) (it : Obj) (c c1 : Nat) (B : Below A₀ base outer h₀) (F : Fr h₀ L s.heap m) (X : (hd.heap_39 w.params).In h₀) (N : News h₀ L s.heap ((I, it) :: (DD, ({ cls := .type "list", data := .seq #[.ref D0, .ref D1, .ref D2, .ref D3, .ref D4] c } : Obj)) :: (D2, tup3 yk mk dk u1 u2 u3 c1) :: news)) (T : Top p loose mean mg mb h₀)
    (hdp : dp + 20 < recursionLimit) (hun : un + 200 < cLine) (e7 : mo ≤ 2 → n = 365 * (y - 1) + (y - 1) / 4 - (y - 1) / 100 + (y - 1) / 400 + 1721425 + (367 * mo - 362) / 12 + d) (e8 : 2 < mo → n = 365 * (y - 1) + (y - 1) / 4 - (y - 1) / 100 + (y - 1) / 400 + 1721425 + (367 * mo - 362) / 12 + d - 2 + lpN y) (e1 : 1 ≤ mo) (e2 : mo ≤ 12) (e3 : 1 ≤ d) (e4 : mo = 2 → d ≤ 28 + lpN y) (e5 : mo = 4 ∨ mo = 6 ∨ mo = 9 ∨ mo = 11 → d ≤ 30) (e6 : d ≤ 31) (f7 : n = dk + (59 * (mk - 1) + 1) / 2 + 354 * (yk - 1) + (3 + 11 * yk) / 30 + 1948439) (f1 : 1 ≤ mk) (f2 : mk ≤ 12) (f3 : 1 ≤ dk) (f4 : dk ≤ 30) (f5 : mk % 2 = 0 → mk < 12 → dk ≤ 29) (f6 : mk = 12 → dk ≤ 29 + (14 + 11 * yk) / 30 - (3 + 11 * yk) / 30) (hn1 : -5000000000 ≤ n) (hn2 : n ≤ 5000000000)
    (hmk : m (Str.ofString "kind") = some (.int 2 tk)) (hmd : m (Str.ofString "dates") = some (.ref DD)) (hmy : m (Str.ofString "year") = some (.int y t1)) (hmm : m (Str.ofString "month") = some (.int mo t2)) (hmz : m (Str.ofString "day") = some (.int d t3))
    (hret : ∀ (h' : Heap) (tk' : Nat), Fr h₀ L h' m → News h₀ L h' ((I, it) :: (DD, ({ cls := .type "list", data := .seq #[.ref D0, .ref D1, .ref D2, .ref D3, .ref D4] c } : Obj)) :: (D2, tup3 yk mk dk u1 u2 u3 c1) :: news) → Q .next { s with heap := h', toks := tk' }) :
    wpAny (model PySem.Challenge.rw_ak5015_01.row.prog w) (lawTop dp un gd L a ccd outer) (execs pairBody (lawEnv L a ccd)) Q (fun _ _ => False) s := by
  revert X; k_fill; intro X
  show wpAny _ (ktrTop _ _ _ _ ⟨_, _, _, _, _⟩ _ _ _ _ _) (execs (_ :: _ :: []) (envOf _ ⟨_, _, _, _, _⟩ _ _ _)) _ _ _
  k_steps
  rename News _ _ _ _ => NZ
  rename Fr _ _ _ _ => FZ
  first
  | exact hret _ _ FZ (drop1 (drop1 (drop1 NZ)))
  | exact hret _ _ FZ (drop1 (drop1 NZ))
  | exact hret _ _ FZ (drop1 (drop1 (drop1 (drop1 NZ))))
local macro_rules | `(tactic| walk_at "call ref") => `(tactic| (k_here; (with_reducible show wpAny _ _ (call (Value.ref 252) _) _ _ _); k_dflt (refine' Mine.lawfgd_3 _ _ _ _ _ _ _ _ _ _ _ ?k1 ?k2 ?k3 ?k4 ?k5 ?kK ?kd ?ku ?e7 ?e8 ?e1 ?e2 ?e3 ?e4 ?e5 ?e6 ?f7 ?f1 ?f2 ?f3 ?f4 ?f5 ?hn1 ?hn2 ?_; (case k1 => k_asm); (case k2 => k_asm); (case k3 => k_asm); (case k4 => k_asm); (case k5 => k_asm); (case kK => first | exact rfl | assumption); (case kd => ((try dsimp only [ktrTop]); omega)); (case ku => ((try dsimp only [ktrTop]); omega)); (case e7 => first | with_reducible assumption | omega); (case e8 => first | with_reducible assumption | omega); (case e1 => first | with_reducible assumption | omega); (case e2 => first | with_reducible assumption | omega); (case e3 => first | with_reducible assumption | omega); (case e4 => first | with_reducible assumption | omega); (case e5 => first | with_reducible assumption | omega); (case e6 => first | with_reducible assumption | omega); (case f7 => first | with_reducible assumption | omega); (case f1 => first | with_reducible assumption | omega); (case f2 => first | with_reducible assumption | omega); (case f3 => first | with_reducible assumption | omega); (case f4 => first | with_reducible assumption | omega); (case f5 => first | with_reducible assumption | omega); (case hn1 => first | with_reducible assumption | omega); (case hn2 => first | with_reducible assumption | omega); all_goals (intro D9 u1 u2 u3 c9 h9 tk9 F9 N9 l9; (try simp only [AllLt, and_true] at l9); (try dsimp only); (try k_sweep); (try k_fold)))))
local macro_rules | `(tactic| walk_at "call ref") => `(tactic| (k_here; (with_reducible show wpAny _ _ (call (Value.ref 259) _) _ _ _); k_dflt (refine' Mine.lawtgd_3 _ _ _ _ _ _ _ _ _ _ _ ?k1 ?k2 ?k3 ?k4 ?k5 ?kK ?kd ?ku ?e7 ?e8 ?e1 ?e2 ?e3 ?e4 ?e5 ?e6 ?f7 ?f1 ?f2 ?f3 ?f4 ?f5 ?hn1 ?hn2 ?_; (case k1 => k_asm); (case k2 => k_asm); (case k3 => k_asm); (case k4 => k_asm); (case k5 => k_asm); (case kK => first | exact rfl | assumption); (case kd => ((try dsimp only [ktrTop]); omega)); (case ku => ((try dsimp only [ktrTop]); omega)); (case e7 => first | with_reducible assumption | omega); (case e8 => first | with_reducible assumption | omega); (case e1 => first | with_reducible assumption | omega); (case e2 => first | with_reducible assumption | omega); (case e3 => first | with_reducible assumption | omega); (case e4 => first | with_reducible assumption | omega); (case e5 => first | with_reducible assumption | omega); (case e6 => first | with_reducible assumption | omega); (case f7 => first | with_reducible assumption | omega); (case f1 => first | with_reducible assumption | omega); (case f2 => first | with_reducible assumption | omega); (case f3 => first | with_reducible assumption | omega); (case f4 => first | with_reducible assumption | omega); (case f5 => first | with_reducible assumption | omega); (case hn1 => first | with_reducible assumption | omega); (case hn2 => first | with_reducible assumption | omega); all_goals (intro D9 u1 u2 u3 c9 h9 tk9 F9 N9 l9; (try simp only [AllLt, and_true] at l9); (try dsimp only); (try k_sweep); (try k_fold)))))
theorem pair_3 (n y mo d yk mk dk : Int) (tk t1 t2 t3 u1 u2 u3 : Tok) (I DD D0 D1 D2 D3 D4 : Addr) (it : Obj) (c c1 : Nat) (B : Below A₀ base outer h₀) (F : Fr h₀ L s.heap m) (X : (hd.heap_39 w.params).In h₀) (N : News h₀ L s.heap ((I, it) :: (DD, ({ cls := .type "list", data := .seq #[.ref D0, .ref D1, .ref D2, .ref D3, .ref D4] c } : Obj)) :: (D3, tup3 yk mk dk u1 u2 u3 c1) :: news)) (T : Top p loose mean mg mb h₀)
    (hdp : dp + 20 < recursionLimit) (hun : un + 200 < cLine) (e7 : mo ≤ 2 → n = 365 * (y - 1) + (y - 1) / 4 - (y - 1) / 100 + (y - 1) / 400 + 1721425 + (367 * mo - 362) / 12 + d) (e8 : 2 < mo → n = 365 * (y - 1) + (y - 1) / 4 - (y - 1) / 100 + (y - 1) / 400 + 1721425 + (367 * mo - 362) / 12 + d - 2 + lpN y) (e1 : 1 ≤ mo) (e2 : mo ≤ 12) (e3 : 1 ≤ d) (e4 : mo = 2 → d ≤ 28 + lpN y) (e5 : mo = 4 ∨ mo = 6 ∨ mo = 9 ∨ mo = 11 → d ≤ 30) (e6 : d ≤ 31) (f7 : n = dk + 30 * (mk - 1) + 365 * (yk - 1) + yk / 4 + 1825029) (f1 : 1 ≤ mk) (f2 : mk ≤ 13) (f3 : 1 ≤ dk) (f4 : dk ≤ 30) (f5 : mk = 13 → dk ≤ 5 + (yk + 1) / 4 - yk / 4) (hn1 : -5000000000 ≤ n) (hn2 : n ≤ 5000000000)
    (hmk : m (Str.ofString "kind") = some (.int 3 tk)) (hmd : m (Str.ofString "dates") = some (.ref DD)) (hmy : m (Str.ofString "year") = some (.int y t1)) (hmm : m (Str.ofString "month") = some (.int mo t2)) (hmz : m (Str.ofString "day") = some (.int d t3))
    (hret : ∀ (h' : Heap) (tk' : Nat), Fr h₀ L h' m → News h₀ L h' ((I, it) :: (DD, ({ cls := .type "list", data := .seq #[.ref D0, .ref D1, .ref D2, .ref D3, .ref D4] c } : Obj)) :: (D3, tup3 yk mk dk u1 u2 u3 c1) :: news) → Q .next { s with heap := h', toks := tk' }) :
    wpAny (model PySem.Challenge.rw_ak5015_01.row.prog w) (lawTop dp un gd L a ccd outer) (execs pairBody (lawEnv L a ccd)) Q (fun _ _ => False) s := by
  revert X; k_fill; intro X
  show wpAny _ (ktrTop _ _ _ _ ⟨_, _, _, _, _⟩ _ _ _ _ _) (execs (_ :: _ :: []) (envOf _ ⟨_, _, _, _, _⟩ _ _ _)) _ _ _
  k_steps
  rename News _ _ _ _ => NZ
  rename Fr _ _ _ _ => FZ
  first
  | exact hret _ _ FZ (drop1 (drop1 (drop1 NZ)))
  | exact hret _ _ FZ (drop1 (drop1 NZ))
  | exact hret _ _ FZ (drop1 (drop1 (drop1 (drop1 NZ))))
local macro_rules | `(tactic| walk_at "call ref") => `(tactic| (k_here; (with_reducible show wpAny _ _ (call (Value.ref 252) _) _ _ _); k_dflt (refine' Mine.lawfgd_4 _ _ _ _ _ _ _ _ _ _ _ ?k1 ?k2 ?k3 ?k4 ?k5 ?kK ?kd ?ku ?e7 ?e8 ?e1 ?e2 ?e3 ?e4 ?e5 ?e6 ?f7 ?f8 ?f9 ?f1 ?f2 ?f3 ?f4 ?f5 ?f6 ?hn1 ?hn2 ?_; (case k1 => k_asm); (case k2 => k_asm); (case k3 => k_asm); (case k4 => k_asm); (case k5 => k_asm); (case kK => first | exact rfl | assumption); (case kd => ((try dsimp only [ktrTop]); omega)); (case ku => ((try dsimp only [ktrTop]); omega)); (case e7 => first | with_reducible assumption | omega); (case e8 => first | with_reducible assumption | omega); (case e1 => first | with_reducible assumption | omega); (case e2 => first | with_reducible assumption | omega); (case e3 => first | with_reducible assumption | omega); (case e4 => first | with_reducible assumption | omega); (case e5 => first | with_reducible assumption | omega); (case e6 => first | with_reducible assumption | omega); (case f7 => first | with_reducible assumption | omega); (case f8 => first | with_reducible assumption | omega); (case f9 => first | with_reducible assumption | omega); (case f1 => first | with_reducible assumption | omega); (case f2 => first | with_reducible assumption | omega); (case f3 => first | with_reducible assumption | omega); (case f4 => first | with_reducible assumption | omega); (case f5 => first | with_reducible assumption | omega); (case f6 => first | with_reducible assumption | omega); (case hn1 => first | with_reducible assumption | omega); (case hn2 => first | with_reducible assumption | omega); all_goals (intro D9 u1 u2 u3 c9 h9 tk9 F9 N9 l9; (try simp only [AllLt, and_true] at l9); (try dsimp only); (try k_sweep); (try k_fold)))))
local macro_rules | `(tactic| walk_at "call ref") => `(tactic| (k_here; (with_reducible show wpAny _ _ (call (Value.ref 259) _) _ _ _); k_dflt (refine' Mine.lawtgd_4 _ _ _ _ _ _ _ _ _ _ _ ?k1 ?k2 ?k3 ?k4 ?k5 ?kK ?kd ?ku ?e7 ?e8 ?e1 ?e2 ?e3 ?e4 ?e5 ?e6 ?f7 ?f8 ?f9 ?f1 ?f2 ?f3 ?f4 ?f5 ?f6 ?hn1 ?hn2 ?_; (case k1 => k_asm); (case k2 => k_asm); (case k3 => k_asm); (case k4 => k_asm); (case k5 => k_asm); (case kK => first | exact rfl | assumption); (case kd => ((try dsimp only [ktrTop]); omega)); (case ku => ((try dsimp only [ktrTop]); omega)); (case e7 => first | with_reducible assumption | omega); (case e8 => first | with_reducible assumption | omega); (case e1 => first | with_reducible assumption | omega); (case e2 => first | with_reducible assumption | omega); (case e3 => first | with_reducible assumption | omega); (case e4 => first | with_reducible assumption | omega); (case e5 => first | with_reducible assumption | omega); (case e6 => first | with_reducible assumption | omega); (case f7 => first | with_reducible assumption | omega); (case f8 => first | with_reducible assumption | omega); (case f9 => first | with_reducible assumption | omega); (case f1 => first | with_reducible assumption | omega); (case f2 => first | with_reducible assumption | omega); (case f3 => first | with_reducible assumption | omega); (case f4 => first | with_reducible assumption | omega); (case f5 => first | with_reducible assumption | omega); (case f6 => first | with_reducible assumption | omega); (case hn1 => first | with_reducible assumption | omega); (case hn2 => first | with_reducible assumption | omega); all_goals (intro D9 u1 u2 u3 c9 h9 tk9 F9 N9 l9; (try simp only [AllLt, and_true] at l9); (try dsimp only); (try k_sweep); (try k_fold)))))
theorem pair_4 (n y mo d yk mk dk : Int) (tk t1 t2 t3 u1 u2 u3 : Tok) (I DD D0 D1 D2 D3 D4 : Addr) (it : Obj) (c c1 : Nat) (B : Below A₀ base outer h₀) (F : Fr h₀ L s.heap m) (X : (hd.heap_39 w.params).In h₀) (N : News h₀ L s.heap ((I, it) :: (DD, ({ cls := .type "list", data := .seq #[.ref D0, .ref D1, .ref D2, .ref D3, .ref D4] c } : Obj)) :: (D4, tup3 yk mk dk u1 u2 u3 c1) :: news)) (T : Top p loose mean mg mb h₀)
    (hdp : dp + 20 < recursionLimit) (hun : un + 200 < cLine) (e7 : mo ≤ 2 → n = 365 * (y - 1) + (y - 1) / 4 - (y - 1) / 100 + (y - 1) / 400 + 1721425 + (367 * mo - 362) / 12 + d) (e8 : 2 < mo → n = 365 * (y - 1) + (y - 1) / 4 - (y - 1) / 100 + (y - 1) / 400 + 1721425 + (367 * mo - 362) / 12 + d - 2 + lpN y) (e1 : 1 ≤ mo) (e2 : mo ≤ 12) (e3 : 1 ≤ d) (e4 : mo = 2 → d ≤ 28 + lpN y) (e5 : mo = 4 ∨ mo = 6 ∨ mo = 9 ∨ mo = 11 → d ≤ 30) (e6 : d ≤ 31) (f7 : mk = 1 → n = 365 * (yk + 78 - 1) + (yk + 78 - 1) / 4 - (yk + 78 - 1) / 100 + (yk + 78 - 1) / 400 + 1721425 + 80 + dk) (f8 : 2 ≤ mk → mk ≤ 6 → n = 365 * (yk + 78 - 1) + (yk + 78 - 1) / 4 - (yk + 78 - 1) / 100 + (yk + 78 - 1) / 400 + 1721425 + 110 + lpN (yk + 78) + 31 * (mk - 2) + dk) (f9 : 7 ≤ mk → n = 365 * (yk + 78 - 1) + (yk + 78 - 1) / 4 - (yk + 78 - 1) / 100 + (yk + 78 - 1) / 400 + 1721425 + 265 + lpN (yk + 78) + 30 * (mk - 7) + dk) (f1 : 1 ≤ mk) (f2 : mk ≤ 12) (f3 : 1 ≤ dk) (f4 : dk ≤ 31) (f5 : mk = 1 → dk ≤ 30 + lpN (yk + 78)) (f6 : 7 ≤ mk → dk ≤ 30) (hn1 : -5000000000 ≤ n) (hn2 : n ≤ 5000000000)
    (hmk : m (Str.ofString "kind") = some (.int 4 tk)) (hmd : m (Str.ofString "dates") = some (.ref DD)) (hmy : m (Str.ofString "year") = some (.int y t1)) (hmm : m (Str.ofString "month") = some (.int mo t2)) (hmz : m (Str.ofString "day") = some (.int d t3))
    (hret : ∀ (h' : Heap) (tk' : Nat), Fr h₀ L h' m → News h₀ L h' ((I, it) :: (DD, ({ cls := .type "list", data := .seq #[.ref D0, .ref D1, .ref D2, .ref D3, .ref D4] c } : Obj)) :: (D4, tup3 yk mk dk u1 u2 u3 c1) :: news) → Q .next { s with heap := h', toks := tk' }) :
    wpAny (model PySem.Challenge.rw_ak5015_01.row.prog w) (lawTop dp un gd L a ccd outer) (execs pairBody (lawEnv L a ccd)) Q (fun _ _ => False) s := by
  revert X; k_fill; intro X
  show wpAny _ (ktrTop _ _ _ _ ⟨_, _, _, _, _⟩ _ _ _ _ _) (execs (_ :: _ :: []) (envOf _ ⟨_, _, _, _, _⟩ _ _ _)) _ _ _
  k_steps
  rename News _ _ _ _ => NZ
  rename Fr _ _ _ _ => FZ
  first
  | exact hret _ _ FZ (drop1 (drop1 (drop1 NZ)))
  | exact hret _ _ FZ (drop1 (drop1 NZ))
  | exact hret _ _ FZ (drop1 (drop1 (drop1 (drop1 NZ))))
end
end Mine
-- DY
namespace Mine
set_option maxRecDepth 100000
set_option maxHeartbeats 8000000
open PySem PySem.W PyProof.Rows PySem.Calls
theorem still_DY : True := by w_top off; trivial
local macro_rules | `(tactic| walk_at "binaryOp Mod int int") => `(tactic| (k_here; (refine' Mine.r_mod_ii ?ba ?_; (case ba => decide); k_whole)))
local macro_rules | `(tactic| walk_at "ite") => `(tactic| (k_here; k_openite; first
  | (refine ite_pos (by ((try simp only [decide_eq_true_eq, beq_iff_eq, bne_iff_ne, ne_eq]); omega)) ?_)
  | (refine ite_neg (by ((try simp only [decide_eq_true_eq, beq_iff_eq, bne_iff_ne, ne_eq]); omega)) ?_)))
local macro_rules | `(tactic| walk_at "eval Name") => `(tactic| (k_here; (name_kind "globalImplicit"); k_dflt (refine' nameX_K ?F ?X ?T ?e ?_ ?a ?b; (case F => k_asm); (case X => k_asm); (case T => k_asm); (case a => rfl); (case b => rfl); (case e => k_is); k_whole)))
local macro_rules | `(tactic| walk_at "eval Name") => `(tactic| (k_here; (name_kind "local"); k_dflt (refine' nameX_L ?F ?v ?_ ?a ?b; (case F => k_asm); (case a => rfl); (case b => rfl); (case v => first | rfl | assumption); k_whole)))
local macro_rules | `(tactic| walk_at "binaryOp Add int bool") => `(tactic| (k_here; (first | with_reducible refine Mine.r_add_it ?_ | with_reducible refine Mine.r_add_i0 ?_)))
local macro_rules | `(tactic| walk_at "binaryOp Sub int bool") => `(tactic| (k_here; (first | with_reducible refine Mine.r_sub_it ?_ | with_reducible refine Mine.r_sub_i0 ?_)))
local macro_rules | `(tactic| walk_at "ite") => `(tactic| (k_here; k_closed; first | (with_reducible refine ite_pos ?c ?_; (case c => k_dflt decide)) | (with_reducible refine ite_neg ?c ?_; (case c => k_dflt decide))))
local macro_rules | `(tactic| walk_at "eval List") => `(tactic| (k_here; (with_reducible refine List_ ?_)))
local macro_rules | `(tactic| walk_at "eval Call Name") => `(tactic| (k_here; k_dflt (refine Call_ ?_)))
local macro_rules | `(tactic| walk_at "exec If") => `(tactic| (k_here; k_dflt (refine wpAny_If ?_)))
local macro_rules | `(tactic| walk_at "binaryOp Add float float") => `(tactic| (k_here; (with_reducible refine' Mine.r_add_ff ?hx ?hy ?bal ?bau ?bbl ?bbu ?_); k_dflt ((case hx => first | with_reducible exact Mine.c_half | with_reducible exact Mine.c_greg | with_reducible exact Mine.c_isl | with_reducible exact Mine.c_cop | with_reducible exact Mine.c_295 | with_reducible exact Mine.c_1524 | with_reducible rfl); (case hy => first | with_reducible exact Mine.c_half | with_reducible exact Mine.c_greg | with_reducible exact Mine.c_isl | with_reducible exact Mine.c_cop | with_reducible exact Mine.c_295 | with_reducible exact Mine.c_1524 | with_reducible rfl); (case bal => first | decide | (law_clear; omega) | omega); (case bau => first | decide | (law_clear; omega) | omega); (case bbl => first | decide | (law_clear; omega) | omega); (case bbu => first | decide | (law_clear; omega) | omega); k_whole)))
local macro_rules | `(tactic| walk_at "binaryOp Sub float float") => `(tactic| (k_here; (with_reducible refine' Mine.r_sub_ff ?hx ?hy ?bal ?bau ?bbl ?bbu ?_); k_dflt ((case hx => first | with_reducible exact Mine.c_half | with_reducible exact Mine.c_greg | with_reducible exact Mine.c_isl | with_reducible exact Mine.c_cop | with_reducible exact Mine.c_295 | with_reducible exact Mine.c_1524 | with_reducible rfl); (case hy => first | with_reducible exact Mine.c_half | with_reducible exact Mine.c_greg | with_reducible exact Mine.c_isl | with_reducible exact Mine.c_cop | with_reducible exact Mine.c_295 | with_reducible exact Mine.c_1524 | with_reducible rfl); (case bal => first | decide | (law_clear; omega) | omega); (case bau => first | decide | (law_clear; omega) | omega); (case bbl => first | decide | (law_clear; omega) | omega); (case bbu => first | decide | (law_clear; omega) | omega); k_whole)))
local macro_rules | `(tactic| walk_at "inplaceOp Add float float") => `(tactic| (k_here; (with_reducible refine' Mine.r_iadd_ff ?hx ?hy ?bal ?bau ?bbl ?bbu ?_); k_dflt ((case hx => first | with_reducible exact Mine.c_half | with_reducible exact Mine.c_greg | with_reducible exact Mine.c_isl | with_reducible exact Mine.c_cop | with_reducible exact Mine.c_295 | with_reducible exact Mine.c_1524 | with_reducible rfl); (case hy => first | with_reducible exact Mine.c_half | with_reducible exact Mine.c_greg | with_reducible exact Mine.c_isl | with_reducible exact Mine.c_cop | with_reducible exact Mine.c_295 | with_reducible exact Mine.c_1524 | with_reducible rfl); (case bal => first | decide | (law_clear; omega) | omega); (case bau => first | decide | (law_clear; omega) | omega); (case bbl => first | decide | (law_clear; omega) | omega); (case bbu => first | decide | (law_clear; omega) | omega); k_whole)))
local macro_rules | `(tactic| walk_at "binaryOp Add float int") => `(tactic| (k_here; (with_reducible refine' Mine.r_add_xi ?hnl ?hnu ?_); k_dflt ((case hnl => first | decide | (law_clear; omega) | omega); (case hnu => first | decide | (law_clear; omega) | omega); k_whole)))
local macro_rules | `(tactic| walk_at "binaryOp Add float int") => `(tactic| (k_here; (with_reducible refine' Mine.r_add_fi ?hx ?bal ?bau ?bbl ?bbu ?_); k_dflt ((case hx => first | with_reducible exact Mine.c_half | with_reducible exact Mine.c_greg | with_reducible exact Mine.c_isl | with_reducible exact Mine.c_cop | with_reducible exact Mine.c_295 | with_reducible exact Mine.c_1524 | with_reducible rfl); (case bal => first | decide | (law_clear; omega) | omega); (case bau => first | decide | (law_clear; omega) | omega); (case bbl => first | decide | (law_clear; omega) | omega); (case bbu => first | decide | (law_clear; omega) | omega); k_whole)))
local macro_rules | `(tactic| walk_at "binaryOp Sub float int") => `(tactic| (k_here; (with_reducible refine' Mine.r_sub_fi ?hx ?bal ?bau ?bbl ?bbu ?_); k_dflt ((case hx => first | with_reducible exact Mine.c_half | with_reducible exact Mine.c_greg | with_reducible exact Mine.c_isl | with_reducible exact Mine.c_cop | with_reducible exact Mine.c_295 | with_reducible exact Mine.c_1524 | with_reducible rfl); (case bal => first | decide | (law_clear; omega) | omega); (case bau => first | decide | (law_clear; omega) | omega); (case bbl => first | decide | (law_clear; omega) | omega); (case bbu => first | decide | (law_clear; omega) | omega); k_whole)))
local macro_rules | `(tactic| walk_at "inplaceOp Add float int") => `(tactic| (k_here; (with_reducible refine' Mine.r_iadd_fi ?hx ?bal ?bau ?bbl ?bbu ?_); k_dflt ((case hx => first | with_reducible exact Mine.c_half | with_reducible exact Mine.c_greg | with_reducible exact Mine.c_isl | with_reducible exact Mine.c_cop | with_reducible exact Mine.c_295 | with_reducible exact Mine.c_1524 | with_reducible rfl); (case bal => first | decide | (law_clear; omega) | omega); (case bau => first | decide | (law_clear; omega) | omega); (case bbl => first | decide | (law_clear; omega) | omega); (case bbu => first | decide | (law_clear; omega) | omega); k_whole)))
local macro_rules | `(tactic| walk_at "inplaceOp Sub float int") => `(tactic| (k_here; (with_reducible refine' Mine.r_isub_fi ?hx ?bal ?bau ?bbl ?bbu ?_); k_dflt ((case hx => first | with_reducible exact Mine.c_half | with_reducible exact Mine.c_greg | with_reducible exact Mine.c_isl | with_reducible exact Mine.c_cop | with_reducible exact Mine.c_295 | with_reducible exact Mine.c_1524 | with_reducible rfl); (case bal => first | decide | (law_clear; omega) | omega); (case bau => first | decide | (law_clear; omega) | omega); (case bbl => first | decide | (law_clear; omega) | omega); (case bbu => first | decide | (law_clear; omega) | omega); k_whole)))
local macro_rules | `(tactic| walk_at "binaryOp Sub int float") => `(tactic| (k_here; (with_reducible refine' Mine.r_sub_ic ?hnl ?hnu ?_); k_dflt ((case hnl => first | decide | (law_clear; omega) | omega); (case hnu => first | decide | (law_clear; omega) | omega); k_whole)))
local macro_rules | `(tactic| walk_at "binaryOp Add int float") => `(tactic| (k_here; (with_reducible refine' Mine.r_add_if ?hx ?bal ?bau ?bbl ?bbu ?_); k_dflt ((case hx => first | with_reducible exact Mine.c_half | with_reducible exact Mine.c_greg | with_reducible exact Mine.c_isl | with_reducible exact Mine.c_cop | with_reducible exact Mine.c_295 | with_reducible exact Mine.c_1524 | with_reducible rfl); (case bal => first | decide | (law_clear; omega) | omega); (case bau => first | decide | (law_clear; omega) | omega); (case bbl => first | decide | (law_clear; omega) | omega); (case bbu => first | decide | (law_clear; omega) | omega); k_whole)))
local macro_rules | `(tactic| walk_at "binaryOp Sub int float") => `(tactic| (k_here; (with_reducible refine' Mine.r_sub_if ?hx ?bal ?bau ?bbl ?bbu ?_); k_dflt ((case hx => first | with_reducible exact Mine.c_half | with_reducible exact Mine.c_greg | with_reducible exact Mine.c_isl | with_reducible exact Mine.c_cop | with_reducible exact Mine.c_295 | with_reducible exact Mine.c_1524 | with_reducible rfl); (case bal => first | decide | (law_clear; omega) | omega); (case bau => first | decide | (law_clear; omega) | omega); (case bbl => first | decide | (law_clear; omega) | omega); (case bbu => first | decide | (law_clear; omega) | omega); k_whole)))
local macro_rules | `(tactic| walk_at "binaryOp Mult float int") => `(tactic| (k_here; (with_reducible refine' Mine.r_mul_xi ?hnl ?hnu ?_); k_dflt ((case hnl => first | decide | (law_clear; omega) | omega); (case hnu => first | decide | (law_clear; omega) | omega); k_whole)))
local macro_rules | `(tactic| walk_at "binaryOp Mult float int") => `(tactic| (k_here; (with_reducible refine' Mine.r_mul_ci ?hx ?ha ?ha2 ?bnl ?bnu ?_); k_dflt ((case hx => first | with_reducible exact Mine.c_half | with_reducible exact Mine.c_greg | with_reducible exact Mine.c_isl | with_reducible exact Mine.c_cop | with_reducible exact Mine.c_295 | with_reducible exact Mine.c_1524 | with_reducible rfl); (case ha => decide); (case ha2 => decide); (case bnl => first | decide | (law_clear; omega) | omega); (case bnu => first | decide | (law_clear; omega) | omega); k_whole)))
local macro_rules | `(tactic| walk_at "binaryOp Mult float int") => `(tactic| (k_here; (with_reducible refine' Mine.r_mul_fi ?hx ?hn ?hn2 ?bal ?bau ?_); k_dflt ((case hx => first | with_reducible exact Mine.c_half | with_reducible exact Mine.c_greg | with_reducible exact Mine.c_isl | with_reducible exact Mine.c_cop | with_reducible exact Mine.c_295 | with_reducible exact Mine.c_1524 | with_reducible rfl); (case hn => decide); (case hn2 => decide); (case bal => first | decide | (law_clear; omega) | omega); (case bau => first | decide | (law_clear; omega) | omega); k_whole)))
local macro_rules | `(tactic| walk_at "binaryOp Mult int float") => `(tactic| (k_here; (with_reducible refine' Mine.r_mul_if ?hx ?hn ?hn2 ?bal ?bau ?_); k_dflt ((case hx => first | with_reducible exact Mine.c_half | with_reducible exact Mine.c_greg | with_reducible exact Mine.c_isl | with_reducible exact Mine.c_cop | with_reducible exact Mine.c_295 | with_reducible exact Mine.c_1524 | with_reducible rfl); (case hn => decide); (case hn2 => decide); (case bal => first | decide | (law_clear; omega) | omega); (case bau => first | decide | (law_clear; omega) | omega); k_whole)))
local macro_rules | `(tactic| walk_at "binaryOp Mod float int") => `(tactic| (k_here; (with_reducible refine' Mine.r_mod_q ?hA ?hx ?hn ?hn2 ?bal ?bau ?_); k_dflt ((case hA => exact rfl); (case hx => first | with_reducible exact Mine.c_half | with_reducible exact Mine.c_greg | with_reducible exact Mine.c_isl | with_reducible exact Mine.c_cop | with_reducible exact Mine.c_295 | with_reducible exact Mine.c_1524 | with_reducible rfl); (case hn => decide); (case hn2 => decide); (case bal => first | decide | (law_clear; omega) | omega); (case bau => first | decide | (law_clear; omega) | omega); k_whole); intro r9 hr9 hr0 hr1))
local macro_rules | `(tactic| walk_at "binaryOp Div float int") => `(tactic| (k_here; (with_reducible refine' Mine.r_div_fi ?hA ?hn ?hn2 ?_); k_dflt ((case hA => exact rfl); (case hn => decide); (case hn2 => decide); k_whole)))
local macro_rules | `(tactic| walk_at "binaryOp Div float float") => `(tactic| (k_here; (with_reducible refine' Mine.r_div_fc ?hA ?hz ?_); k_dflt ((case hA => exact rfl); (case hz => decide +kernel); k_whole)))
local macro_rules | `(tactic| walk_at "binaryOp Div float float") => `(tactic| (k_here; (with_reducible refine' Mine.r_div_ff ?hA ?hy ?hb ?hb2 ?_); k_dflt ((case hA => exact rfl); (case hy => first | with_reducible exact Mine.c_half | with_reducible exact Mine.c_greg | with_reducible exact Mine.c_isl | with_reducible exact Mine.c_cop | with_reducible exact Mine.c_295 | with_reducible exact Mine.c_1524 | with_reducible rfl); (case hb => decide); (case hb2 => decide); k_whole)))
local macro_rules | `(tactic| walk_at "binaryOp Div int float") => `(tactic| (k_here; (with_reducible refine' Mine.r_div_ic ?hA ?hnl ?hnu ?hz ?_); k_dflt ((case hA => exact rfl); (case hnl => first | decide | (law_clear; omega) | omega); (case hnu => first | decide | (law_clear; omega) | omega); (case hz => decide +kernel); k_whole)))
local macro_rules | `(tactic| walk_at "binaryOp Div int int") => `(tactic| (k_here; (with_reducible refine' Mine.r_div_ii ?hA ?hb ?hal ?hau ?_); k_dflt ((case hA => exact rfl); (case hb => decide); (case hal => first | decide | (law_clear; omega) | omega); (case hau => first | decide | (law_clear; omega) | omega); k_whole)))
local macro_rules | `(tactic| walk_at "call builtin:math.floor") => `(tactic| (k_here; (with_reducible refine' Mine.r_floor_g ?hA ?hx ?hm0 ?hm1 ?ha0 ?ha1 ?hd0 ?hd1 ?_); k_dflt ((case hA => exact rfl); (case hx => first | with_reducible exact rfl | exact rfl); (case hm0 => first | decide | (law_clear; omega) | omega); (case hm1 => first | decide | (law_clear; omega) | omega); (case ha0 => first | decide | (law_clear; omega) | omega); (case ha1 => first | decide | (law_clear; omega) | omega); (case hd0 => first | decide | (law_clear; omega) | omega); (case hd1 => first | decide | (law_clear; omega) | omega); k_whole); intro q9 hq0))
local macro_rules | `(tactic| walk_at "call builtin:math.floor") => `(tactic| (k_here; (with_reducible refine' Mine.r_floor_jm ?hA ?hx ?b0 ?b1 ?_); k_dflt ((case hA => exact rfl); (case hx => first | with_reducible exact rfl | exact rfl); (case b0 => first | decide | (law_clear; omega) | omega); (case b1 => first | decide | (law_clear; omega) | omega); k_whole); intro q9 hq0))
local macro_rules | `(tactic| walk_at "call builtin:math.floor") => `(tactic| (k_here; (with_reducible refine' Mine.r_floor_je ?hA ?hx ?b0 ?b1 ?_); k_dflt ((case hA => exact rfl); (case hx => first | with_reducible exact rfl | exact rfl); (case b0 => first | decide | (law_clear; omega) | omega); (case b1 => first | decide | (law_clear; omega) | omega); k_whole); intro q9 hq0))
local macro_rules | `(tactic| walk_at "call builtin:math.floor") => `(tactic| (k_here; (with_reducible refine' Mine.r_floor_jd ?hA ?hx ?bnl ?bnu ?_); k_dflt ((case hA => exact rfl); (case hx => first | with_reducible exact rfl | exact rfl); (case bnl => first | decide | (law_clear; omega) | omega); (case bnu => first | decide | (law_clear; omega) | omega); k_whole); intro q9 hq0))
local macro_rules | `(tactic| walk_at "call builtin:math.floor") => `(tactic| (k_here; (with_reducible refine' Mine.r_floor_jc ?hA ?hx ?bnl ?bnu ?_); k_dflt ((case hA => exact rfl); (case hx => first | with_reducible exact rfl | exact rfl); (case bnl => first | decide | (law_clear; omega) | omega); (case bnu => first | decide | (law_clear; omega) | omega); k_whole); intro q9 hq0))
local macro_rules | `(tactic| walk_at "call builtin:math.floor") => `(tactic| (k_here; (with_reducible refine' Mine.r_floor_ii ?hA ?hb ?hb2 ?bal ?bau ?k1 ?k2 ?_); k_dflt ((case hA => exact rfl); (case hb => decide); (case hb2 => decide); (case bal => first | decide | (law_clear; omega) | omega); (case bau => first | decide | (law_clear; omega) | omega); (case k1 => first | decide | (law_clear; omega) | omega); (case k2 => first | decide | (law_clear; omega) | omega); k_whole); intro q9 hq0))
local macro_rules | `(tactic| walk_at "call builtin:math.floor") => `(tactic| (k_here; (with_reducible refine' Mine.r_floor_div ?hA ?hb ?hb2 ?bal ?bau ?k1 ?k2 ?_); k_dflt ((case hA => exact rfl); (case hb => decide); (case hb2 => decide); (case bal => first | decide | (law_clear; omega) | omega); (case bau => first | decide | (law_clear; omega) | omega); (case k1 => first | decide | (law_clear; omega) | omega); (case k2 => first | decide | (law_clear; omega) | omega); k_whole); intro q9 hq0))
local macro_rules | `(tactic| walk_at "call builtin:math.floor") => `(tactic| (k_here; (with_reducible refine' Mine.r_floor_hf ?hA ?bal ?bau ?_); k_dflt ((case hA => exact rfl); (case bal => first | decide | (law_clear; omega) | omega); (case bau => first | decide | (law_clear; omega) | omega); k_whole); intro q9 hq0))
local macro_rules | `(tactic| walk_at "call builtin:math.ceil") => `(tactic| (k_here; (with_reducible refine' Mine.r_ceil_div ?hA ?hb ?hb2 ?bal ?bau ?k1 ?k2 ?_); k_dflt ((case hA => exact rfl); (case hb => decide); (case hb2 => decide); (case bal => first | decide | (law_clear; omega) | omega); (case bau => first | decide | (law_clear; omega) | omega); (case k1 => first | decide | (law_clear; omega) | omega); (case k2 => first | decide | (law_clear; omega) | omega); k_whole); intro q9 hq0 hq1))
local macro_rules | `(tactic| walk_at "call builtin:math.ceil") => `(tactic| (k_here; (with_reducible refine' Mine.r_ceil_hf ?hA ?bal ?bau ?_); k_dflt ((case hA => exact rfl); (case bal => first | decide | (law_clear; omega) | omega); (case bau => first | decide | (law_clear; omega) | omega); k_whole); intro q9 hq0 hq1))
local macro_rules | `(tactic| walk_at "call type:int") => `(tactic| (k_here; (with_reducible refine' Mine.r_trunc_hf ?hA ?bal ?bau ?he ?_); k_dflt ((case hA => exact rfl); (case bal => first | decide | (law_clear; omega) | omega); (case bau => first | decide | (law_clear; omega) | omega); (case he => first | decide | (law_clear; omega) | omega); k_whole); intro q9 hq0))
local macro_rules | `(tactic| walk_at "compareOp Lt float int") => `(tactic| (k_here; (with_reducible refine' Mine.r_lt_fi ?hx ?bal ?bau ?_); k_dflt ((case hx => first | with_reducible exact Mine.c_half | with_reducible exact Mine.c_greg | with_reducible exact Mine.c_isl | with_reducible exact Mine.c_cop | with_reducible exact Mine.c_295 | with_reducible exact Mine.c_1524 | with_reducible rfl); (case bal => first | decide | (law_clear; omega) | omega); (case bau => first | decide | (law_clear; omega) | omega); k_whole)))
local macro_rules | `(tactic| walk_at "compareOp NotEq float float") => `(tactic| (k_here; (with_reducible refine' Mine.r_ne_ff ?hx ?hy ?bal ?bau ?bbl ?bbu ?hab ?_); k_dflt ((case hx => first | with_reducible exact Mine.c_half | with_reducible exact Mine.c_greg | with_reducible exact Mine.c_isl | with_reducible exact Mine.c_cop | with_reducible exact Mine.c_295 | with_reducible exact Mine.c_1524 | with_reducible rfl); (case hy => first | with_reducible exact Mine.c_half | with_reducible exact Mine.c_greg | with_reducible exact Mine.c_isl | with_reducible exact Mine.c_cop | with_reducible exact Mine.c_295 | with_reducible exact Mine.c_1524 | with_reducible rfl); (case bal => first | decide | (law_clear; omega) | omega); (case bau => first | decide | (law_clear; omega) | omega); (case bbl => first | decide | (law_clear; omega) | omega); (case bbu => first | decide | (law_clear; omega) | omega); (case hab => omega); k_whole)))
theorem sub_a {α : Type} {a b c : α} {l : List α} : ∀ p ∈ b :: c :: a :: l, p ∈ a :: b :: c :: l := fun p hp => by
  rcases List.mem_cons.mp hp with rfl | hp
  · exact .tail _ (.head _)
  · rcases List.mem_cons.mp hp with rfl | hp
    · exact .tail _ (.tail _ (.head _))
    · rcases List.mem_cons.mp hp with rfl | hp
      · exact .head _
      · exact .tail _ (.tail _ (.tail _ hp))
theorem off_c {I D : Addr} {o : Obj} {l : List (Addr × Obj)} (h : ∀ p ∈ l, p.1 ≠ I) (hd : D ≠ I) : ∀ p ∈ (D, o) :: l, p.1 ≠ I := fun p hp => by
  rcases List.mem_cons.mp hp with rfl | hp
  · exact hd
  · exact h p hp
theorem sub_in {α : Type} {i a b : α} {l : List α} (ha : a ∈ l) (hb : b ∈ l) : ∀ p ∈ i :: a :: b :: l, p ∈ i :: l := fun p hp => by
  rcases List.mem_cons.mp hp with rfl | hp
  · exact .head _
  · rcases List.mem_cons.mp hp with rfl | hp
    · exact .tail _ ha
    · rcases List.mem_cons.mp hp with rfl | hp
      · exact .tail _ hb
      · exact .tail _ hp
theorem sub_out {α : Type} {i a b : α} {l : List α} : ∀ p ∈ i :: l, p ∈ i :: a :: b :: l := fun p hp => by
  rcases List.mem_cons.mp hp with rfl | hp
  · exact .head _
  · exact .tail _ (.tail _ (.tail _ hp))
theorem news_sub {h₀ h : Heap} {L : Addr} {a b : List (Addr × Obj)} (N : News h₀ L h b) (hs : ∀ p ∈ a, p ∈ b) : News h₀ L h a := fun p hp => N p (hs p hp)
section
variable {w : World} {p : Program} {loose : List Str} {mean : ExcName → Option Value} {mg mb : Str → Option Value} {dp un : Nat} {gd : Option (List Code)} {a : Addr} {ccd : Value} {outer : List Env} {A₀ : Around} {base h₀ : Heap} {L : Addr} {m : Str → Option Value} {news : List (Addr × Obj)} {s : Shared} {Q : Flow → Shared → Prop}
theorem day (n : Int) (t : Tok) (hn1 : -5000000000 ≤ n) (hn2 : n ≤ 5000000000) (B : Below A₀ base outer h₀) (F : Fr h₀ L s.heap m) (X : (hd.heap_39 w.params).In h₀) (N : News h₀ L s.heap news) (T : Top p loose mean mg mb h₀)
    (hdp : dp + 20 < recursionLimit) (hun : un + 200 < cLine)
    (hm : m (Str.ofString "number") = some (.int n t))
    (hret : ∀ (m' : Str → Option Value) (h' : Heap) (tk' : Nat), Fr h₀ L h' m' → News h₀ L h' news → Q .next { s with heap := h', toks := tk' }) :
    wpAny (model PySem.Challenge.rw_ak5015_01.row.prog w) (lawTop dp un gd L a ccd outer) (execs dayBody (lawEnv L a ccd)) Q (fun _ _ => False) s := by
  revert X; k_fill; intro X
  show wpAny _ (ktrTop _ _ _ _ ⟨_, _, _, _, _⟩ _ _ _ _ _) (execs (_ :: _ :: _ :: _ :: []) (envOf _ ⟨_, _, _, _, _⟩ _ _ _)) _ _ _
  repeat' ((fail_if_success (with_reducible show wpAny _ _ (exec (Stmt.For _ _ _ _ _) _) _ _ _)); first | (k_unfold; (try dsimp only)) | (k_end; kc_close) | walk1 | (dsimp only; walk1) | (leave1; walk_say "STEP leave1"; (try dsimp only)) | fail "no step")
  rename_i DD hx1 hlt hx2 FA NA
  refine' For_invVF FA ?k1 ?k2 ?_
  (case k1 => exact rfl)
  (case k2 => exact rfl)
  repeat' ((fail_if_success (with_reducible show wpAny _ _ (pyIter _) _ _ _)); first | (k_unfold; (try dsimp only)) | (k_end; kc_close) | walk1 | (dsimp only; walk1) | (leave1; walk_say "STEP leave1"; (try dsimp only)) | fail "no step")
  rename IsRange _ _ _ _ _ _ _ _ => HR
  rename Fr _ _ _ _ => FB
  rename News _ _ _ _ => NB
  refine iter_rangeUnr (n := 5) (by rfl) HR (by decide) (by decide) FB NB ?_
  intro I hI
  have hID : I ≠ DD := Nat.ne_of_gt (hI _ (.head _))
  have oI : ∀ p ∈ news, p.1 ≠ I := fun p hp => Nat.ne_of_lt (hI p (.tail _ hp))
  have oD : ∀ p ∈ news, p.1 ≠ DD := fun p hp => Nat.ne_of_lt (hlt p hp)
  refine RangeRest.succ (fun t0 h0 tk0 F0 N0 => ?_)
  refine turn_0 n t t0 I DD  _ _ hn1 hn2 B F0 X N0 T hdp hun (by exact hm) (by exact rfl) (by exact rfl) hID oD ?_
  intro y0 mo0 d0 g0_1 g0_2 g0_3 g0_4 g0_5 g0_6 g0_7 g0_8 D0 u01 u02 u03 c0 cc0 m0 hh0 tt0 hm0 hd0 FF0 NN0 lI0 lD0 lA0
  refine UnrEnd.intro FF0 NN0 _ sub_a (off_c (off_c oI (Nat.ne_of_gt lI0)) (Ne.symm hID)) ?_
  have oI0 := off_c (o := tup3 y0 mo0 d0 u01 u02 u03 c0) oI (Nat.ne_of_gt lI0)
  have oD0 := off_c (o := tup3 y0 mo0 d0 u01 u02 u03 c0) oD (Nat.ne_of_gt lD0)
  refine RangeRest.succ (fun t1 h1 tk1 F1 N1 => ?_)
  refine turn_1 n t t1 I DD D0 _ _ hn1 hn2 B F1 X N1 T hdp hun (by exact hm0) (by exact rfl) (by exact hd0) hID oD0 ?_
  intro y1 mo1 d1 g1_1 g1_2 g1_3 g1_4 g1_5 g1_6 g1_7 g1_8 D1 u11 u12 u13 c1 cc1 m1 hh1 tt1 hm1 hd1 FF1 NN1 lI1 lD1 lA1
  refine UnrEnd.intro FF1 NN1 _ sub_a (off_c (off_c oI0 (Nat.ne_of_gt lI1)) (Ne.symm hID)) ?_
  have oI1 := off_c (o := tup3 y1 mo1 d1 u11 u12 u13 c1) oI0 (Nat.ne_of_gt lI1)
  have oD1 := off_c (o := tup3 y1 mo1 d1 u11 u12 u13 c1) oD0 (Nat.ne_of_gt lD1)
  refine RangeRest.succ (fun t2 h2 tk2 F2 N2 => ?_)
  refine turn_2 n t t2 I DD D0 D1 _ _ hn1 hn2 B F2 X N2 T hdp hun (by exact hm1) (by exact rfl) (by exact hd1) hID oD1 ?_
  intro y2 mo2 d2 g2_1 g2_2 g2_3 g2_4 g2_5 g2_6 g2_7 D2 u21 u22 u23 c2 cc2 m2 hh2 tt2 hm2 hd2 FF2 NN2 lI2 lD2 lA2
  refine UnrEnd.intro FF2 NN2 _ sub_a (off_c (off_c oI1 (Nat.ne_of_gt lI2)) (Ne.symm hID)) ?_
  have oI2 := off_c (o := tup3 y2 mo2 d2 u21 u22 u23 c2) oI1 (Nat.ne_of_gt lI2)
  have oD2 := off_c (o := tup3 y2 mo2 d2 u21 u22 u23 c2) oD1 (Nat.ne_of_gt lD2)
  refine RangeRest.succ (fun t3 h3 tk3 F3 N3 => ?_)
  refine turn_3 n t t3 I DD D0 D1 D2 _ _ hn1 hn2 B F3 X N3 T hdp hun (by exact hm2) (by exact rfl) (by exact hd2) hID oD2 ?_
  intro y3 mo3 d3 g3_1 g3_2 g3_3 g3_4 g3_5 g3_6 D3 u31 u32 u33 c3 cc3 m3 hh3 tt3 hm3 hd3 FF3 NN3 lI3 lD3 lA3
  refine UnrEnd.intro FF3 NN3 _ sub_a (off_c (off_c oI2 (Nat.ne_of_gt lI3)) (Ne.symm hID)) ?_
  have oI3 := off_c (o := tup3 y3 mo3 d3 u31 u32 u33 c3) oI2 (Nat.ne_of_gt lI3)
  have oD3 := off_c (o := tup3 y3 mo3 d3 u31 u32 u33 c3) oD2 (Nat.ne_of_gt lD3)
  refine RangeRest.succ (fun t4 h4 tk4 F4 N4 => ?_)
  refine turn_4 n t t4 I DD D0 D1 D2 D3 _ _ hn1 hn2 B F4 X N4 T hdp hun (by exact hm3) (by exact rfl) (by exact hd3) hID oD3 ?_
  intro y4 mo4 d4 g4_1 g4_2 g4_3 g4_4 g4_5 g4_6 g4_7 g4_8 g4_9 D4 u41 u42 u43 c4 cc4 m4 hh4 tt4 hm4 hd4 FF4 NN4 lI4 lD4 lA4
  refine UnrEnd.intro FF4 NN4 _ sub_a (off_c (off_c oI3 (Nat.ne_of_gt lI4)) (Ne.symm hID)) ?_
  have oI4 := off_c (o := tup3 y4 mo4 d4 u41 u42 u43 c4) oI3 (Nat.ne_of_gt lI4)
  have oD4 := off_c (o := tup3 y4 mo4 d4 u41 u42 u43 c4) oD3 (Nat.ne_of_gt lD4)
  refine RangeRest.zero (fun hZ tkZ FZ NZ => ?_)
  repeat' ((fail_if_success (with_reducible show wpAny _ _ (exec (Stmt.For _ _ _ _ _) _) _ _ _)); first | (k_unfold; (try dsimp only)) | (k_end; kc_close) | walk1 | (dsimp only; walk1) | (leave1; walk_say "STEP leave1"; (try dsimp only)) | fail "no step")
  rename Fr _ _ _ _ => FA2
  rename News _ _ _ _ => NA2
  refine' For_invVF FA2 ?k1 ?k2 ?_
  (case k1 => exact rfl)
  (case k2 => exact rfl)
  repeat' ((fail_if_success (with_reducible show wpAny _ _ (pyIter _) _ _ _)); first | (k_unfold; (try dsimp only)) | (k_end; kc_close) | walk1 | (dsimp only; walk1) | (leave1; walk_say "STEP leave1"; (try dsimp only)) | fail "no step")
  rename IsRange _ _ _ _ _ _ _ _ => HR2
  rename Fr _ _ _ _ => FB2
  rename News _ _ _ _ => NB2
  refine iter_rangeUnr (n := 4) (by rfl) HR2 (by decide) (by decide) FB2 NB2 ?_
  intro J hJ
  have oJ := fun p hp => Nat.ne_of_lt (hJ p hp)
  refine RangeRest.succ (fun s1 hp1 tp1 FP1 NP1 => ?_)
  refine pair_1 n y0 mo0 d0 y1 mo1 d1 s1 _ _ _ u11 u12 u13 J DD D0 D1 D2 D3 D4 _ _ c1 B FP1 X (news_sub NP1 (sub_in (.head _) (.tail _ (.tail _ (.tail _ (.tail _ (.head _))))))) T hdp hun g0_7 g0_8 g0_1 g0_2 g0_3 g0_4 g0_5 g0_6 g1_7 g1_8 g1_1 g1_2 g1_3 g1_4 g1_5 g1_6 hn1 hn2 (by exact rfl) (by exact hd4) (by exact rfl) (by exact rfl) (by exact rfl) ?_
  intro hq1 tq1 FQ1 NQ1
  refine UnrEnd.intro FQ1 NQ1 _ sub_out oJ ?_
  refine RangeRest.succ (fun s2 hp2 tp2 FP2 NP2 => ?_)
  refine pair_2 n y0 mo0 d0 y2 mo2 d2 s2 _ _ _ u21 u22 u23 J DD D0 D1 D2 D3 D4 _ _ c2 B FP2 X (news_sub NP2 (sub_in (.head _) (.tail _ (.tail _ (.tail _ (.head _)))))) T hdp hun g0_7 g0_8 g0_1 g0_2 g0_3 g0_4 g0_5 g0_6 g2_7 g2_1 g2_2 g2_3 g2_4 g2_5 g2_6 hn1 hn2 (by exact rfl) (by exact hd4) (by exact rfl) (by exact rfl) (by exact rfl) ?_
  intro hq2 tq2 FQ2 NQ2
  refine UnrEnd.intro FQ2 NQ2 _ sub_out oJ ?_
  refine RangeRest.succ (fun s3 hp3 tp3 FP3 NP3 => ?_)
  refine pair_3 n y0 mo0 d0 y3 mo3 d3 s3 _ _ _ u31 u32 u33 J DD D0 D1 D2 D3 D4 _ _ c3 B FP3 X (news_sub NP3 (sub_in (.head _) (.tail _ (.tail _ (.head _))))) T hdp hun g0_7 g0_8 g0_1 g0_2 g0_3 g0_4 g0_5 g0_6 g3_6 g3_1 g3_2 g3_3 g3_4 g3_5 hn1 hn2 (by exact rfl) (by exact hd4) (by exact rfl) (by exact rfl) (by exact rfl) ?_
  intro hq3 tq3 FQ3 NQ3
  refine UnrEnd.intro FQ3 NQ3 _ sub_out oJ ?_
  refine RangeRest.succ (fun s4 hp4 tp4 FP4 NP4 => ?_)
  refine pair_4 n y0 mo0 d0 y4 mo4 d4 s4 _ _ _ u41 u42 u43 J DD D0 D1 D2 D3 D4 _ _ c4 B FP4 X (news_sub NP4 (sub_in (.head _) (.tail _ (.head _)))) T hdp hun g0_7 g0_8 g0_1 g0_2 g0_3 g0_4 g0_5 g0_6 g4_7 g4_8 g4_9 g4_1 g4_2 g4_3 g4_4 g4_5 g4_6 hn1 hn2 (by exact rfl) (by exact hd4) (by exact rfl) (by exact rfl) (by exact rfl) ?_
  intro hq4 tq4 FQ4 NQ4
  refine UnrEnd.intro FQ4 NQ4 _ sub_out oJ ?_
  refine RangeRest.zero (fun hY tkY FY NY => ?_)
  k_steps
  exact hret _ _ _ FY (fun p hp => NY p (.tail _ (.tail _ (.tail _ (.tail _ (.tail _ (.tail _ hp)))))))
end
end Mine
-- LR
namespace Mine
set_option maxRecDepth 100000
set_option maxHeartbeats 8000000
open PySem PySem.W PyProof.Rows PySem.Calls
theorem still_LR : True := by w_top off; trivial
local macro_rules | `(tactic| walk_at "binaryOp Mod int int") => `(tactic| (k_here; (refine' Mine.r_mod_ii ?ba ?_; (case ba => decide); k_whole)))
local macro_rules | `(tactic| walk_at "ite") => `(tactic| (k_here; k_openite; first
  | (refine ite_pos (by ((try simp only [decide_eq_true_eq, beq_iff_eq, bne_iff_ne, ne_eq]); omega)) ?_)
  | (refine ite_neg (by ((try simp only [decide_eq_true_eq, beq_iff_eq, bne_iff_ne, ne_eq]); omega)) ?_)))
local macro_rules | `(tactic| walk_at "eval Name") => `(tactic| (k_here; (name_kind "globalImplicit"); k_dflt (refine' nameX_K ?F ?X ?T ?e ?_ ?a ?b; (case F => k_asm); (case X => k_asm); (case T => k_asm); (case a => rfl); (case b => rfl); (case e => k_is); k_whole)))
local macro_rules | `(tactic| walk_at "eval Name") => `(tactic| (k_here; (name_kind "local"); k_dflt (refine' nameX_L ?F ?v ?_ ?a ?b; (case F => k_asm); (case a => rfl); (case b => rfl); (case v => first | rfl | assumption); k_whole)))
local macro_rules | `(tactic| walk_at "binaryOp Add int bool") => `(tactic| (k_here; (first | with_reducible refine Mine.r_add_it ?_ | with_reducible refine Mine.r_add_i0 ?_)))
local macro_rules | `(tactic| walk_at "binaryOp Sub int bool") => `(tactic| (k_here; (first | with_reducible refine Mine.r_sub_it ?_ | with_reducible refine Mine.r_sub_i0 ?_)))
local macro_rules | `(tactic| walk_at "ite") => `(tactic| (k_here; k_closed; first | (with_reducible refine ite_pos ?c ?_; (case c => k_dflt decide)) | (with_reducible refine ite_neg ?c ?_; (case c => k_dflt decide))))
local macro_rules | `(tactic| walk_at "eval List") => `(tactic| (k_here; (with_reducible refine List_ ?_)))
local macro_rules | `(tactic| walk_at "eval Call Name") => `(tactic| (k_here; k_dflt (refine Call_ ?_)))
local macro_rules | `(tactic| walk_at "exec If") => `(tactic| (k_here; k_dflt (refine wpAny_If ?_)))
local macro_rules | `(tactic| walk_at "binaryOp Add float float") => `(tactic| (k_here; (with_reducible refine' Mine.r_add_ff ?hx ?hy ?bal ?bau ?bbl ?bbu ?_); k_dflt ((case hx => first | with_reducible exact Mine.c_half | with_reducible exact Mine.c_greg | with_reducible exact Mine.c_isl | with_reducible exact Mine.c_cop | with_reducible exact Mine.c_295 | with_reducible exact Mine.c_1524 | with_reducible rfl); (case hy => first | with_reducible exact Mine.c_half | with_reducible exact Mine.c_greg | with_reducible exact Mine.c_isl | with_reducible exact Mine.c_cop | with_reducible exact Mine.c_295 | with_reducible exact Mine.c_1524 | with_reducible rfl); (case bal => first | decide | (law_clear; omega) | omega); (case bau => first | decide | (law_clear; omega) | omega); (case bbl => first | decide | (law_clear; omega) | omega); (case bbu => first | decide | (law_clear; omega) | omega); k_whole)))
local macro_rules | `(tactic| walk_at "binaryOp Sub float float") => `(tactic| (k_here; (with_reducible refine' Mine.r_sub_ff ?hx ?hy ?bal ?bau ?bbl ?bbu ?_); k_dflt ((case hx => first | with_reducible exact Mine.c_half | with_reducible exact Mine.c_greg | with_reducible exact Mine.c_isl | with_reducible exact Mine.c_cop | with_reducible exact Mine.c_295 | with_reducible exact Mine.c_1524 | with_reducible rfl); (case hy => first | with_reducible exact Mine.c_half | with_reducible exact Mine.c_greg | with_reducible exact Mine.c_isl | with_reducible exact Mine.c_cop | with_reducible exact Mine.c_295 | with_reducible exact Mine.c_1524 | with_reducible rfl); (case bal => first | decide | (law_clear; omega) | omega); (case bau => first | decide | (law_clear; omega) | omega); (case bbl => first | decide | (law_clear; omega) | omega); (case bbu => first | decide | (law_clear; omega) | omega); k_whole)))
local macro_rules | `(tactic| walk_at "inplaceOp Add float float") => `(tactic| (k_here; (with_reducible refine' Mine.r_iadd_ff ?hx ?hy ?bal ?bau ?bbl ?bbu ?_); k_dflt ((case hx => first | with_reducible exact Mine.c_half | with_reducible exact Mine.c_greg | with_reducible exact Mine.c_isl | with_reducible exact Mine.c_cop | with_reducible exact Mine.c_295 | with_reducible exact Mine.c_1524 | with_reducible rfl); (case hy => first | with_reducible exact Mine.c_half | with_reducible exact Mine.c_greg | with_reducible exact Mine.c_isl | with_reducible exact Mine.c_cop | with_reducible exact Mine.c_295 | with_reducible exact Mine.c_1524 | with_reducible rfl); (case bal => first | decide | (law_clear; omega) | omega); (case bau => first | decide | (law_clear; omega) | omega); (case bbl => first | decide | (law_clear; omega) | omega); (case bbu => first | decide | (law_clear; omega) | omega); k_whole)))
local macro_rules | `(tactic| walk_at "binaryOp Add float int") => `(tactic| (k_here; (with_reducible refine' Mine.r_add_xi ?hnl ?hnu ?_); k_dflt ((case hnl => first | decide | (law_clear; omega) | omega); (case hnu => first | decide | (law_clear; omega) | omega); k_whole)))
local macro_rules | `(tactic| walk_at "binaryOp Add float int") => `(tactic| (k_here; (with_reducible refine' Mine.r_add_fi ?hx ?bal ?bau ?bbl ?bbu ?_); k_dflt ((case hx => first | with_reducible exact Mine.c_half | with_reducible exact Mine.c_greg | with_reducible exact Mine.c_isl | with_reducible exact Mine.c_cop | with_reducible exact Mine.c_295 | with_reducible exact Mine.c_1524 | with_reducible rfl); (case bal => first | decide | (law_clear; omega) | omega); (case bau => first | decide | (law_clear; omega) | omega); (case bbl => first | decide | (law_clear; omega) | omega); (case bbu => first | decide | (law_clear; omega) | omega); k_whole)))
local macro_rules | `(tactic| walk_at "binaryOp Sub float int") => `(tactic| (k_here; (with_reducible refine' Mine.r_sub_fi ?hx ?bal ?bau ?bbl ?bbu ?_); k_dflt ((case hx => first | with_reducible exact Mine.c_half | with_reducible exact Mine.c_greg | with_reducible exact Mine.c_isl | with_reducible exact Mine.c_cop | with_reducible exact Mine.c_295 | with_reducible exact Mine.c_1524 | with_reducible rfl); (case bal => first | decide | (law_clear; omega) | omega); (case bau => first | decide | (law_clear; omega) | omega); (case bbl => first | decide | (law_clear; omega) | omega); (case bbu => first | decide | (law_clear; omega) | omega); k_whole)))
local macro_rules | `(tactic| walk_at "inplaceOp Add float int") => `(tactic| (k_here; (with_reducible refine' Mine.r_iadd_fi ?hx ?bal ?bau ?bbl ?bbu ?_); k_dflt ((case hx => first | with_reducible exact Mine.c_half | with_reducible exact Mine.c_greg | with_reducible exact Mine.c_isl | with_reducible exact Mine.c_cop | with_reducible exact Mine.c_295 | with_reducible exact Mine.c_1524 | with_reducible rfl); (case bal => first | decide | (law_clear; omega) | omega); (case bau => first | decide | (law_clear; omega) | omega); (case bbl => first | decide | (law_clear; omega) | omega); (case bbu => first | decide | (law_clear; omega) | omega); k_whole)))
local macro_rules | `(tactic| walk_at "inplaceOp Sub float int") => `(tactic| (k_here; (with_reducible refine' Mine.r_isub_fi ?hx ?bal ?bau ?bbl ?bbu ?_); k_dflt ((case hx => first | with_reducible exact Mine.c_half | with_reducible exact Mine.c_greg | with_reducible exact Mine.c_isl | with_reducible exact Mine.c_cop | with_reducible exact Mine.c_295 | with_reducible exact Mine.c_1524 | with_reducible rfl); (case bal => first | decide | (law_clear; omega) | omega); (case bau => first | decide | (law_clear; omega) | omega); (case bbl => first | decide | (law_clear; omega) | omega); (case bbu => first | decide | (law_clear; omega) | omega); k_whole)))
local macro_rules | `(tactic| walk_at "binaryOp Sub int float") => `(tactic| (k_here; (with_reducible refine' Mine.r_sub_ic ?hnl ?hnu ?_); k_dflt ((case hnl => first | decide | (law_clear; omega) | omega); (case hnu => first | decide | (law_clear; omega) | omega); k_whole)))
local macro_rules | `(tactic| walk_at "binaryOp Add int float") => `(tactic| (k_here; (with_reducible refine' Mine.r_add_if ?hx ?bal ?bau ?bbl ?bbu ?_); k_dflt ((case hx => first | with_reducible exact Mine.c_half | with_reducible exact Mine.c_greg | with_reducible exact Mine.c_isl | with_reducible exact Mine.c_cop | with_reducible exact Mine.c_295 | with_reducible exact Mine.c_1524 | with_reducible rfl); (case bal => first | decide | (law_clear; omega) | omega); (case bau => first | decide | (law_clear; omega) | omega); (case bbl => first | decide | (law_clear; omega) | omega); (case bbu => first | decide | (law_clear; omega) | omega); k_whole)))
local macro_rules | `(tactic| walk_at "binaryOp Sub int float") => `(tactic| (k_here; (with_reducible refine' Mine.r_sub_if ?hx ?bal ?bau ?bbl ?bbu ?_); k_dflt ((case hx => first | with_reducible exact Mine.c_half | with_reducible exact Mine.c_greg | with_reducible exact Mine.c_isl | with_reducible exact Mine.c_cop | with_reducible exact Mine.c_295 | with_reducible exact Mine.c_1524 | with_reducible rfl); (case bal => first | decide | (law_clear; omega) | omega); (case bau => first | decide | (law_clear; omega) | omega); (case bbl => first | decide | (law_clear; omega) | omega); (case bbu => first | decide | (law_clear; omega) | omega); k_whole)))
local macro_rules | `(tactic| walk_at "binaryOp Mult float int") => `(tactic| (k_here; (with_reducible refine' Mine.r_mul_xi ?hnl ?hnu ?_); k_dflt ((case hnl => first | decide | (law_clear; omega) | omega); (case hnu => first | decide | (law_clear; omega) | omega); k_whole)))
local macro_rules | `(tactic| walk_at "binaryOp Mult float int") => `(tactic| (k_here; (with_reducible refine' Mine.r_mul_ci ?hx ?ha ?ha2 ?bnl ?bnu ?_); k_dflt ((case hx => first | with_reducible exact Mine.c_half | with_reducible exact Mine.c_greg | with_reducible exact Mine.c_isl | with_reducible exact Mine.c_cop | with_reducible exact Mine.c_295 | with_reducible exact Mine.c_1524 | with_reducible rfl); (case ha => decide); (case ha2 => decide); (case bnl => first | decide | (law_clear; omega) | omega); (case bnu => first | decide | (law_clear; omega) | omega); k_whole)))
local macro_rules | `(tactic| walk_at "binaryOp Mult float int") => `(tactic| (k_here; (with_reducible refine' Mine.r_mul_fi ?hx ?hn ?hn2 ?bal ?bau ?_); k_dflt ((case hx => first | with_reducible exact Mine.c_half | with_reducible exact Mine.c_greg | with_reducible exact Mine.c_isl | with_reducible exact Mine.c_cop | with_reducible exact Mine.c_295 | with_reducible exact Mine.c_1524 | with_reducible rfl); (case hn => decide); (case hn2 => decide); (case bal => first | decide | (law_clear; omega) | omega); (case bau => first | decide | (law_clear; omega) | omega); k_whole)))
local macro_rules | `(tactic| walk_at "binaryOp Mult int float") => `(tactic| (k_here; (with_reducible refine' Mine.r_mul_if ?hx ?hn ?hn2 ?bal ?bau ?_); k_dflt ((case hx => first | with_reducible exact Mine.c_half | with_reducible exact Mine.c_greg | with_reducible exact Mine.c_isl | with_reducible exact Mine.c_cop | with_reducible exact Mine.c_295 | with_reducible exact Mine.c_1524 | with_reducible rfl); (case hn => decide); (case hn2 => decide); (case bal => first | decide | (law_clear; omega) | omega); (case bau => first | decide | (law_clear; omega) | omega); k_whole)))
local macro_rules | `(tactic| walk_at "binaryOp Mod float int") => `(tactic| (k_here; (with_reducible refine' Mine.r_mod_q ?hA ?hx ?hn ?hn2 ?bal ?bau ?_); k_dflt ((case hA => exact rfl); (case hx => first | with_reducible exact Mine.c_half | with_reducible exact Mine.c_greg | with_reducible exact Mine.c_isl | with_reducible exact Mine.c_cop | with_reducible exact Mine.c_295 | with_reducible exact Mine.c_1524 | with_reducible rfl); (case hn => decide); (case hn2 => decide); (case bal => first | decide | (law_clear; omega) | omega); (case bau => first | decide | (law_clear; omega) | omega); k_whole); intro r9 hr9 hr0 hr1))
local macro_rules | `(tactic| walk_at "binaryOp Div float int") => `(tactic| (k_here; (with_reducible refine' Mine.r_div_fi ?hA ?hn ?hn2 ?_); k_dflt ((case hA => exact rfl); (case hn => decide); (case hn2 => decide); k_whole)))
local macro_rules | `(tactic| walk_at "binaryOp Div float float") => `(tactic| (k_here; (with_reducible refine' Mine.r_div_fc ?hA ?hz ?_); k_dflt ((case hA => exact rfl); (case hz => decide +kernel); k_whole)))
local macro_rules | `(tactic| walk_at "binaryOp Div float float") => `(tactic| (k_here; (with_reducible refine' Mine.r_div_ff ?hA ?hy ?hb ?hb2 ?_); k_dflt ((case hA => exact rfl); (case hy => first | with_reducible exact Mine.c_half | with_reducible exact Mine.c_greg | with_reducible exact Mine.c_isl | with_reducible exact Mine.c_cop | with_reducible exact Mine.c_295 | with_reducible exact Mine.c_1524 | with_reducible rfl); (case hb => decide); (case hb2 => decide); k_whole)))
local macro_rules | `(tactic| walk_at "binaryOp Div int float") => `(tactic| (k_here; (with_reducible refine' Mine.r_div_ic ?hA ?hnl ?hnu ?hz ?_); k_dflt ((case hA => exact rfl); (case hnl => first | decide | (law_clear; omega) | omega); (case hnu => first | decide | (law_clear; omega) | omega); (case hz => decide +kernel); k_whole)))
local macro_rules | `(tactic| walk_at "binaryOp Div int int") => `(tactic| (k_here; (with_reducible refine' Mine.r_div_ii ?hA ?hb ?hal ?hau ?_); k_dflt ((case hA => exact rfl); (case hb => decide); (case hal => first | decide | (law_clear; omega) | omega); (case hau => first | decide | (law_clear; omega) | omega); k_whole)))
local macro_rules | `(tactic| walk_at "call builtin:math.floor") => `(tactic| (k_here; (with_reducible refine' Mine.r_floor_g ?hA ?hx ?hm0 ?hm1 ?ha0 ?ha1 ?hd0 ?hd1 ?_); k_dflt ((case hA => exact rfl); (case hx => first | with_reducible exact rfl | exact rfl); (case hm0 => first | decide | (law_clear; omega) | omega); (case hm1 => first | decide | (law_clear; omega) | omega); (case ha0 => first | decide | (law_clear; omega) | omega); (case ha1 => first | decide | (law_clear; omega) | omega); (case hd0 => first | decide | (law_clear; omega) | omega); (case hd1 => first | decide | (law_clear; omega) | omega); k_whole); intro q9 hq0))
local macro_rules | `(tactic| walk_at "call builtin:math.floor") => `(tactic| (k_here; (with_reducible refine' Mine.r_floor_jm ?hA ?hx ?b0 ?b1 ?_); k_dflt ((case hA => exact rfl); (case hx => first | with_reducible exact rfl | exact rfl); (case b0 => first | decide | (law_clear; omega) | omega); (case b1 => first | decide | (law_clear; omega) | omega); k_whole); intro q9 hq0))
local macro_rules | `(tactic| walk_at "call builtin:math.floor") => `(tactic| (k_here; (with_reducible refine' Mine.r_floor_je ?hA ?hx ?b0 ?b1 ?_); k_dflt ((case hA => exact rfl); (case hx => first | with_reducible exact rfl | exact rfl); (case b0 => first | decide | (law_clear; omega) | omega); (case b1 => first | decide | (law_clear; omega) | omega); k_whole); intro q9 hq0))
local macro_rules | `(tactic| walk_at "call builtin:math.floor") => `(tactic| (k_here; (with_reducible refine' Mine.r_floor_jd ?hA ?hx ?bnl ?bnu ?_); k_dflt ((case hA => exact rfl); (case hx => first | with_reducible exact rfl | exact rfl); (case bnl => first | decide | (law_clear; omega) | omega); (case bnu => first | decide | (law_clear; omega) | omega); k_whole); intro q9 hq0))
local macro_rules | `(tactic| walk_at "call builtin:math.floor") => `(tactic| (k_here; (with_reducible refine' Mine.r_floor_jc ?hA ?hx ?bnl ?bnu ?_); k_dflt ((case hA => exact rfl); (case hx => first | with_reducible exact rfl | exact rfl); (case bnl => first | decide | (law_clear; omega) | omega); (case bnu => first | decide | (law_clear; omega) | omega); k_whole); intro q9 hq0))
local macro_rules | `(tactic| walk_at "call builtin:math.floor") => `(tactic| (k_here; (with_reducible refine' Mine.r_floor_ii ?hA ?hb ?hb2 ?bal ?bau ?k1 ?k2 ?_); k_dflt ((case hA => exact rfl); (case hb => decide); (case hb2 => decide); (case bal => first | decide | (law_clear; omega) | omega); (case bau => first | decide | (law_clear; omega) | omega); (case k1 => first | decide | (law_clear; omega) | omega); (case k2 => first | decide | (law_clear; omega) | omega); k_whole); intro q9 hq0))
local macro_rules | `(tactic| walk_at "call builtin:math.floor") => `(tactic| (k_here; (with_reducible refine' Mine.r_floor_div ?hA ?hb ?hb2 ?bal ?bau ?k1 ?k2 ?_); k_dflt ((case hA => exact rfl); (case hb => decide); (case hb2 => decide); (case bal => first | decide | (law_clear; omega) | omega); (case bau => first | decide | (law_clear; omega) | omega); (case k1 => first | decide | (law_clear; omega) | omega); (case k2 => first | decide | (law_clear; omega) | omega); k_whole); intro q9 hq0))
local macro_rules | `(tactic| walk_at "call builtin:math.floor") => `(tactic| (k_here; (with_reducible refine' Mine.r_floor_hf ?hA ?bal ?bau ?_); k_dflt ((case hA => exact rfl); (case bal => first | decide | (law_clear; omega) | omega); (case bau => first | decide | (law_clear; omega) | omega); k_whole); intro q9 hq0))
local macro_rules | `(tactic| walk_at "call builtin:math.ceil") => `(tactic| (k_here; (with_reducible refine' Mine.r_ceil_div ?hA ?hb ?hb2 ?bal ?bau ?k1 ?k2 ?_); k_dflt ((case hA => exact rfl); (case hb => decide); (case hb2 => decide); (case bal => first | decide | (law_clear; omega) | omega); (case bau => first | decide | (law_clear; omega) | omega); (case k1 => first | decide | (law_clear; omega) | omega); (case k2 => first | decide | (law_clear; omega) | omega); k_whole); intro q9 hq0 hq1))
local macro_rules | `(tactic| walk_at "call builtin:math.ceil") => `(tactic| (k_here; (with_reducible refine' Mine.r_ceil_hf ?hA ?bal ?bau ?_); k_dflt ((case hA => exact rfl); (case bal => first | decide | (law_clear; omega) | omega); (case bau => first | decide | (law_clear; omega) | omega); k_whole); intro q9 hq0 hq1))
local macro_rules | `(tactic| walk_at "call type:int") => `(tactic| (k_here; (with_reducible refine' Mine.r_trunc_hf ?hA ?bal ?bau ?he ?_); k_dflt ((case hA => exact rfl); (case bal => first | decide | (law_clear; omega) | omega); (case bau => first | decide | (law_clear; omega) | omega); (case he => first | decide | (law_clear; omega) | omega); k_whole); intro q9 hq0))
local macro_rules | `(tactic| walk_at "compareOp Lt float int") => `(tactic| (k_here; (with_reducible refine' Mine.r_lt_fi ?hx ?bal ?bau ?_); k_dflt ((case hx => first | with_reducible exact Mine.c_half | with_reducible exact Mine.c_greg | with_reducible exact Mine.c_isl | with_reducible exact Mine.c_cop | with_reducible exact Mine.c_295 | with_reducible exact Mine.c_1524 | with_reducible rfl); (case bal => first | decide | (law_clear; omega) | omega); (case bau => first | decide | (law_clear; omega) | omega); k_whole)))
local macro_rules | `(tactic| walk_at "compareOp NotEq float float") => `(tactic| (k_here; (with_reducible refine' Mine.r_ne_ff ?hx ?hy ?bal ?bau ?bbl ?bbu ?hab ?_); k_dflt ((case hx => first | with_reducible exact Mine.c_half | with_reducible exact Mine.c_greg | with_reducible exact Mine.c_isl | with_reducible exact Mine.c_cop | with_reducible exact Mine.c_295 | with_reducible exact Mine.c_1524 | with_reducible rfl); (case hy => first | with_reducible exact Mine.c_half | with_reducible exact Mine.c_greg | with_reducible exact Mine.c_isl | with_reducible exact Mine.c_cop | with_reducible exact Mine.c_295 | with_reducible exact Mine.c_1524 | with_reducible rfl); (case bal => first | decide | (law_clear; omega) | omega); (case bau => first | decide | (law_clear; omega) | omega); (case bbl => first | decide | (law_clear; omega) | omega); (case bbu => first | decide | (law_clear; omega) | omega); (case hab => omega); k_whole)))
section
variable {w : World} {p : Program} {loose : List Str} {mean : ExcName → Option Value} {mg mb : Str → Option Value} {dp un : Nat} {gd : Option (List Code)} {a : Addr} {ccd : Value} {outer : List Env} {A₀ : Around} {base h₀ : Heap} {L : Addr} {m : Str → Option Value} {news : List (Addr × Obj)} {s : Shared} {Q : Flow → Shared → Prop}
theorem sum_b {p l : Int} (h0 : 0 ≤ p) (h1 : p < 12) (l0 : 0 ≤ l) (l1 : l ≤ 1) : 0 ≤ (List.take (p + 1).toNat ([31, 28 + l, 31, 30, 31, 30, 31, 31, 30, 31, 30, 31] : List Int)).sum ∧ (List.take (p + 1).toNat ([31, 28 + l, 31, 30, 31, 30, 31, 31, 30, 31, 30, 31] : List Int)).sum ≤ 366 := by
  have h : p = 0 ∨ p = 1 ∨ p = 2 ∨ p = 3 ∨ p = 4 ∨ p = 5 ∨ p = 6 ∨ p = 7 ∨ p = 8 ∨ p = 9 ∨ p = 10 ∨ p = 11 := by omega
  rcases h with rfl | rfl | rfl | rfl | rfl | rfl | rfl | rfl | rfl | rfl | rfl | rfl
  all_goals
    simp only [Int.reduceAdd, Int.reduceToNat, List.take_zero, List.take_succ_cons, List.sum_cons, List.sum_nil]
    omega
theorem number_b {y x c q : Int} (hy1 : -10000000 < y) (hy2 : y < 10000000) (x0 : 0 ≤ x) (x1 : x ≤ 366) (hq : q = c % 3) : -5000000000 ≤ 365 * (y - 1) + (y - 1) / 4 - (y - 1) / 100 + (y - 1) / 400 + 1721426 + x - 1 - q ∧ 365 * (y - 1) + (y - 1) / 4 - (y - 1) / 100 + (y - 1) / 400 + 1721426 + x - 1 - q ≤ 5000000000 := by omega
local macro_rules | `(tactic| walk_at "call ref") => `(tactic| (k_here; (with_reducible show wpAny _ _ (call (Value.ref 226) _) _ _ _); k_dflt (refine' Mine.lawmonths_0 _ _ _ ?k1 ?k2 ?k3 ?k4 ?k5 ?kK ?kd ?ku  ?_; (case k1 => k_asm); (case k2 => k_asm); (case k3 => k_asm); (case k4 => k_asm); (case k5 => k_asm); (case kK => first | exact rfl | assumption); (case kd => ((try dsimp only [ktrTop]); omega)); (case ku => ((try dsimp only [ktrTop]); omega)); all_goals (intro D9 u1 u2 u3 u4 u5 u6 u7 u8 u9 u10 u11 u12 h9 tk9 F9 N9 l9; (try simp only [AllLt, and_true] at l9); (try dsimp only); (try k_sweep); (try k_fold)))))
local macro_rules | `(tactic| walk_at "call ref") => `(tactic| (k_here; (with_reducible show wpAny _ _ (call (Value.ref 231) _) _ _ _); k_dflt (refine' Mine.lawfirst_0 _ _ _ ?k1 ?k2 ?k3 ?k4 ?k5 ?kK ?kd ?ku ?hy1 ?hy2 ?_; (case k1 => k_asm); (case k2 => k_asm); (case k3 => k_asm); (case k4 => k_asm); (case k5 => k_asm); (case kK => first | exact rfl | assumption); (case kd => ((try dsimp only [ktrTop]); omega)); (case ku => ((try dsimp only [ktrTop]); omega)); (case hy1 => first | omega | assumption); (case hy2 => first | omega | assumption); all_goals (intro t9 h9 tk9 F9 N9; (try simp only [AllLt, and_true] at l9); (try dsimp only); (try k_sweep); (try k_fold)))))
theorem law_rest (zs : List Int) (ws : List Value) (ND : Addr) (B : Below A₀ base outer h₀) (F : Fr h₀ L s.heap m) (X : (hd.heap_39 w.params).In h₀) (N : News h₀ L s.heap ((ND, W.listOf ws.toArray 0) :: news)) (T : Top p loose mean mg mb h₀)
    (hdp : dp + 20 < recursionLimit) (hun : un + 200 < cLine) (hz : IntsAre ws zs) (hz4 : 4 ≤ zs.length) (hz8 : zs.length ≤ 8) (b0 : -10000000 < zs.getD (Int.toNat 0) 0 ∧ zs.getD (Int.toNat 0) 0 < 10000000) (b1 : -10000000 < zs.getD (Int.toNat 1) 0 ∧ zs.getD (Int.toNat 1) 0 < 10000000) (b2 : -10000000 < zs.getD (Int.toNat 2) 0 ∧ zs.getD (Int.toNat 2) 0 < 10000000) (b3 : -10000000 < zs.getD (Int.toNat 3) 0 ∧ zs.getD (Int.toNat 3) 0 < 10000000)
    (hmn : m (Str.ofString "numbers") = some (.ref ND))
    (hret : ∀ (m' : Str → Option Value) (h' : Heap) (tk' : Nat), Fr h₀ L h' m' → Q (.ret (.bool true)) { s with heap := h', toks := tk' }) :
    wpAny (model PySem.Challenge.rw_ak5015_01.row.prog w) (lawTop dp un gd L a ccd outer) (execs ((bodyOf 72).drop 1) (lawEnv L a ccd)) Q (fun _ _ => False) s := by
  revert X; k_fill; intro X
  show wpAny _ (ktrTop _ _ _ _ ⟨_, _, _, _, _⟩ _ _ _ _ _) (execs (_ :: _ :: _ :: _ :: _ :: []) (envOf _ ⟨_, _, _, _, _⟩ _ _ _)) _ _ _
  repeat' ((fail_if_success (with_reducible show wpAny _ _ (exec (Stmt.For _ _ _ _ _) _) _ _ _)); first | (k_unfold; (try dsimp only)) | (k_end; kc_close) | walk1 | (dsimp only; walk1) | (leave1; walk_say "STEP leave1"; (try dsimp only)) | fail "no step")
  rename Fr _ _ _ _ => FA
  rename News _ _ _ _ => NA
  refine' For_invVF FA ?k1 ?k2 ?_
  (case k1 => exact rfl)
  (case k2 => exact rfl)
  repeat' ((fail_if_success (with_reducible show wpAny _ _ (pyIter _) _ _ _)); first | (k_unfold; (try dsimp only)) | (k_end; kc_close) | walk1 | (dsimp only; walk1) | (leave1; walk_say "STEP leave1"; (try dsimp only)) | fail "no step")
  rename Fr _ _ _ _ => FB
  rename News _ _ _ _ => NB
  have p2 : 0 ≤ zs.getD 2 0 % 12 ∧ zs.getD 2 0 % 12 < 12 := by omega
  have l2 := lpN_b (zs.getD 1 0)
  have s2 := sum_b p2.1 p2.2 l2.1 l2.2
  have nb := number_b (y := zs.getD (Int.toNat 1) 0) (c := zs.getD (Int.toNat 3) 0) b1.1 b1.2 s2.1 s2.2 rfl
  refine iter_listUnr (by rfl) FB NB (.head _) rfl rfl ?_
  intro I hI
  refine ListRest.succ (fun it1 h1 tk1 hit1 F1 N1 => ?_)
  refine day (zs.getD (Int.toNat 0) 0) _ (by omega) (by omega) B F1 X N1 T hdp hun (by exact rfl) ?_
  intro m1 h1' tk1' FD1 ND1
  refine UnrEnd.intro FD1 ND1 _ (fun p hp => hp) (fun p hp => Nat.ne_of_lt (hI p hp)) ⟨.head _, ?_⟩
  refine ListRest.succ (fun it2 h2 tk2 hit2 F2 N2 => ?_)
  refine day _ _ nb.1 nb.2 B F2 X N2 T hdp hun (by exact rfl) ?_
  intro m2 h2' tk2' FD2 ND2
  refine UnrEnd.intro FD2 ND2 _ (fun p hp => hp) (fun p hp => Nat.ne_of_lt (hI p hp)) ⟨.head _, ?_⟩
  refine ListRest.zero (fun hZ tkZ FZ NZ => ?_)
  k_steps
  exact hret _ _ _ FZ
end
end Mine
-- FI
namespace Mine
set_option maxRecDepth 100000
set_option maxHeartbeats 8000000
open PySem PySem.W PyProof.Rows PySem.Calls
theorem still_FI : True := by w_top off; trivial
local macro_rules | `(tactic| walk_at "binaryOp Mod int int") => `(tactic| (k_here; (refine' Mine.r_mod_ii ?ba ?_; (case ba => decide); k_whole)))
local macro_rules | `(tactic| walk_at "ite") => `(tactic| (k_here; k_openite; first
  | (refine ite_pos (by ((try simp only [decide_eq_true_eq, beq_iff_eq, bne_iff_ne, ne_eq]); omega)) ?_)
  | (refine ite_neg (by ((try simp only [decide_eq_true_eq, beq_iff_eq, bne_iff_ne, ne_eq]); omega)) ?_)))
local macro_rules | `(tactic| walk_at "eval Name") => `(tactic| (k_here; (name_kind "globalImplicit"); k_dflt (refine' nameX_K ?F ?X ?T ?e ?_ ?a ?b; (case F => k_asm); (case X => k_asm); (case T => k_asm); (case a => rfl); (case b => rfl); (case e => k_is); k_whole)))
local macro_rules | `(tactic| walk_at "eval Name") => `(tactic| (k_here; (name_kind "local"); k_dflt (refine' nameX_L ?F ?v ?_ ?a ?b; (case F => k_asm); (case a => rfl); (case b => rfl); (case v => first | rfl | assumption); k_whole)))
local macro_rules | `(tactic| walk_at "binaryOp Add int bool") => `(tactic| (k_here; (first | with_reducible refine Mine.r_add_it ?_ | with_reducible refine Mine.r_add_i0 ?_)))
local macro_rules | `(tactic| walk_at "binaryOp Sub int bool") => `(tactic| (k_here; (first | with_reducible refine Mine.r_sub_it ?_ | with_reducible refine Mine.r_sub_i0 ?_)))
local macro_rules | `(tactic| walk_at "ite") => `(tactic| (k_here; k_closed; first | (with_reducible refine ite_pos ?c ?_; (case c => k_dflt decide)) | (with_reducible refine ite_neg ?c ?_; (case c => k_dflt decide))))
local macro_rules | `(tactic| walk_at "eval List") => `(tactic| (k_here; (with_reducible refine List_ ?_)))
local macro_rules | `(tactic| walk_at "eval Call Name") => `(tactic| (k_here; k_dflt (refine Call_ ?_)))
local macro_rules | `(tactic| walk_at "exec If") => `(tactic| (k_here; k_dflt (refine wpAny_If ?_)))
local macro_rules | `(tactic| walk_at "binaryOp Add float float") => `(tactic| (k_here; (with_reducible refine' Mine.r_add_ff ?hx ?hy ?bal ?bau ?bbl ?bbu ?_); k_dflt ((case hx => first | with_reducible exact Mine.c_half | with_reducible exact Mine.c_greg | with_reducible exact Mine.c_isl | with_reducible exact Mine.c_cop | with_reducible exact Mine.c_295 | with_reducible exact Mine.c_1524 | with_reducible rfl); (case hy => first | with_reducible exact Mine.c_half | with_reducible exact Mine.c_greg | with_reducible exact Mine.c_isl | with_reducible exact Mine.c_cop | with_reducible exact Mine.c_295 | with_reducible exact Mine.c_1524 | with_reducible rfl); (case bal => first | decide | (law_clear; omega) | omega); (case bau => first | decide | (law_clear; omega) | omega); (case bbl => first | decide | (law_clear; omega) | omega); (case bbu => first | decide | (law_clear; omega) | omega); k_whole)))
local macro_rules | `(tactic| walk_at "binaryOp Sub float float") => `(tactic| (k_here; (with_reducible refine' Mine.r_sub_ff ?hx ?hy ?bal ?bau ?bbl ?bbu ?_); k_dflt ((case hx => first | with_reducible exact Mine.c_half | with_reducible exact Mine.c_greg | with_reducible exact Mine.c_isl | with_reducible exact Mine.c_cop | with_reducible exact Mine.c_295 | with_reducible exact Mine.c_1524 | with_reducible rfl); (case hy => first | with_reducible exact Mine.c_half | with_reducible exact Mine.c_greg | with_reducible exact Mine.c_isl | with_reducible exact Mine.c_cop | with_reducible exact Mine.c_295 | with_reducible exact Mine.c_1524 | with_reducible rfl); (case bal => first | decide | (law_clear; omega) | omega); (case bau => first | decide | (law_clear; omega) | omega); (case bbl => first | decide | (law_clear; omega) | omega); (case bbu => first | decide | (law_clear; omega) | omega); k_whole)))
local macro_rules | `(tactic| walk_at "inplaceOp Add float float") => `(tactic| (k_here; (with_reducible refine' Mine.r_iadd_ff ?hx ?hy ?bal ?bau ?bbl ?bbu ?_); k_dflt ((case hx => first | with_reducible exact Mine.c_half | with_reducible exact Mine.c_greg | with_reducible exact Mine.c_isl | with_reducible exact Mine.c_cop | with_reducible exact Mine.c_295 | with_reducible exact Mine.c_1524 | with_reducible rfl); (case hy => first | with_reducible exact Mine.c_half | with_reducible exact Mine.c_greg | with_reducible exact Mine.c_isl | with_reducible exact Mine.c_cop | with_reducible exact Mine.c_295 | with_reducible exact Mine.c_1524 | with_reducible rfl); (case bal => first | decide | (law_clear; omega) | omega); (case bau => first | decide | (law_clear; omega) | omega); (case bbl => first | decide | (law_clear; omega) | omega); (case bbu => first | decide | (law_clear; omega) | omega); k_whole)))
local macro_rules | `(tactic| walk_at "binaryOp Add float int") => `(tactic| (k_here; (with_reducible refine' Mine.r_add_xi ?hnl ?hnu ?_); k_dflt ((case hnl => first | decide | (law_clear; omega) | omega); (case hnu => first | decide | (law_clear; omega) | omega); k_whole)))
local macro_rules | `(tactic| walk_at "binaryOp Add float int") => `(tactic| (k_here; (with_reducible refine' Mine.r_add_fi ?hx ?bal ?bau ?bbl ?bbu ?_); k_dflt ((case hx => first | with_reducible exact Mine.c_half | with_reducible exact Mine.c_greg | with_reducible exact Mine.c_isl | with_reducible exact Mine.c_cop | with_reducible exact Mine.c_295 | with_reducible exact Mine.c_1524 | with_reducible rfl); (case bal => first | decide | (law_clear; omega) | omega); (case bau => first | decide | (law_clear; omega) | omega); (case bbl => first | decide | (law_clear; omega) | omega); (case bbu => first | decide | (law_clear; omega) | omega); k_whole)))
local macro_rules | `(tactic| walk_at "binaryOp Sub float int") => `(tactic| (k_here; (with_reducible refine' Mine.r_sub_fi ?hx ?bal ?bau ?bbl ?bbu ?_); k_dflt ((case hx => first | with_reducible exact Mine.c_half | with_reducible exact Mine.c_greg | with_reducible exact Mine.c_isl | with_reducible exact Mine.c_cop | with_reducible exact Mine.c_295 | with_reducible exact Mine.c_1524 | with_reducible rfl); (case bal => first | decide | (law_clear; omega) | omega); (case bau => first | decide | (law_clear; omega) | omega); (case bbl => first | decide | (law_clear; omega) | omega); (case bbu => first | decide | (law_clear; omega) | omega); k_whole)))
local macro_rules | `(tactic| walk_at "inplaceOp Add float int") => `(tactic| (k_here; (with_reducible refine' Mine.r_iadd_fi ?hx ?bal ?bau ?bbl ?bbu ?_); k_dflt ((case hx => first | with_reducible exact Mine.c_half | with_reducible exact Mine.c_greg | with_reducible exact Mine.c_isl | with_reducible exact Mine.c_cop | with_reducible exact Mine.c_295 | with_reducible exact Mine.c_1524 | with_reducible rfl); (case bal => first | decide | (law_clear; omega) | omega); (case bau => first | decide | (law_clear; omega) | omega); (case bbl => first | decide | (law_clear; omega) | omega); (case bbu => first | decide | (law_clear; omega) | omega); k_whole)))
local macro_rules | `(tactic| walk_at "inplaceOp Sub float int") => `(tactic| (k_here; (with_reducible refine' Mine.r_isub_fi ?hx ?bal ?bau ?bbl ?bbu ?_); k_dflt ((case hx => first | with_reducible exact Mine.c_half | with_reducible exact Mine.c_greg | with_reducible exact Mine.c_isl | with_reducible exact Mine.c_cop | with_reducible exact Mine.c_295 | with_reducible exact Mine.c_1524 | with_reducible rfl); (case bal => first | decide | (law_clear; omega) | omega); (case bau => first | decide | (law_clear; omega) | omega); (case bbl => first | decide | (law_clear; omega) | omega); (case bbu => first | decide | (law_clear; omega) | omega); k_whole)))
local macro_rules | `(tactic| walk_at "binaryOp Sub int float") => `(tactic| (k_here; (with_reducible refine' Mine.r_sub_ic ?hnl ?hnu ?_); k_dflt ((case hnl => first | decide | (law_clear; omega) | omega); (case hnu => first | decide | (law_clear; omega) | omega); k_whole)))
local macro_rules | `(tactic| walk_at "binaryOp Add int float") => `(tactic| (k_here; (with_reducible refine' Mine.r_add_if ?hx ?bal ?bau ?bbl ?bbu ?_); k_dflt ((case hx => first | with_reducible exact Mine.c_half | with_reducible exact Mine.c_greg | with_reducible exact Mine.c_isl | with_reducible exact Mine.c_cop | with_reducible exact Mine.c_295 | with_reducible exact Mine.c_1524 | with_reducible rfl); (case bal => first | decide | (law_clear; omega) | omega); (case bau => first | decide | (law_clear; omega) | omega); (case bbl => first | decide | (law_clear; omega) | omega); (case bbu => first | decide | (law_clear; omega) | omega); k_whole)))
local macro_rules | `(tactic| walk_at "binaryOp Sub int float") => `(tactic| (k_here; (with_reducible refine' Mine.r_sub_if ?hx ?bal ?bau ?bbl ?bbu ?_); k_dflt ((case hx => first | with_reducible exact Mine.c_half | with_reducible exact Mine.c_greg | with_reducible exact Mine.c_isl | with_reducible exact Mine.c_cop | with_reducible exact Mine.c_295 | with_reducible exact Mine.c_1524 | with_reducible rfl); (case bal => first | decide | (law_clear; omega) | omega); (case bau => first | decide | (law_clear; omega) | omega); (case bbl => first | decide | (law_clear; omega) | omega); (case bbu => first | decide | (law_clear; omega) | omega); k_whole)))
local macro_rules | `(tactic| walk_at "binaryOp Mult float int") => `(tactic| (k_here; (with_reducible refine' Mine.r_mul_xi ?hnl ?hnu ?_); k_dflt ((case hnl => first | decide | (law_clear; omega) | omega); (case hnu => first | decide | (law_clear; omega) | omega); k_whole)))
local macro_rules | `(tactic| walk_at "binaryOp Mult float int") => `(tactic| (k_here; (with_reducible refine' Mine.r_mul_ci ?hx ?ha ?ha2 ?bnl ?bnu ?_); k_dflt ((case hx => first | with_reducible exact Mine.c_half | with_reducible exact Mine.c_greg | with_reducible exact Mine.c_isl | with_reducible exact Mine.c_cop | with_reducible exact Mine.c_295 | with_reducible exact Mine.c_1524 | with_reducible rfl); (case ha => decide); (case ha2 => decide); (case bnl => first | decide | (law_clear; omega) | omega); (case bnu => first | decide | (law_clear; omega) | omega); k_whole)))
local macro_rules | `(tactic| walk_at "binaryOp Mult float int") => `(tactic| (k_here; (with_reducible refine' Mine.r_mul_fi ?hx ?hn ?hn2 ?bal ?bau ?_); k_dflt ((case hx => first | with_reducible exact Mine.c_half | with_reducible exact Mine.c_greg | with_reducible exact Mine.c_isl | with_reducible exact Mine.c_cop | with_reducible exact Mine.c_295 | with_reducible exact Mine.c_1524 | with_reducible rfl); (case hn => decide); (case hn2 => decide); (case bal => first | decide | (law_clear; omega) | omega); (case bau => first | decide | (law_clear; omega) | omega); k_whole)))
local macro_rules | `(tactic| walk_at "binaryOp Mult int float") => `(tactic| (k_here; (with_reducible refine' Mine.r_mul_if ?hx ?hn ?hn2 ?bal ?bau ?_); k_dflt ((case hx => first | with_reducible exact Mine.c_half | with_reducible exact Mine.c_greg | with_reducible exact Mine.c_isl | with_reducible exact Mine.c_cop | with_reducible exact Mine.c_295 | with_reducible exact Mine.c_1524 | with_reducible rfl); (case hn => decide); (case hn2 => decide); (case bal => first | decide | (law_clear; omega) | omega); (case bau => first | decide | (law_clear; omega) | omega); k_whole)))
local macro_rules | `(tactic| walk_at "binaryOp Mod float int") => `(tactic| (k_here; (with_reducible refine' Mine.r_mod_q ?hA ?hx ?hn ?hn2 ?bal ?bau ?_); k_dflt ((case hA => exact rfl); (case hx => first | with_reducible exact Mine.c_half | with_reducible exact Mine.c_greg | with_reducible exact Mine.c_isl | with_reducible exact Mine.c_cop | with_reducible exact Mine.c_295 | with_reducible exact Mine.c_1524 | with_reducible rfl); (case hn => decide); (case hn2 => decide); (case bal => first | decide | (law_clear; omega) | omega); (case bau => first | decide | (law_clear; omega) | omega); k_whole); intro r9 hr9 hr0 hr1))
local macro_rules | `(tactic| walk_at "binaryOp Div float int") => `(tactic| (k_here; (with_reducible refine' Mine.r_div_fi ?hA ?hn ?hn2 ?_); k_dflt ((case hA => exact rfl); (case hn => decide); (case hn2 => decide); k_whole)))
local macro_rules | `(tactic| walk_at "binaryOp Div float float") => `(tactic| (k_here; (with_reducible refine' Mine.r_div_fc ?hA ?hz ?_); k_dflt ((case hA => exact rfl); (case hz => decide +kernel); k_whole)))
local macro_rules | `(tactic| walk_at "binaryOp Div float float") => `(tactic| (k_here; (with_reducible refine' Mine.r_div_ff ?hA ?hy ?hb ?hb2 ?_); k_dflt ((case hA => exact rfl); (case hy => first | with_reducible exact Mine.c_half | with_reducible exact Mine.c_greg | with_reducible exact Mine.c_isl | with_reducible exact Mine.c_cop | with_reducible exact Mine.c_295 | with_reducible exact Mine.c_1524 | with_reducible rfl); (case hb => decide); (case hb2 => decide); k_whole)))
local macro_rules | `(tactic| walk_at "binaryOp Div int float") => `(tactic| (k_here; (with_reducible refine' Mine.r_div_ic ?hA ?hnl ?hnu ?hz ?_); k_dflt ((case hA => exact rfl); (case hnl => first | decide | (law_clear; omega) | omega); (case hnu => first | decide | (law_clear; omega) | omega); (case hz => decide +kernel); k_whole)))
local macro_rules | `(tactic| walk_at "binaryOp Div int int") => `(tactic| (k_here; (with_reducible refine' Mine.r_div_ii ?hA ?hb ?hal ?hau ?_); k_dflt ((case hA => exact rfl); (case hb => decide); (case hal => first | decide | (law_clear; omega) | omega); (case hau => first | decide | (law_clear; omega) | omega); k_whole)))
local macro_rules | `(tactic| walk_at "call builtin:math.floor") => `(tactic| (k_here; (with_reducible refine' Mine.r_floor_g ?hA ?hx ?hm0 ?hm1 ?ha0 ?ha1 ?hd0 ?hd1 ?_); k_dflt ((case hA => exact rfl); (case hx => first | with_reducible exact rfl | exact rfl); (case hm0 => first | decide | (law_clear; omega) | omega); (case hm1 => first | decide | (law_clear; omega) | omega); (case ha0 => first | decide | (law_clear; omega) | omega); (case ha1 => first | decide | (law_clear; omega) | omega); (case hd0 => first | decide | (law_clear; omega) | omega); (case hd1 => first | decide | (law_clear; omega) | omega); k_whole); intro q9 hq0))
local macro_rules | `(tactic| walk_at "call builtin:math.floor") => `(tactic| (k_here; (with_reducible refine' Mine.r_floor_jm ?hA ?hx ?b0 ?b1 ?_); k_dflt ((case hA => exact rfl); (case hx => first | with_reducible exact rfl | exact rfl); (case b0 => first | decide | (law_clear; omega) | omega); (case b1 => first | decide | (law_clear; omega) | omega); k_whole); intro q9 hq0))
local macro_rules | `(tactic| walk_at "call builtin:math.floor") => `(tactic| (k_here; (with_reducible refine' Mine.r_floor_je ?hA ?hx ?b0 ?b1 ?_); k_dflt ((case hA => exact rfl); (case hx => first | with_reducible exact rfl | exact rfl); (case b0 => first | decide | (law_clear; omega) | omega); (case b1 => first | decide | (law_clear; omega) | omega); k_whole); intro q9 hq0))
local macro_rules | `(tactic| walk_at "call builtin:math.floor") => `(tactic| (k_here; (with_reducible refine' Mine.r_floor_jd ?hA ?hx ?bnl ?bnu ?_); k_dflt ((case hA => exact rfl); (case hx => first | with_reducible exact rfl | exact rfl); (case bnl => first | decide | (law_clear; omega) | omega); (case bnu => first | decide | (law_clear; omega) | omega); k_whole); intro q9 hq0))
local macro_rules | `(tactic| walk_at "call builtin:math.floor") => `(tactic| (k_here; (with_reducible refine' Mine.r_floor_jc ?hA ?hx ?bnl ?bnu ?_); k_dflt ((case hA => exact rfl); (case hx => first | with_reducible exact rfl | exact rfl); (case bnl => first | decide | (law_clear; omega) | omega); (case bnu => first | decide | (law_clear; omega) | omega); k_whole); intro q9 hq0))
local macro_rules | `(tactic| walk_at "call builtin:math.floor") => `(tactic| (k_here; (with_reducible refine' Mine.r_floor_ii ?hA ?hb ?hb2 ?bal ?bau ?k1 ?k2 ?_); k_dflt ((case hA => exact rfl); (case hb => decide); (case hb2 => decide); (case bal => first | decide | (law_clear; omega) | omega); (case bau => first | decide | (law_clear; omega) | omega); (case k1 => first | decide | (law_clear; omega) | omega); (case k2 => first | decide | (law_clear; omega) | omega); k_whole); intro q9 hq0))
local macro_rules | `(tactic| walk_at "call builtin:math.floor") => `(tactic| (k_here; (with_reducible refine' Mine.r_floor_div ?hA ?hb ?hb2 ?bal ?bau ?k1 ?k2 ?_); k_dflt ((case hA => exact rfl); (case hb => decide); (case hb2 => decide); (case bal => first | decide | (law_clear; omega) | omega); (case bau => first | decide | (law_clear; omega) | omega); (case k1 => first | decide | (law_clear; omega) | omega); (case k2 => first | decide | (law_clear; omega) | omega); k_whole); intro q9 hq0))
local macro_rules | `(tactic| walk_at "call builtin:math.floor") => `(tactic| (k_here; (with_reducible refine' Mine.r_floor_hf ?hA ?bal ?bau ?_); k_dflt ((case hA => exact rfl); (case bal => first | decide | (law_clear; omega) | omega); (case bau => first | decide | (law_clear; omega) | omega); k_whole); intro q9 hq0))
local macro_rules | `(tactic| walk_at "call builtin:math.ceil") => `(tactic| (k_here; (with_reducible refine' Mine.r_ceil_div ?hA ?hb ?hb2 ?bal ?bau ?k1 ?k2 ?_); k_dflt ((case hA => exact rfl); (case hb => decide); (case hb2 => decide); (case bal => first | decide | (law_clear; omega) | omega); (case bau => first | decide | (law_clear; omega) | omega); (case k1 => first | decide | (law_clear; omega) | omega); (case k2 => first | decide | (law_clear; omega) | omega); k_whole); intro q9 hq0 hq1))
local macro_rules | `(tactic| walk_at "call builtin:math.ceil") => `(tactic| (k_here; (with_reducible refine' Mine.r_ceil_hf ?hA ?bal ?bau ?_); k_dflt ((case hA => exact rfl); (case bal => first | decide | (law_clear; omega) | omega); (case bau => first | decide | (law_clear; omega) | omega); k_whole); intro q9 hq0 hq1))
local macro_rules | `(tactic| walk_at "call type:int") => `(tactic| (k_here; (with_reducible refine' Mine.r_trunc_hf ?hA ?bal ?bau ?he ?_); k_dflt ((case hA => exact rfl); (case bal => first | decide | (law_clear; omega) | omega); (case bau => first | decide | (law_clear; omega) | omega); (case he => first | decide | (law_clear; omega) | omega); k_whole); intro q9 hq0))
local macro_rules | `(tactic| walk_at "compareOp Lt float int") => `(tactic| (k_here; (with_reducible refine' Mine.r_lt_fi ?hx ?bal ?bau ?_); k_dflt ((case hx => first | with_reducible exact Mine.c_half | with_reducible exact Mine.c_greg | with_reducible exact Mine.c_isl | with_reducible exact Mine.c_cop | with_reducible exact Mine.c_295 | with_reducible exact Mine.c_1524 | with_reducible rfl); (case bal => first | decide | (law_clear; omega) | omega); (case bau => first | decide | (law_clear; omega) | omega); k_whole)))
local macro_rules | `(tactic| walk_at "compareOp NotEq float float") => `(tactic| (k_here; (with_reducible refine' Mine.r_ne_ff ?hx ?hy ?bal ?bau ?bbl ?bbu ?hab ?_); k_dflt ((case hx => first | with_reducible exact Mine.c_half | with_reducible exact Mine.c_greg | with_reducible exact Mine.c_isl | with_reducible exact Mine.c_cop | with_reducible exact Mine.c_295 | with_reducible exact Mine.c_1524 | with_reducible rfl); (case hy => first | with_reducible exact Mine.c_half | with_reducible exact Mine.c_greg | with_reducible exact Mine.c_isl | with_reducible exact Mine.c_cop | with_reducible exact Mine.c_295 | with_reducible exact Mine.c_1524 | with_reducible rfl); (case bal => first | decide | (law_clear; omega) | omega); (case bau => first | decide | (law_clear; omega) | omega); (case bbl => first | decide | (law_clear; omega) | omega); (case bbu => first | decide | (law_clear; omega) | omega); (case hab => omega); k_whole)))
theorem cells_b (f : Int → Int) (hf : ∀ x, -10000000 < f x ∧ f x < 10000000) (l : List Int) (i : Nat) : -10000000 < (l.map f ++ [0, 0, 0, 0]).getD i 0 ∧ (l.map f ++ [0, 0, 0, 0]).getD i 0 < 10000000 := by
  rw [List.getD_eq_getElem?_getD]
  cases e : (l.map f ++ [0, 0, 0, 0])[i]? with
  | none => simp
  | some v =>
    have hv := List.mem_of_getElem? e
    simp only [Option.getD_some]
    rcases List.mem_append.mp hv with hv | hv
    · obtain ⟨x, _, rfl⟩ := List.mem_map.mp hv
      exact hf x
    · simp at hv
      subst hv
      decide
theorem law_holds : PySem.Challenge.rw_ak5015_01.Holds := hd (by
  k_go0
  all_goals (try k_fold)
  repeat' ((fail_if_success (with_reducible show wpAny _ _ (execs (Stmt.Assign [Expr.Name (Str.ofString "lengths") _] _ _ :: _) _) _ _ _)); first | (k_unfold; (try dsimp only)) | (k_end; kc_close) | walk1 | (dsimp only; walk1) | (leave1; walk_say "STEP leave1"; (try dsimp only)) | fail "no step")
  rename Frag.In _ _ => KX
  rename Below _ _ _ _ => KB
  rename Top _ _ _ _ _ _ => KT
  rename IntsAre _ _ => hz
  rename Fr _ _ _ _ => FZ
  rename News _ _ _ _ => NZ
  have hb := Mine.cells_b (fun k' => if -10000000 < k' ∧ k' < 10000000 then k' else if -10000000 < k' ∧ ¬k' < 10000000 then k' % 10000000 else k' % 10000000) (by intro x; (try dsimp only); split <;> (try split) <;> omega)
  refine wpAny_mono (E := fun _ _ => False) ?_ (fun _ _ h => h) (fun _ _ h => h.elim)
  refine Mine.law_rest _ _ _ KB FZ KX NZ KT (by decide) (by decide) hz (by simp) (by simp; omega) (hb _ _) (hb _ _) (hb _ _) (hb _ _) (by exact rfl) ?_
  intro m' h' tk' F'
  k_steps)
end Mine
open PySem PySem.W PyProof.Rows
theorem PySem.Challenge.cw_ak5015_01_holds : PySem.Challenge.rw_ak5015_01.Holds := by
  exact Mine.law_holds
