import PyProof.Rows.All
import Wide.All
import OpenK.AllK
import Wide.FinOn
import Lean
import PySem.Challenge.RW_ak5024_01
set_option Elab.async false
set_option linter.all false
set_option rowWalk.seconds 0
set_option maxRecDepth 100000
set_option maxHeartbeats 8000000
namespace Mine
section
open PySem PySem.Float64
set_option maxRecDepth 100000
set_option exponentiation.threshold 64

/-- the float n/2 -/
def H (n : Int) : UInt64 := Float64.ofFrac (decide (n < 0)) n.natAbs 2

theorem V_hit (k c : Nat) (hk : k < 2 ^ 53) (hc : c ≤ 1500) : ∃ t, t < infMag ∧ V t = k * 2 ^ c := by
  have hi : infMag = 2047 * 2 ^ 52 := rfl
  rcases Nat.eq_zero_or_pos k with h0 | h0
  · exact ⟨0, by rw [hi]; decide, by subst h0; simp [V]⟩
  · have hl1 : 2 ^ k.log2 ≤ k := Nat.log2_self_le (by omega)
    have hl2 : k < 2 ^ (k.log2 + 1) := Nat.lt_log2_self
    have hl3 : k.log2 ≤ 52 := by
      rcases Nat.lt_or_ge 52 k.log2 with h | h
      · have := Nat.pow_le_pow_right (n := 2) (by decide) (show 53 ≤ k.log2 by omega)
        omega
      · exact h
    generalize k.log2 = l at *
    by_cases hcl : 52 ≤ c + l
    · have e1 : 2 ^ 52 ≤ k * 2 ^ (52 - l) := by
        have : 2 ^ 52 = 2 ^ l * 2 ^ (52 - l) := by rw [← Nat.pow_add]; congr 1; omega
        rw [this]; exact Nat.mul_le_mul_right _ hl1
      have e2 : k * 2 ^ (52 - l) < 2 ^ 53 := by
        have : 2 ^ 53 = 2 ^ (l + 1) * 2 ^ (52 - l) := by rw [← Nat.pow_add]; congr 1; omega
        rw [this]; exact Nat.mul_lt_mul_of_pos_right hl2 (Nat.two_pow_pos _)
      refine ⟨(c + l - 52) * 2 ^ 52 + k * 2 ^ (52 - l), by rw [hi]; omega, ?_⟩
      rw [V_at (by omega) (.inl e1), Nat.mul_assoc, ← Nat.pow_add]
      congr 2; omega
    · have e1 : k * 2 ^ c < 2 ^ 53 := by
        have : 2 ^ (l + 1) * 2 ^ c ≤ 2 ^ 53 := by rw [← Nat.pow_add]; exact Nat.pow_le_pow_right (by decide) (by omega)
        exact Nat.lt_of_lt_of_le (Nat.mul_lt_mul_of_pos_right hl2 (Nat.two_pow_pos _)) this
      refine ⟨k * 2 ^ c, by rw [hi]; omega, ?_⟩
      have := V_at (k := 0) (q := k * 2 ^ c) (by omega) (.inr rfl)
      simpa using this

theorem V_inj {t t' : Nat} (h : V t = V t') : t = t' := by
  rcases Nat.lt_trichotomy t t' with h1 | h1 | h1
  · have := V_lt h1; omega
  · exact h1
  · have := V_lt h1; omega

theorem dist_self' (a : Nat) : dist a a = 0 := by unfold dist; omega
theorem dist_zero {a b : Nat} (h : dist a b = 0) : a = b := by unfold dist at h; omega

/-- not over, if the value is below 2^1200 -/
theorem right_small {r : UInt64} {neg : Bool} {W D : Nat} (h : Right r neg W D) (hD : 0 < D) (hW : W ≤ D * 2 ^ 1200) :
    ∃ t, r = pack neg t ∧ t < infMag ∧ ∀ t', dist W (D * V t) ≤ dist W (D * V t') := by
  obtain ⟨t, h1, h2, h3, h4⟩ := h
  have : t ≠ infMag := fun e => by
    have := h3.mp e
    have e1 : 2 * W ≤ D * (2 * 2 ^ 1200) := by
      have := Nat.mul_le_mul_left 2 hW
      calc 2 * W ≤ 2 * (D * 2 ^ 1200) := this
        _ = D * (2 * 2 ^ 1200) := by ac_rfl
    have e2 := Nat.le_of_mul_le_mul_left (Nat.le_trans this e1) hD
    exact absurd e2 (by decide +kernel)
  have ht : t < infMag := by omega
  exact ⟨t, h1, ht, fun t' => (h4 ht t').1⟩

theorem right_exact {r : UInt64} {neg : Bool} {W D t₀ : Nat} (h : Right r neg W D) (hD : 0 < D) (hW : D * V t₀ = W) (hs : V t₀ ≤ 2 ^ 1200) : r = pack neg t₀ := by
  obtain ⟨t, h1, h2, h3⟩ := right_small h hD (by rw [← hW]; exact Nat.mul_le_mul_left _ hs)
  have := h3 t₀
  rw [← hW, dist_self'] at this
  have := dist_zero (Nat.le_zero.mp this)
  have := V_inj (Nat.eq_of_mul_eq_mul_left hD this)
  rw [h1, this]

theorem H_right (n : Int) : Right (H n) (decide (n < 0)) (n.natAbs * 2 ^ 1073) 1 := by
  refine ofFrac_right (by decide) ?_ (by decide)
  rw [Nat.mul_one, Nat.mul_assoc, ← Nat.pow_succ]

theorem small_pow {k c : Nat} (hk : k < 2 ^ 53) (hc : c ≤ 1100) : k * 2 ^ c ≤ 2 ^ 1200 := by
  have : 2 ^ 1200 = 2 ^ 100 * 2 ^ 1100 := by rw [← Nat.pow_add]
  rw [this]
  exact Nat.mul_le_mul (by have : (2:Nat) ^ 53 ≤ 2 ^ 100 := by decide +kernel
                           omega) (Nat.pow_le_pow_right (by decide) hc)

theorem H_pack (n : Int) (hn : n.natAbs < 2 ^ 53) : ∃ t, t < infMag ∧ H n = pack (decide (n < 0)) t ∧ V t = n.natAbs * 2 ^ 1073 := by
  obtain ⟨t, h1, h2⟩ := V_hit n.natAbs 1073 hn (by decide)
  exact ⟨t, h1, right_exact (H_right n) (by decide) (by rw [h2, Nat.one_mul]) (by rw [h2]; exact small_pow hn (by decide)), h2⟩

/-- what is rightly rounded of n/2 is H n -/
theorem H_of_right {r : UInt64} {W D : Nat} (n : Int) (hn : n.natAbs < 2 ^ 53) (hD : 0 < D) (h : Right r (decide (n < 0)) W D) (hW : W = D * (n.natAbs * 2 ^ 1073)) : r = H n := by
  obtain ⟨t, h1, h2, h3⟩ := H_pack n hn
  rw [h2]
  exact right_exact h hD (by rw [h3, hW]) (by rw [h3]; exact small_pow hn (by decide))

theorem H_decode (n : Int) (hn : n.natAbs < 2 ^ 53) : ∃ m e, decode (H n) = .fin (decide (n < 0)) m e := by
  obtain ⟨t, h1, h2, h3⟩ := H_pack n hn
  obtain ⟨m, e, hd, _⟩ := decode_pack (decide (n < 0)) h1
  exact ⟨m, e, by rw [h2]; exact hd⟩

theorem H_val (n : Int) (hn : n.natAbs < 2 ^ 53) : val (H n) = n * 2 ^ 1073 := by
  obtain ⟨t, h1, h2, h3⟩ := H_pack n hn
  rw [h2, val_pack _ h1, h3]
  unfold sgn
  rcases (by omega : n < 0 ∨ 0 ≤ n) with h | h
  · rw [if_pos (by simpa using h)]
    rw [Int.natCast_mul, Int.natCast_pow, ← Int.neg_mul]
    congr 1; omega
  · rw [if_neg (by simpa using h)]
    rw [Int.natCast_mul, Int.natCast_pow]
    congr 1; omega

theorem H_zero : H 0 = zero false := by decide +kernel

theorem ofInt_H (n : Int) (hn : n.natAbs < 2 ^ 52) : ofInt n = H (2 * n) := by
  refine H_of_right (W := n.natAbs * 2 ^ 1074) (D := 1) (2 * n) (by omega) (by decide) ?_ ?_
  · have e : decide (2 * n < 0) = decide (n < 0) := by congr 1; exact propext ⟨fun h => by omega, fun h => by omega⟩
    rw [e]; exact ofInt_right n
  · have e : (2 * n).natAbs = n.natAbs * 2 := by omega
    rw [e, Nat.one_mul, Nat.mul_assoc, ← Nat.pow_succ']

theorem natAbs_scale (n : Int) (K : Nat) : (n * (K : Int)).natAbs = n.natAbs * K := by rw [Int.natAbs_mul]; rfl
theorem cast_pow (k : Nat) : ((2 ^ k : Nat) : Int) = 2 ^ k := by rw [Int.natCast_pow]; rfl

theorem scale_sign {n K : Int} (hK : 0 < K) : decide (n * K < 0) = decide (n < 0) := by
  congr 1
  refine propext ⟨fun h => ?_, fun h => Int.mul_neg_of_neg_of_pos h hK⟩
  rcases (by omega : n < 0 ∨ 0 ≤ n) with q | q
  · exact q
  · have := Int.mul_nonneg q (Int.le_of_lt hK); omega

theorem two_pos (k : Nat) : (0 : Int) < 2 ^ k := by rw [← cast_pow]; exact Int.ofNat_lt.mpr (Nat.two_pow_pos _)

theorem add_H (a b : Int) (ha : a.natAbs < 2 ^ 53) (hb : b.natAbs < 2 ^ 53) (hc : (a + b).natAbs < 2 ^ 53) : add (H a) (H b) = H (a + b) := by
  obtain ⟨m, e, hx⟩ := H_decode a ha
  obtain ⟨k, f, hy⟩ := H_decode b hb
  have h := add_right hx hy
  rw [H_val a ha, H_val b hb, ← Int.add_mul] at h
  by_cases h0 : a + b = 0
  · rw [h0] at h ⊢
    rw [h.1 (by simp), H_zero]
    congr 1
    rcases (by omega : a < 0 ∨ 0 ≤ a) with q | q
    · have : ¬ b < 0 := by omega
      simp [this]
    · have : ¬ a < 0 := by omega
      simp [this]
  · have hp := two_pos 1073
    have hne : (a + b) * 2 ^ 1073 ≠ 0 := Int.mul_ne_zero h0 (by omega)
    have hr := h.2 hne
    rw [scale_sign hp, ← cast_pow, natAbs_scale] at hr
    exact H_of_right (a + b) hc (by decide) hr (by rw [Nat.one_mul])

theorem sub_H (a b : Int) (ha : a.natAbs < 2 ^ 53) (hb : b.natAbs < 2 ^ 53) (hc : (a - b).natAbs < 2 ^ 53) : sub (H a) (H b) = H (a - b) := by
  obtain ⟨m, e, hx⟩ := H_decode a ha
  obtain ⟨k, f, hy⟩ := H_decode b hb
  have h := sub_right hx hy
  rw [H_val a ha, H_val b hb, ← Int.sub_mul] at h
  by_cases h0 : a - b = 0
  · rw [h0] at h ⊢
    rw [h.1 (by simp), H_zero]
    congr 1
    have : a = b := by omega
    subst this
    cases decide (a < 0) <;> rfl
  · have hp := two_pos 1073
    have hne : (a - b) * 2 ^ 1073 ≠ 0 := Int.mul_ne_zero h0 (by omega)
    have hr := h.2 hne
    rw [scale_sign hp, ← cast_pow, natAbs_scale] at hr
    exact H_of_right (a - b) hc (by decide) hr (by rw [Nat.one_mul])

/-- n > 0 an int, or b not negative -/
theorem mul_H (a n : Int) (ha : a.natAbs < 2 ^ 53) (hn : n.natAbs < 2 ^ 52) (hc : (a * n).natAbs < 2 ^ 53) (hs : (decide (a < 0) != decide (2 * n < 0)) = decide (a * n < 0)) : mul (H a) (H (2 * n)) = H (a * n) := by
  obtain ⟨m, e, hx⟩ := H_decode a ha
  obtain ⟨k, f, hy⟩ := H_decode (2 * n) (by omega)
  have h := mul_right hx hy
  rw [H_val a ha, H_val (2 * n) (by omega), hs, ← cast_pow, natAbs_scale, natAbs_scale] at h
  refine H_of_right (a * n) hc (Nat.two_pow_pos 1074) h ?_
  have e1 : (2 * n).natAbs = 2 * n.natAbs := by omega
  rw [e1, Int.natAbs_mul, Nat.pow_succ]
  generalize (2 : Nat) ^ 1073 = K
  ac_rfl

theorem floor_val {x : UInt64} {s : Bool} {m : Nat} {e : Int} (h : decode x = .fin s m e) : floorOf s m e = val x / 2 ^ 1074 := by
  have he := decode_ge h
  rw [val_eq h, sgn_mul, cast_pow]
  unfold floorOf
  split
  · have e1 : (e + 1074).toNat = e.toNat + 1074 := by omega
    rw [e1, Int.pow_add, ← Int.mul_assoc, Int.mul_ediv_cancel _ (by have := two_pos 1074; omega)]
  · have e1 : (1074 : Nat) = (-e).toNat + (e + 1074).toNat := by omega
    have h2 : (2 : Int) ^ 1074 = 2 ^ (-e).toNat * 2 ^ (e + 1074).toNat := by rw [← Int.pow_add, ← e1]
    rw [h2, Int.mul_ediv_mul_of_pos_left _ _ (two_pos _), Int.fdiv_eq_ediv_of_nonneg _ (Int.le_of_lt (two_pos _))]

theorem ceil_val {x : UInt64} {s : Bool} {m : Nat} {e : Int} (h : decode x = .fin s m e) : ceilOf s m e = -(-(val x) / 2 ^ 1074) := by
  have he := decode_ge h
  have h1 := floor_val (neg_decode h)
  rw [neg_val h] at h1
  unfold ceilOf
  rw [h1]

theorem trunc_val {x : UInt64} {m : Nat} {e : Int} (h : decode x = .fin false m e) : truncOf false m e = val x / 2 ^ 1074 := by
  have := floor_val h
  unfold truncOf
  simpa using this

theorem H_isFinite (n : Int) (hn : n.natAbs < 2 ^ 53) : isFinite (H n) = true := by
  obtain ⟨m, e, hx⟩ := H_decode n hn
  unfold isFinite; rw [hx]

theorem scale_div (n : Int) : n * 2 ^ 1073 / 2 ^ 1074 = n / 2 := by
  have h2 : (2 : Int) ^ 1074 = 2 * 2 ^ 1073 := by rw [Int.pow_succ, Int.mul_comm]
  rw [h2, Int.mul_ediv_mul_of_pos_left _ _ (two_pos _)]

theorem floor_H (n : Int) (hn : n.natAbs < 2 ^ 53) : Flt.toInt floorOf (H n) = n / 2 := by
  obtain ⟨m, e, hx⟩ := H_decode n hn
  unfold Flt.toInt; rw [hx]
  simp only
  rw [floor_val hx, H_val n hn, scale_div]
theorem ceil_H (n : Int) (hn : n.natAbs < 2 ^ 53) : Flt.toInt ceilOf (H n) = -(-n / 2) := by
  obtain ⟨m, e, hx⟩ := H_decode n hn
  unfold Flt.toInt; rw [hx]
  simp only
  rw [ceil_val hx, H_val n hn, ← Int.neg_mul, scale_div]
theorem trunc_H (n : Int) (hn : n.natAbs < 2 ^ 53) (h0 : 0 ≤ n) : Flt.toInt truncOf (H n) = n / 2 := by
  obtain ⟨m, e, hx⟩ := H_decode n hn
  have : decide (n < 0) = false := by simpa using h0
  rw [this] at hx
  unfold Flt.toInt; rw [hx]
  simp only
  rw [trunc_val hx, H_val n hn, scale_div]

/-- the quotient n/d rounded, then floored: k. The room to the next int is seen at 2^-j. -/
theorem right_floor {r : UInt64} {n d : Nat} (k j : Nat) (h : Right r false (n * 2 ^ 1074) d) (hd : 0 < d) (h1 : k * d ≤ n) (h2 : n * 2 ^ j + d ≤ (k + 1) * d * 2 ^ j) (h3 : n * 2 ^ j < d * 2 ^ 53) (hj : j ≤ 1074) :
    ∃ m e, decode r = .fin false m e ∧ val r / 2 ^ 1074 = (k : Int) := by
  have hp := Nat.two_pow_pos j
  have hW : n * 2 ^ 1074 ≤ d * 2 ^ 1200 := by
    have e1 : n ≤ n * 2 ^ j := Nat.le_mul_of_pos_right _ hp
    have e2 : n ≤ d * 2 ^ 53 := by omega
    calc n * 2 ^ 1074 ≤ d * 2 ^ 53 * 2 ^ 1074 := Nat.mul_le_mul_right _ e2
      _ = d * (2 ^ 53 * 2 ^ 1074) := by rw [Nat.mul_assoc]
      _ ≤ d * 2 ^ 1200 := Nat.mul_le_mul_left _ (by decide +kernel)
  obtain ⟨t, hr, ht, hn⟩ := right_small h hd hW
  have hk53 : k < 2 ^ 53 := by
    have e1 : k * d * 2 ^ j < d * 2 ^ 53 := Nat.lt_of_le_of_lt (Nat.mul_le_mul_right _ h1) h3
    have e2 : k * d ≤ k * d * 2 ^ j := Nat.le_mul_of_pos_right _ hp
    have e3 : d * k < d * 2 ^ 53 := by rw [Nat.mul_comm d k]; omega
    exact Nat.lt_of_mul_lt_mul_left e3
  obtain ⟨t1, _, hV1⟩ := V_hit k 1074 hk53 (by decide)
  have hq53 : n * 2 ^ j / d < 2 ^ 53 := (Nat.div_lt_iff_lt_mul hd).mpr (by rw [Nat.mul_comm (2 ^ 53)]; exact h3)
  obtain ⟨t2, _, hV2⟩ := V_hit (n * 2 ^ j / d) (1074 - j) hq53 (by omega)
  have c1 := hn t1
  have c2 := hn t2
  rw [hV1] at c1
  rw [hV2] at c2
  have hdm := Nat.div_add_mod (n * 2 ^ j) d
  have hml := Nat.mod_lt (n * 2 ^ j) hd
  have hK : (2 : Nat) ^ 1074 = 2 ^ j * 2 ^ (1074 - j) := by rw [← Nat.pow_add]; congr 1; omega
  have hY := Nat.two_pow_pos (1074 - j)
  have hX := Nat.two_pow_pos 1074
  generalize hYe : (2 : Nat) ^ (1074 - j) = Y at *
  generalize hXe : (2 : Nat) ^ 1074 = X at *
  generalize n * 2 ^ j / d = q at *
  generalize n * 2 ^ j % d = r0 at *
  generalize hvt : V t = v at *
  have hnX : n * X = n * 2 ^ j * Y := by rw [hK, Nat.mul_assoc]
  -- lower
  have lo : k * X ≤ v := by
    rcases Nat.lt_or_ge v (k * X) with q1 | q1
    · exfalso
      have a1 : d * v < d * (k * X) := Nat.mul_lt_mul_of_pos_left q1 hd
      have a2 : d * (k * X) ≤ n * X := by
        rw [← Nat.mul_assoc]; exact Nat.mul_le_mul_right _ (by rw [Nat.mul_comm]; exact h1)
      unfold dist at c1
      omega
    · exact q1
  have hi : v < (k + 1) * X := by
    rcases Nat.lt_or_ge v ((k + 1) * X) with q1 | q1
    · exact q1
    · exfalso
      have a1 : d * ((k + 1) * X) ≤ d * v := Nat.mul_le_mul_left _ q1
      have a2 : d * ((k + 1) * X) = (k + 1) * d * 2 ^ j * Y := by rw [hK]; ac_rfl
      have a3 : (n * 2 ^ j + d) * Y ≤ (k + 1) * d * 2 ^ j * Y := Nat.mul_le_mul_right _ h2
      rw [Nat.add_mul] at a3
      have a4 : d * (q * Y) + r0 * Y = n * 2 ^ j * Y := by rw [← hdm, Nat.add_mul]; ac_rfl
      have a5 : r0 * Y < d * Y := Nat.mul_lt_mul_of_pos_right hml hY
      unfold dist at c2
      omega
  obtain ⟨m, e, hde, hv⟩ := decode_pack false ht
  refine ⟨m, e, by rw [hr]; exact hde, ?_⟩
  rw [hr, val_pack _ ht, hvt]
  have e1 : sgn false v = ((v : Nat) : Int) := by simp [sgn]
  rw [e1, ← cast_pow, hXe, ← Int.natCast_ediv]
  congr 1
  exact Nat.div_eq_of_lt_le lo hi

theorem isFin_of {x : UInt64} {s : Bool} {m : Nat} {e : Int} (h : decode x = .fin s m e) : isFinite x = true := by unfold isFinite; rw [h]

theorem toInt_floor {r : UInt64} {k : Nat} (h : ∃ m e, decode r = .fin false m e ∧ val r / 2 ^ 1074 = (k : Int)) : isFinite r = true ∧ Flt.toInt floorOf r = k ∧ Flt.toInt truncOf r = k := by
  obtain ⟨m, e, hd, hv⟩ := h
  refine ⟨isFin_of hd, ?_, ?_⟩
  · unfold Flt.toInt; rw [hd]; simp only; rw [floor_val hd, hv]
  · unfold Flt.toInt; rw [hd]; simp only; rw [trunc_val hd, hv]

/-- a / b of two halves, floored or cut -/
theorem div_HH (a b : Int) (ha : 0 ≤ a) (ha2 : a < 2 ^ 32) (hb : 0 < b) (hb2 : b ≤ 2 ^ 20) : isFinite (div (H a) (H b)) = true ∧ Flt.toInt floorOf (div (H a) (H b)) = a / b ∧ Flt.toInt truncOf (div (H a) (H b)) = a / b := by
  obtain ⟨m, e, hx⟩ := H_decode a (by omega)
  obtain ⟨k, f, hy⟩ := H_decode b (by omega)
  have hk : k ≠ 0 := by
    intro h0
    have := val_eq hy
    rw [H_val b (by omega), h0] at this
    have hp := two_pos 1073
    have := Int.mul_pos hb hp
    unfold sgn at *
    simp at *
    omega
  have h := div_right hx hy hk
  have s1 : decide (a < 0) = false := by simpa using ha
  have s2 : decide (b < 0) = false := by simp; omega
  rw [s1, s2, H_val a (by omega), H_val b (by omega), ← cast_pow, natAbs_scale, natAbs_scale] at h
  have hB := Nat.two_pow_pos 1073
  have := right_floor (a.natAbs / b.natAbs) 20 h (Nat.mul_pos (by omega) hB) ?_ ?_ ?_ (by decide)
  · have e1 : ((a.natAbs / b.natAbs : Nat) : Int) = a / b := by
      rw [Int.natCast_ediv]; congr 1 <;> omega
    rw [e1] at this
    obtain ⟨m, e, hd, hv⟩ := this
    refine ⟨isFin_of hd, ?_, ?_⟩
    · unfold Flt.toInt; rw [hd]; simp only; rw [floor_val hd, hv]
    · unfold Flt.toInt; rw [hd]; simp only; rw [trunc_val hd, hv]
  · rw [← Nat.mul_assoc]; exact Nat.mul_le_mul_right _ (Nat.div_mul_le_self _ _)
  · have e1 := Nat.div_add_mod a.natAbs b.natAbs
    have e2 := Nat.mod_lt a.natAbs (show 0 < b.natAbs by omega)
    generalize a.natAbs / b.natAbs = q at *
    have hb3 : b.natAbs ≤ 2 ^ 20 := by omega
    generalize b.natAbs = d at *
    have e3 : a.natAbs + 1 ≤ (q + 1) * d := by rw [Nat.add_mul, Nat.mul_comm q d]; omega
    have e4 : a.natAbs * 2 ^ 20 + d ≤ (q + 1) * d * 2 ^ 20 := by omega
    generalize hK : (2 : Nat) ^ 1073 = K at *
    calc a.natAbs * K * 2 ^ 20 + d * K = (a.natAbs * 2 ^ 20 + d) * K := by rw [Nat.add_mul]; ac_rfl
      _ ≤ (q + 1) * d * 2 ^ 20 * K := Nat.mul_le_mul_right _ e4
      _ = (q + 1) * (d * K) * 2 ^ 20 := by ac_rfl
  · have e1 : a.natAbs * 2 ^ 20 < b.natAbs * 2 ^ 53 := by omega
    generalize hK : (2 : Nat) ^ 1073 = K at *
    calc a.natAbs * K * 2 ^ 20 = (a.natAbs * 2 ^ 20) * K := by ac_rfl
      _ < (b.natAbs * 2 ^ 53) * K := Nat.mul_lt_mul_of_pos_right e1 hB
      _ = b.natAbs * K * 2 ^ 53 := by ac_rfl

/-- a / b of two ints, floored or cut -/
theorem div_II (a b : Int) (ha : 0 ≤ a) (ha2 : a < 2 ^ 32) (hb : 0 < b) (hb2 : b ≤ 2 ^ 20) :
    isFinite (ofFrac (decide (a < 0) != decide (b < 0)) a.natAbs b.natAbs) = true ∧ Flt.toInt floorOf (ofFrac (decide (a < 0) != decide (b < 0)) a.natAbs b.natAbs) = a / b ∧ Flt.toInt truncOf (ofFrac (decide (a < 0) != decide (b < 0)) a.natAbs b.natAbs) = a / b := by
  have s1 : decide (a < 0) = false := by simpa using ha
  have s2 : decide (b < 0) = false := by simp; omega
  rw [s1, s2]
  have h : Right (ofFrac (false != false) a.natAbs b.natAbs) false (a.natAbs * 2 ^ 1074) b.natAbs := ofFrac_right (by omega) rfl (by omega)
  have := toInt_floor (right_floor (a.natAbs / b.natAbs) 20 h (by omega) (Nat.div_mul_le_self _ _) ?_ ?_ (by decide))
  · have e1 : ((a.natAbs / b.natAbs : Nat) : Int) = a / b := by
      rw [Int.natCast_ediv]; congr 1 <;> omega
    rw [e1] at this
    exact this
  · have e1 := Nat.div_add_mod a.natAbs b.natAbs
    have e2 := Nat.mod_lt a.natAbs (show 0 < b.natAbs by omega)
    generalize a.natAbs / b.natAbs = q at *
    have hb3 : b.natAbs ≤ 2 ^ 20 := by omega
    generalize b.natAbs = d at *
    have e3 : a.natAbs + 1 ≤ (q + 1) * d := by rw [Nat.add_mul, Nat.mul_comm q d]; omega
    omega
  · omega
end
section
open PySem PySem.Float64
set_option maxRecDepth 100000
set_option exponentiation.threshold 64

theorem compare_scale' (p q K : Int) (hK : 0 < K) : compare (p * K) (q * K) = compare p q := by
  rcases Int.lt_trichotomy p q with h | h | h
  · rw [Int.compare_eq_lt.mpr h, Int.compare_eq_lt.mpr (Int.mul_lt_mul_of_pos_right h hK)]
  · subst h; simp
  · rw [Int.compare_eq_gt.mpr h, Int.compare_eq_gt.mpr (Int.mul_lt_mul_of_pos_right h hK)]

theorem cmp_H (a b : Int) (ha : a.natAbs < 2 ^ 53) (hb : b.natAbs < 2 ^ 53) : cmp (H a) (H b) = some (compare a b) := by
  obtain ⟨m, e, hx⟩ := H_decode a ha
  obtain ⟨k, f, hy⟩ := H_decode b hb
  rw [cmp_right hx hy, H_val a ha, H_val b hb, compare_scale' _ _ _ (two_pos 1073)]

theorem cmpInt_H (a n : Int) (ha : a.natAbs < 2 ^ 53) : cmpInt (H a) n = some (compare a (2 * n)) := by
  obtain ⟨m, e, hx⟩ := H_decode a ha
  have h2 : (2 : Int) ^ 1074 = 2 * 2 ^ 1073 := by rw [Int.pow_succ, Int.mul_comm]
  have h3 : n * (2 * 2 ^ 1073) = 2 * n * 2 ^ 1073 := by rw [← Int.mul_assoc, Int.mul_comm n 2]
  rw [cmpInt_right hx, H_val a ha, h2, h3, compare_scale' _ _ _ (two_pos 1073)]

theorem signBit_H (b : Int) (hb : b.natAbs < 2 ^ 53) (h0 : 0 ≤ b) : signBit (H b) = false := by
  obtain ⟨t, h1, h2, h3⟩ := H_pack b hb
  have e : decide (b < 0) = false := by simpa using h0
  rw [e] at h2
  have hi : infMag = 2047 * 2 ^ 52 := rfl
  have ht := pack_toNat false (t := t) (by omega)
  unfold signBit
  rw [h2, ht]
  simp
  omega

theorem fmod_H (a b : Int) (ha : 0 ≤ a) (ha2 : a < 2 ^ 53) (hb : 0 < b) (hb2 : b < 2 ^ 53) : fmod (H a) (H b) = H (a % b) := by
  obtain ⟨m, e, hx⟩ := H_decode a (by omega)
  obtain ⟨k, f, hy⟩ := H_decode b (by omega)
  have s1 : decide (a < 0) = false := by simpa using ha
  have s2 : decide (b < 0) = false := by simp; omega
  rw [s1] at hx
  rw [s2] at hy
  have vx := val_eq hx
  have vy := val_eq hy
  have he := decode_ge hx
  have hf := decode_ge hy
  rw [H_val a (by omega)] at vx
  rw [H_val b (by omega)] at vy
  have sg : ∀ n : Nat, sgn false n = (n : Int) := fun n => by simp [sgn]
  rw [sg, ← cast_pow] at vx vy
  have hpK := Nat.two_pow_pos 1073
  have hk : k ≠ 0 := by
    intro h0
    rw [h0] at vy
    have hp := two_pos 1073
    have := Int.mul_pos hb hp
    rw [← cast_pow] at this
    omega
  have hfm : fmod (H a) (H b) = ofBin false ((m * 2 ^ (e - min e f).toNat) % (k * 2 ^ (f - min e f).toNat)) (min e f) := by
    unfold fmod
    rw [hx, hy]
    simp only [align, sg, Int.toNat_natCast]
    rw [if_neg (by simpa using hk)]
  rw [hfm]
  have hg : -1074 ≤ min e f := by omega
  have e1 : m * 2 ^ (e - min e f).toNat * 2 ^ (min e f + 1074).toNat = m * 2 ^ (e + 1074).toNat := by
    rw [Nat.mul_assoc, ← Nat.pow_add]; congr 2; omega
  have e2 : k * 2 ^ (f - min e f).toNat * 2 ^ (min e f + 1074).toNat = k * 2 ^ (f + 1074).toNat := by
    rw [Nat.mul_assoc, ← Nat.pow_add]; congr 2; omega
  generalize m * 2 ^ (e - min e f).toNat = P at *
  generalize k * 2 ^ (f - min e f).toNat = Q at *
  rw [← e1] at vx
  rw [← e2] at vy
  have hbin : Right (ofBin false (P % Q) (min e f)) (decide (a % b < 0)) ((P % Q) * 2 ^ (min e f + 1074).toNat) 1 := by
    have s3 : decide (a % b < 0) = false := by simp; exact Int.emod_nonneg _ (by omega)
    rw [s3]
    unfold ofBin
    have := shift_one (P % Q) (min e f) 1074 (by omega)
    refine ofFrac_right (shift_pos _ _ _ (by decide)) ?_ (by decide)
    rw [Nat.mul_one]
    exact this
  have hab : (a % b).natAbs < 2 ^ 53 := by
    have h1 := Int.emod_lt_of_pos a hb
    have h2 := Int.emod_nonneg a (show b ≠ 0 by omega)
    omega
  refine H_of_right (a % b) hab (by decide) hbin ?_
  generalize (2 : Nat) ^ (min e f + 1074).toNat = G at *
  rw [Nat.one_mul]
  generalize (2 : Nat) ^ 1073 = K at *
  have ea : a = ((a.natAbs : Nat) : Int) := by omega
  have eb : b = ((b.natAbs : Nat) : Int) := by omega
  rw [ea, ← Int.natCast_mul] at vx
  rw [eb, ← Int.natCast_mul] at vy
  have vx' := Int.ofNat.inj vx
  have vy' := Int.ofNat.inj vy
  have em : (a % b).natAbs = a.natAbs % b.natAbs := by
    rw [ea, eb, ← Int.natCast_emod]; rfl
  rw [em, ← Nat.mul_mod_mul_right, ← Nat.mul_mod_mul_right, vx', vy']

theorem zero_eq : zero false = H 0 := H_zero.symm
theorem isNaN_H (n : Int) (hn : n.natAbs < 2 ^ 53) : isNaN (H n) = false := by
  obtain ⟨m, e, hx⟩ := H_decode n hn
  unfold isNaN; rw [hx]
theorem isZero_H (n : Int) (hn : n.natAbs < 2 ^ 53) : isZero (H n) = decide (n = 0) := by
  rw [PySem.Flt.isZero_eq, cmpInt_H n 0 hn]
  rcases Int.lt_trichotomy n 0 with h | h | h
  · rw [show (2 : Int) * 0 = 0 from rfl, Int.compare_eq_lt.mpr h]
    have : n ≠ 0 := by omega
    simp [this]
  · subst h; simp
  · rw [show (2 : Int) * 0 = 0 from rfl, Int.compare_eq_gt.mpr h]
    have : n ≠ 0 := by omega
    simp [this]

theorem mod_H (a b : Int) (ha : 0 ≤ a) (ha2 : a < 2 ^ 53) (hb : 0 < b) (hb2 : b < 2 ^ 53) : (divmod (H a) (H b)).2 = H (a % b) := by
  have h1 := Int.emod_lt_of_pos a hb
  have h2 := Int.emod_nonneg a (show b ≠ 0 by omega)
  have n0 : ((0 : Int)).natAbs < 2 ^ 53 := by decide
  unfold divmod
  rw [fmod_H a b ha ha2 hb hb2]
  simp only
  rw [isZero_H _ (by omega)]
  by_cases h0 : a % b = 0
  · rw [h0]
    simp only [decide_true, if_true]
    unfold copysign
    rw [zero_eq, isNaN_H 0 n0, signBit_H b (by omega) (by omega)]
    decide +kernel
  · have e1 : lt (H b) (zero false) = false := by
      unfold lt
      rw [zero_eq, cmp_H b 0 (by omega) n0, Int.compare_eq_gt.mpr hb]
      rfl
    have e2 : lt (H (a % b)) (zero false) = false := by
      unfold lt
      rw [zero_eq, cmp_H _ 0 (by omega) n0, Int.compare_eq_gt.mpr (by omega)]
      rfl
    rw [e1, e2]
    simp [h0]
end
section
open PySem PySem.Float64 PyProof.Rows
set_option maxRecDepth 100000
set_option exponentiation.threshold 64

abbrev c365 : UInt64 := 0x4076d40000000000
abbrev c122 : UInt64 := 0x405e866666666666
abbrev c3061 : UInt64 := 0x403e99a027525461
abbrev c306 : UInt64 := 0x403e99999999999a

theorem val365 : val c365 = 1461 * 2 ^ 1072 := by decide +kernel
theorem dec365 : decode c365 = .fin false 6425545952722944 (-44) := by kernel_rfl
theorem dec122 : decode c122 = .fin false 8592023664092774 (-46) := by kernel_rfl
theorem val122 : val c122 = 8592023664092774 * 2 ^ 1028 := by decide +kernel

theorem div_H365 (a : Int) (ha : 0 ≤ a) (ha2 : a < 2 ^ 32) : isFinite (div (H a) c365) = true ∧ Flt.toInt truncOf (div (H a) c365) = 2 * a / 1461 := by
  obtain ⟨m, e, hx⟩ := H_decode a (by omega)
  have h := div_right hx dec365 (by decide)
  have s1 : decide (a < 0) = false := by simpa using ha
  have v2 : (val c365).natAbs = 1461 * 2 ^ 1072 := by rw [val365, ← cast_pow]; exact natAbs_scale 1461 _
  rw [s1, v2, H_val a (by omega), ← cast_pow, natAbs_scale] at h
  have hB := Nat.two_pow_pos 1072
  have hE : (2 : Nat) ^ 1073 = 2 * 2 ^ 1072 := by rw [Nat.pow_succ, Nat.mul_comm]
  rw [hE] at h
  have := toInt_floor (right_floor (2 * a.natAbs / 1461) 20 h (Nat.mul_pos (by decide) hB) ?_ ?_ ?_ (by decide))
  · have e1 : ((2 * a.natAbs / 1461 : Nat) : Int) = 2 * a / 1461 := by omega
    rw [e1] at this
    exact ⟨this.1, this.2.2⟩
  · generalize (2 : Nat) ^ 1072 = K at *
    have := Nat.div_mul_le_self (2 * a.natAbs) 1461
    calc 2 * a.natAbs / 1461 * (1461 * K) = 2 * a.natAbs / 1461 * 1461 * K := by rw [Nat.mul_assoc]
      _ ≤ 2 * a.natAbs * K := Nat.mul_le_mul_right _ this
      _ = a.natAbs * (2 * K) := by ac_rfl
  · generalize (2 : Nat) ^ 1072 = K at *
    have e4 : 2 * a.natAbs * 2 ^ 20 + 1461 ≤ (2 * a.natAbs / 1461 + 1) * 1461 * 2 ^ 20 := by omega
    calc a.natAbs * (2 * K) * 2 ^ 20 + 1461 * K = (2 * a.natAbs * 2 ^ 20 + 1461) * K := by rw [Nat.add_mul]; ac_rfl
      _ ≤ (2 * a.natAbs / 1461 + 1) * 1461 * 2 ^ 20 * K := Nat.mul_le_mul_right _ e4
      _ = (2 * a.natAbs / 1461 + 1) * (1461 * K) * 2 ^ 20 := by ac_rfl
  · generalize (2 : Nat) ^ 1072 = K at *
    have e1 : 2 * a.natAbs * 2 ^ 20 < 1461 * 2 ^ 53 := by omega
    calc a.natAbs * (2 * K) * 2 ^ 20 = (2 * a.natAbs * 2 ^ 20) * K := by ac_rfl
      _ < (1461 * 2 ^ 53) * K := Nat.mul_lt_mul_of_pos_right e1 hB
      _ = 1461 * K * 2 ^ 53 := by ac_rfl

theorem mul365 (c : Int) (hc : 0 ≤ c) (hc2 : c < 2 ^ 20) : isFinite (mul c365 (ofInt c)) = true ∧ Flt.toInt floorOf (mul c365 (ofInt c)) = 1461 * c / 4 := by
  rw [ofInt_H c (by omega)]
  obtain ⟨m, e, hx⟩ := H_decode (2 * c) (by omega)
  have h := mul_right dec365 hx
  have s1 : decide (2 * c < 0) = false := by simp; omega
  have v2 : (val c365).natAbs = 1461 * 2 ^ 1072 := by rw [val365, ← cast_pow]; exact natAbs_scale 1461 _
  have s0 : (false != false) = false := rfl
  rw [s1, s0, v2, H_val (2 * c) (by omega), ← cast_pow, natAbs_scale] at h
  obtain ⟨t, ht, hv⟩ := V_hit (1461 * c.natAbs) 1072 (by omega) (by decide)
  have e0 : (2 * c).natAbs = 2 * c.natAbs := by omega
  have e1 : (2 : Nat) ^ 1074 = 2 * 2 ^ 1073 := by rw [Nat.pow_succ, Nat.mul_comm]
  have hr := right_exact (t₀ := t) h (Nat.two_pow_pos _) (by
    rw [hv, e0, e1]
    generalize (2 : Nat) ^ 1073 = K
    generalize (2 : Nat) ^ 1072 = K'
    ac_rfl) (by rw [hv]; exact small_pow (by omega) (by decide))
  obtain ⟨m', e', hd, _⟩ := decode_pack false ht
  have hval := val_pack false ht
  rw [← hr] at hval
  have hd' : decode (mul c365 (H (2 * c))) = .fin false m' e' := by rw [hr]; exact hd
  refine ⟨isFin_of hd', ?_⟩
  unfold Flt.toInt
  rw [hd']
  simp only
  rw [floor_val hd', hval, hv]
  have sg : ∀ n : Nat, sgn false n = (n : Int) := fun n => by simp [sgn]
  have e2 : (2 : Int) ^ 1074 = 4 * 2 ^ 1072 := by
    rw [show (1074 : Nat) = 1072 + 2 from rfl, Int.pow_add]; generalize (2 : Int) ^ 1072 = K; omega
  rw [sg, Int.natCast_mul, cast_pow, e2, Int.mul_ediv_mul_of_pos_left _ _ (two_pos _)]
  omega

theorem sub122 (b : Int) (hb : 1000 ≤ b) (hb2 : b < 2 ^ 23) : ∃ m e R, decode (sub (ofInt b) c122) = .fin false m e ∧ val (sub (ofInt b) c122) = ((R : Nat) : Int) ∧
    (b.natAbs * 2 ^ 46 - 8592023664092774) * 2 ^ 1028 < R + 2 ^ 1044 ∧ R < (b.natAbs * 2 ^ 46 - 8592023664092774) * 2 ^ 1028 + 2 ^ 1044 := by
  rw [ofInt_H b (by omega)]
  obtain ⟨m, e, hx⟩ := H_decode (2 * b) (by omega)
  have h := sub_right hx dec122
  rw [H_val (2 * b) (by omega), val122] at h
  have ev : 2 * b * 2 ^ 1073 - 8592023664092774 * 2 ^ 1028 = (((b.natAbs * 2 ^ 46 - 8592023664092774) * 2 ^ 1028 : Nat) : Int) := by
    have e1 : (2 : Int) ^ 1073 = 2 ^ 45 * 2 ^ 1028 := by rw [← Int.pow_add]
    rw [e1, Int.natCast_mul, cast_pow]
    generalize (2 : Int) ^ 1028 = K
    have e2 : ((b.natAbs * 2 ^ 46 - 8592023664092774 : Nat) : Int) = b * 2 ^ 46 - 8592023664092774 := by omega
    rw [e2, Int.sub_mul, ← Int.mul_assoc]
    have e3 : 2 * b * 2 ^ 45 = b * 2 ^ 46 := by omega
    rw [e3]
  rw [ev] at h
  have hN : 0 < b.natAbs * 2 ^ 46 - 8592023664092774 := by omega
  have hN2 : b.natAbs * 2 ^ 46 - 8592023664092774 < 2 ^ 69 := by omega
  generalize b.natAbs * 2 ^ 46 - 8592023664092774 = N at *
  have hK := Nat.two_pow_pos 1028
  have hpos : 0 < N * 2 ^ 1028 := Nat.mul_pos hN hK
  have hr := h.2 (by omega)
  have s1 : decide (((N * 2 ^ 1028 : Nat) : Int) < 0) = false := decide_eq_false (Int.not_lt.mpr (Int.natCast_nonneg _))
  rw [s1, Int.natAbs_natCast] at hr
  obtain ⟨t, hrt, ht, hn⟩ := right_small hr (by decide) (by
    rw [Nat.one_mul]
    calc N * 2 ^ 1028 ≤ 2 ^ 69 * 2 ^ 1028 := Nat.mul_le_mul_right _ (by omega)
      _ ≤ 2 ^ 1200 := by decide +kernel)
  obtain ⟨t2, _, hV2⟩ := V_hit (N / 2 ^ 16) 1044 (by omega) (by decide)
  have c := hn t2
  obtain ⟨m', e', hd, _⟩ := decode_pack false ht
  have hv := val_pack false ht
  rw [← hrt] at hd hv
  have sg : ∀ n : Nat, sgn false n = (n : Int) := fun n => by simp [sgn]
  rw [sg] at hv
  refine ⟨m', e', V t, hd, hv, ?_⟩
  rw [hV2, Nat.one_mul, Nat.one_mul] at c
  have e4 : (2 : Nat) ^ 1044 = 2 ^ 16 * 2 ^ 1028 := by rw [← Nat.pow_add]
  have e5 := Nat.div_add_mod N (2 ^ 16)
  have e6 := Nat.mod_lt N (show 0 < 2 ^ 16 by decide)
  rw [e4] at c ⊢
  generalize (2 : Nat) ^ 1028 = K at *
  generalize N / 2 ^ 16 = q at *
  generalize N % 2 ^ 16 = r at *
  have e7 : N * K = q * (2 ^ 16 * K) + r * K := by rw [← e5, Nat.add_mul]; ac_rfl
  have e8 : r * K < 2 ^ 16 * K := Nat.mul_lt_mul_of_pos_right e6 hK
  generalize 2 ^ 16 * K = Z at *
  generalize q * Z = Y at *
  unfold dist at c
  constructor <;> omega

theorem jul365 (b : Int) (hb : 1000 ≤ b) (hb2 : b < 2 ^ 23) : isFinite (div (sub (ofInt b) c122) c365) = true ∧ Flt.toInt floorOf (div (sub (ofInt b) c122) c365) = (20 * b - 2442) / 7305 := by
  obtain ⟨m, e, R, hx, hv, hl, hu⟩ := sub122 b hb hb2
  have h := div_right hx dec365 (by decide)
  have v2 : (val c365).natAbs = 1461 * 2 ^ 1072 := by rw [val365, ← cast_pow]; exact natAbs_scale 1461 _
  have s0 : (false != false) = false := rfl
  rw [v2, hv, s0, Int.natAbs_natCast] at h
  have hB := Nat.two_pow_pos 1028
  have e1 : (2 : Nat) ^ 1044 = 2 ^ 16 * 2 ^ 1028 := by rw [← Nat.pow_add]
  have e2 : (2 : Nat) ^ 1072 = 2 ^ 44 * 2 ^ 1028 := by rw [← Nat.pow_add]
  rw [e1] at hl hu
  rw [e2] at h
  have hk : (20 * b - 2442) / 7305 = (((20 * b.natAbs - 2442) / 7305 : Nat) : Int) := by omega
  rw [hk]
  have := toInt_floor (right_floor ((20 * b.natAbs - 2442) / 7305) 20 h (Nat.mul_pos (by decide) (Nat.mul_pos (by decide) hB)) ?_ ?_ ?_ (by decide))
  · exact ⟨this.1, this.2.1⟩
  · have a1 : (20 * b.natAbs - 2442) / 7305 * 1461 * 2 ^ 44 + 2 ^ 16 ≤ b.natAbs * 2 ^ 46 - 8592023664092774 := by omega
    generalize (20 * b.natAbs - 2442) / 7305 = k at *
    generalize b.natAbs * 2 ^ 46 - 8592023664092774 = N at *
    generalize (2 : Nat) ^ 1028 = K at *
    have a2 := Nat.mul_le_mul_right K a1
    rw [Nat.add_mul] at a2
    have a3 : k * (1461 * (2 ^ 44 * K)) = k * 1461 * 2 ^ 44 * K := by ac_rfl
    omega
  · have a1 : b.natAbs * 2 ^ 46 - 8592023664092774 + 2 ^ 16 + 2 ^ 36 ≤ ((20 * b.natAbs - 2442) / 7305 + 1) * 1461 * 2 ^ 44 := by omega
    generalize (20 * b.natAbs - 2442) / 7305 = k at *
    generalize b.natAbs * 2 ^ 46 - 8592023664092774 = N at *
    generalize (2 : Nat) ^ 1028 = K at *
    have a2 := Nat.mul_le_mul_right K a1
    rw [Nat.add_mul, Nat.add_mul] at a2
    have a3 : (k + 1) * (1461 * (2 ^ 44 * K)) = (k + 1) * 1461 * 2 ^ 44 * K := by ac_rfl
    have a4 : 1461 * (2 ^ 44 * K) ≤ 2 ^ 36 * K * 2 ^ 20 := by omega
    have a5 : R + 2 ^ 36 * K ≤ (k + 1) * (1461 * (2 ^ 44 * K)) := by omega
    have a6 := Nat.mul_le_mul_right (2 ^ 20) a5
    rw [Nat.add_mul] at a6
    omega
  · have a1 : b.natAbs * 2 ^ 46 - 8592023664092774 + 2 ^ 16 ≤ 2 ^ 70 := by omega
    generalize b.natAbs * 2 ^ 46 - 8592023664092774 = N at *
    generalize (2 : Nat) ^ 1028 = K at *
    have a2 := Nat.mul_le_mul_right K a1
    rw [Nat.add_mul] at a2
    omega

theorem tab4 : ∀ k < 500, isFinite (div (ofInt (k : Nat)) c3061) = true ∧ Flt.toInt floorOf (div (ofInt (k : Nat)) c3061) = 10000 * (k : Int) / 306001 := by decide +kernel
theorem tab5 : ∀ k < 20, isFinite (mul c3061 (ofInt (k : Nat))) = true ∧ Flt.toInt floorOf (mul c3061 (ofInt (k : Nat))) = 306001 * (k : Int) / 10000 := by decide +kernel
theorem tab6 : ∀ k < 20, isFinite (mul c306 (ofInt (k : Nat))) = true ∧ Flt.toInt truncOf (mul c306 (ofInt (k : Nat))) = 306 * (k : Int) / 10 := by decide +kernel
theorem tab7 : ∀ k < 440, isFinite (div (H (2 * ((k : Nat) - 40 : Int))) (H 59)) = true ∧ Flt.toInt ceilOf (div (H (2 * ((k : Nat) - 40 : Int))) (H 59)) = -((-(2 * ((k : Nat) - 40 : Int))) / 59) := by decide +kernel
theorem tab8 : ∀ m < 13, 0 < m → ∀ a < 3, ∀ d < 32, 
    isFinite (add (add (ofFrac (decide (367 * ((m : Nat) : Int) - 362 < 0) != decide ((12 : Int) < 0)) (367 * ((m : Nat) : Int) - 362).natAbs (12 : Int).natAbs) (ofInt (-((a : Nat) : Int)))) (ofInt ((d : Nat) : Int))) = true ∧
    Flt.toInt floorOf (add (add (ofFrac (decide (367 * ((m : Nat) : Int) - 362 < 0) != decide ((12 : Int) < 0)) (367 * ((m : Nat) : Int) - 362).natAbs (12 : Int).natAbs) (ofInt (-((a : Nat) : Int)))) (ofInt ((d : Nat) : Int))) = (367 * ((m : Nat) : Int) - 362) / 12 + -((a : Nat) : Int) + ((d : Nat) : Int) := by decide +kernel
end
section
open PySem PySem.W PySem.Spec PySem.Calls PyProof.Rows
set_option maxRecDepth 100000
set_option exponentiation.threshold 64

abbrev Sm (a : Int) : Prop := -1125899906842624 < a ∧ a < 1125899906842624

theorem lit_half : (0x3fe0000000000000 : UInt64) = H 1 := by decide +kernel
theorem lit_greg : (4700144277945057280 : UInt64) = H 3442851 := by decide +kernel
theorem lit_arm : (4701007892789067776 : UInt64) = H 3845003 := by decide +kernel
theorem lit_sark : (4701801086275551232 : UInt64) = H 4234421 := by decide +kernel
theorem lit_copt : (4700589253736792064 : UInt64) = H 3650059 := by decide +kernel
theorem lit_isl : (4701119295650791424 : UInt64) = H 3896879 := by decide +kernel
theorem lit_may : (4693266160550936576 : UInt64) = H 1168565 := by decide +kernel
theorem lit_pos : (4702353567246188544 : UInt64) = H 4748959 := by decide +kernel
theorem lit_1524 : (0x4097d20000000000 : UInt64) = H 3049 := by decide +kernel
theorem lit_295 : (0x403d800000000000 : UInt64) = H 59 := by decide +kernel

section
variable {prog : Program} {w : World} {A : Around} {E : Value → Shared → Prop} {s : Shared} {t u : Tok} {Q : Value → Shared → Prop} {x y : UInt64} {a b n k : Int}

theorem overNot (h : Sm n) : ¬ Flt.Over n := by
  unfold Flt.Over
  intro q
  have : (2 : Nat) ^ 60 ≤ 2 ^ 1024 - 2 ^ 970 := by decide +kernel
  have h1 := h.1
  have h2 := h.2
  have : n.natAbs < 2 ^ 60 := by omega
  omega

theorem r_add_ff (hx : x = H a) (hy : y = H b) (h1 : Sm a ∧ Sm b) (h : Q (.float (H (a + b)) s.toks) { s with toks := s.toks + 1 }) : wpAny (model prog w) A (binaryOp .Add (.float x t) (.float y u)) Q E s := by
  subst hx hy
  refine add_float ?_
  rw [add_H a b (by omega) (by omega) (by omega)]; exact h
theorem r_sub_ff (hx : x = H a) (hy : y = H b) (h1 : Sm a ∧ Sm b) (h : Q (.float (H (a - b)) s.toks) { s with toks := s.toks + 1 }) : wpAny (model prog w) A (binaryOp .Sub (.float x t) (.float y u)) Q E s := by
  subst hx hy
  refine sub_float ?_
  rw [sub_H a b (by omega) (by omega) (by omega)]; exact h
theorem r_add_fi (hA : A.handled = none) (hx : x = H a) (h1 : Sm a ∧ Sm n) (h : Q (.float (H (a + 2 * n)) s.toks) { s with toks := s.toks + 1 }) : wpAny (model prog w) A (binaryOp .Add (.float x t) (.int n u)) Q E s := by
  subst hx
  refine add_fi_sharp hA (fun o => absurd o (overNot h1.2)) fun _ => ?_
  rw [ofInt_H n (by omega), add_H a (2 * n) (by omega) (by omega) (by omega)]; exact h
theorem r_add_if (hA : A.handled = none) (hx : x = H a) (h1 : Sm a ∧ Sm n) (h : Q (.float (H (2 * n + a)) s.toks) { s with toks := s.toks + 1 }) : wpAny (model prog w) A (binaryOp .Add (.int n u) (.float x t)) Q E s := by
  subst hx
  refine add_if_sharp hA (fun o => absurd o (overNot h1.2)) fun _ => ?_
  rw [ofInt_H n (by omega), add_H (2 * n) a (by omega) (by omega) (by omega)]; exact h
theorem r_sub_fi (hA : A.handled = none) (hx : x = H a) (h1 : Sm a ∧ Sm n) (h : Q (.float (H (a - 2 * n)) s.toks) { s with toks := s.toks + 1 }) : wpAny (model prog w) A (binaryOp .Sub (.float x t) (.int n u)) Q E s := by
  subst hx
  refine sub_fi_sharp hA (fun o => absurd o (overNot h1.2)) fun _ => ?_
  rw [ofInt_H n (by omega), sub_H a (2 * n) (by omega) (by omega) (by omega)]; exact h
theorem r_sub_if (hA : A.handled = none) (hx : x = H a) (h1 : Sm a ∧ Sm n) (h : Q (.float (H (2 * n - a)) s.toks) { s with toks := s.toks + 1 }) : wpAny (model prog w) A (binaryOp .Sub (.int n u) (.float x t)) Q E s := by
  subst hx
  refine sub_if_sharp hA (fun o => absurd o (overNot h1.2)) fun _ => ?_
  rw [ofInt_H n (by omega), sub_H (2 * n) a (by omega) (by omega) (by omega)]; exact h
theorem r_iadd_ff (hx : x = H a) (hy : y = H b) (h1 : Sm a ∧ Sm b) (h : Q (.float (H (a + b)) s.toks) { s with toks := s.toks + 1 }) : wpAny (model prog w) A (inplaceOp .Add (.float x t) (.float y u)) Q E s := by
  subst hx hy
  refine iadd_float ?_
  rw [add_H a b (by omega) (by omega) (by omega)]; exact h
theorem r_iadd_fi (hA : A.handled = none) (hx : x = H a) (h1 : Sm a ∧ Sm n) (h : Q (.float (H (a + 2 * n)) s.toks) { s with toks := s.toks + 1 }) : wpAny (model prog w) A (inplaceOp .Add (.float x t) (.int n u)) Q E s := by
  subst hx
  refine Flt.iadd_fi hA (fun o => absurd o (overNot h1.2)) fun _ => ?_
  rw [ofInt_H n (by omega), add_H a (2 * n) (by omega) (by omega) (by omega)]; exact h
theorem r_iadd_if (hA : A.handled = none) (hx : x = H a) (h1 : Sm a ∧ Sm n) (h : Q (.float (H (2 * n + a)) s.toks) { s with toks := s.toks + 1 }) : wpAny (model prog w) A (inplaceOp .Add (.int n u) (.float x t)) Q E s := by
  subst hx
  refine Flt.iadd_if hA (fun o => absurd o (overNot h1.2)) fun _ => ?_
  rw [ofInt_H n (by omega), add_H (2 * n) a (by omega) (by omega) (by omega)]; exact h
theorem r_isub_fi (hA : A.handled = none) (hx : x = H a) (h1 : Sm a ∧ Sm n) (h : Q (.float (H (a - 2 * n)) s.toks) { s with toks := s.toks + 1 }) : wpAny (model prog w) A (inplaceOp .Sub (.float x t) (.int n u)) Q E s := by
  subst hx
  refine Flt.isub_fi hA (fun o => absurd o (overNot h1.2)) fun _ => ?_
  rw [ofInt_H n (by omega), sub_H a (2 * n) (by omega) (by omega) (by omega)]; exact h

abbrev Sq (a : Int) : Prop := 0 ≤ a ∧ a < 30000000
theorem mul_bound {a n : Int} (ha : Sq a) (hn : Sq n) : 0 ≤ a * n ∧ a * n < 900000000000000 := by
  refine ⟨Int.mul_nonneg ha.1 hn.1, ?_⟩
  have := Int.mul_le_mul_of_nonneg_left (Int.le_of_lt hn.2) ha.1
  omega
theorem r_mul_fi (hA : A.handled = none) (hx : x = H a) (h1 : Sq a ∧ Sq n) (h : Q (.float (H (a * n)) s.toks) { s with toks := s.toks + 1 }) : wpAny (model prog w) A (binaryOp .Mult (.float x t) (.int n u)) Q E s := by
  subst hx
  have hb := mul_bound h1.1 h1.2
  refine mul_fi_sharp hA (fun o => absurd o (overNot (by omega))) fun _ => ?_
  rw [ofInt_H n (by omega), mul_H a n (by omega) (by omega) (by omega) ?_]
  · exact h
  · rw [decide_eq_false (by omega), decide_eq_false (by omega), decide_eq_false (by omega)]; rfl
theorem r_mul_if (hA : A.handled = none) (hx : x = H a) (h1 : Sq a ∧ Sq n) (h : Q (.float (H (n * a)) s.toks) { s with toks := s.toks + 1 }) : wpAny (model prog w) A (binaryOp .Mult (.int n u) (.float x t)) Q E s := by
  subst hx
  have hb := mul_bound h1.1 h1.2
  refine mul_if_sharp hA (fun o => absurd o (overNot (by omega))) fun _ => ?_
  have hcomm : Float64.mul (H (2 * n)) (H a) = H (a * n) := by
    obtain ⟨m, e, hx⟩ := H_decode a (by omega)
    obtain ⟨k, f, hy⟩ := H_decode (2 * n) (by omega)
    have h := Float64.mul_right hy hx
    rw [H_val a (by omega), H_val (2 * n) (by omega), ← cast_pow, natAbs_scale, natAbs_scale] at h
    have e0 : (decide (2 * n < 0) != decide (a < 0)) = decide (a * n < 0) := by
      rw [decide_eq_false (by omega), decide_eq_false (by omega), decide_eq_false (by omega)]; rfl
    rw [e0] at h
    refine H_of_right (a * n) (by omega) (Nat.two_pow_pos 1074) h ?_
    have e1 : (2 * n).natAbs = 2 * n.natAbs := by omega
    rw [e1, Int.natAbs_mul, Nat.pow_succ]
    generalize (2 : Nat) ^ 1073 = K
    ac_rfl
  rw [ofInt_H n (by omega), hcomm, Int.mul_comm]; exact h

theorem noNaN {x : UInt64} (h : Float64.isFinite x = true) (q : Float64.isNaN x = true) : False := by
  unfold Float64.isFinite at h; unfold Float64.isNaN at q
  cases hd : Float64.decode x <;> rw [hd] at h q <;> simp at h q
theorem noInf {x : UInt64} (h : Float64.isFinite x = true) (q : Float64.isInf x = true) : False := by
  unfold Float64.isFinite at h; unfold Float64.isInf at q
  cases hd : Float64.decode x <;> rw [hd] at h q <;> simp at h q

theorem r_floor (hA : A.handled = none) (hk : Float64.isFinite x = true ∧ Flt.toInt Float64.floorOf x = k) (h : Q (.int k s.toks) { s with toks := s.toks + 1 }) : wpAny (model prog w) A (call (.builtin "math.floor") [.float x t]) Q E s :=
  Flt.call_floor_float hA (fun q => (noNaN hk.1 q).elim) (fun q => (noInf hk.1 q).elim) fun _ => by rw [hk.2]; exact h
theorem r_ceil (hA : A.handled = none) (hk : Float64.isFinite x = true ∧ Flt.toInt Float64.ceilOf x = k) (h : Q (.int k s.toks) { s with toks := s.toks + 1 }) : wpAny (model prog w) A (call (.builtin "math.ceil") [.float x t]) Q E s :=
  Flt.call_ceil_float hA (fun q => (noNaN hk.1 q).elim) (fun q => (noInf hk.1 q).elim) fun _ => by rw [hk.2]; exact h
theorem r_trunc (hA : A.handled = none) (hk : Float64.isFinite x = true ∧ Flt.toInt Float64.truncOf x = k) (h : Q (.int k s.toks) { s with toks := s.toks + 1 }) : wpAny (model prog w) A (call (.builtin "math.trunc") [.float x t]) Q E s :=
  Flt.call_trunc_float hA (fun q => (noNaN hk.1 q).elim) (fun q => (noInf hk.1 q).elim) fun _ => by rw [hk.2]; exact h
theorem r_int (hA : A.handled = none) (hk : Float64.isFinite x = true ∧ Flt.toInt Float64.truncOf x = k) (h : Q (.int k s.toks) { s with toks := s.toks + 1 }) : wpAny (model prog w) A (call (.type "int") [.float x t]) Q E s :=
  Flt.call_int_float3 hA (fun q => (noNaN hk.1 q).elim) (fun q => (noInf hk.1 q).elim) fun _ => by rw [hk.2]; exact h

theorem k_floor_H (h1 : Sm a) : Float64.isFinite (H a) = true ∧ Flt.toInt Float64.floorOf (H a) = a / 2 := ⟨H_isFinite a (by omega), floor_H a (by omega)⟩
theorem k_ceil_H (h1 : Sm a) : Float64.isFinite (H a) = true ∧ Flt.toInt Float64.ceilOf (H a) = -(-a / 2) := ⟨H_isFinite a (by omega), ceil_H a (by omega)⟩
theorem k_trunc_H (h1 : Sm a ∧ 0 ≤ a) : Float64.isFinite (H a) = true ∧ Flt.toInt Float64.truncOf (H a) = a / 2 := ⟨H_isFinite a (by omega), trunc_H a (by omega) (by omega)⟩
abbrev Dv (a b : Int) : Prop := (0 ≤ a ∧ a < 4294967296) ∧ (0 < b ∧ b ≤ 1048576)
theorem k_floor_div (h1 : Dv a b) : Float64.isFinite (Float64.div (H a) (H b)) = true ∧ Flt.toInt Float64.floorOf (Float64.div (H a) (H b)) = a / b :=
  let r := div_HH a b h1.1.1 (by omega) h1.2.1 (by omega); ⟨r.1, r.2.1⟩
theorem k_trunc_div (h1 : Dv a b) : Float64.isFinite (Float64.div (H a) (H b)) = true ∧ Flt.toInt Float64.truncOf (Float64.div (H a) (H b)) = a / b :=
  let r := div_HH a b h1.1.1 (by omega) h1.2.1 (by omega); ⟨r.1, r.2.2⟩
/-- the quotient of two ints, as a float -/
def Fr2 (a b : Int) : UInt64 := Float64.ofFrac (decide (a < 0) != decide (b < 0)) a.natAbs b.natAbs
theorem k_floor_fr (h1 : Dv a b) : Float64.isFinite (Fr2 a b) = true ∧ Flt.toInt Float64.floorOf (Fr2 a b) = a / b :=
  let r := div_II a b h1.1.1 (by omega) h1.2.1 (by omega); ⟨r.1, r.2.1⟩
theorem k_trunc_fr (h1 : Dv a b) : Float64.isFinite (Fr2 a b) = true ∧ Flt.toInt Float64.truncOf (Fr2 a b) = a / b :=
  let r := div_II a b h1.1.1 (by omega) h1.2.1 (by omega); ⟨r.1, r.2.2⟩

theorem r_div_fi (hA : A.handled = none) (hx : x = H a) (h1 : Sm n ∧ n ≠ 0) (h : Q (.float (Float64.div (H a) (H (2 * n))) s.toks) { s with toks := s.toks + 1 }) : wpAny (model prog w) A (binaryOp .Div (.float x t) (.int n u)) Q E s := by
  subst hx
  refine Flt.truediv_fi hA (fun o => absurd o (overNot h1.1)) (fun o => absurd o h1.2) fun _ _ => ?_
  rw [ofInt_H n (by omega)]; exact h
theorem r_div_ii (hA : A.handled = none) (h1 : Sm a ∧ n ≠ 0) (h : Q (.float (Fr2 a n) s.toks) { s with toks := s.toks + 1 }) : wpAny (model prog w) A (binaryOp .Div (.int a t) (.int n u)) Q E s := by
  refine Flt.div_ii_fits hA ?_ (fun o => absurd o h1.2) fun _ _ => h
  have : (2 : Nat) ^ 60 ≤ 2 ^ 1023 := by decide +kernel
  omega
theorem r_div_ff (hA : A.handled = none) (hz : Float64.isZero y = false) (h : Q (.float (Float64.div x y) s.toks) { s with toks := s.toks + 1 }) : wpAny (model prog w) A (binaryOp .Div (.float x t) (.float y u)) Q E s :=
  truediv_float_or hA (fun o => by rw [hz] at o; cases o) fun _ => h
theorem r_mod_fi (hA : A.handled = none) (hx : x = H a) (h1 : (0 ≤ a ∧ a < 1125899906842624) ∧ (0 < n ∧ n < 1125899906842624)) (h : Q (.float (H (a % (2 * n))) s.toks) { s with toks := s.toks + 1 }) : wpAny (model prog w) A (binaryOp .Mod (.float x t) (.int n u)) Q E s := by
  subst hx
  refine Flt.mod_fi hA (fun o => absurd o (overNot (by omega))) (fun o => by omega) fun _ _ => ?_
  rw [ofInt_H n (by omega), mod_H a (2 * n) h1.1.1 (by omega) (by omega) (by omega)]; exact h
theorem r_mod_ii (h1 : 0 < n) (h : Q (.int (a % n) s.toks) { s with toks := s.toks + 1 }) : wpAny (model prog w) A (binaryOp .Mod (.int a t) (.int n u)) Q E s := by
  refine mod_int' (by omega) ?_
  rw [Int.fmod_eq_emod_of_nonneg _ (by omega)]; exact h

theorem b_lt (p : Prop) [Decidable p] (o : Ordering) (h : (o = .lt) ↔ p) : (some o == some Ordering.lt) = decide p := by
  by_cases hp : p
  · rw [h.mpr hp]; simp [hp]
  · have : o ≠ .lt := fun q => hp (h.mp q)
    cases o <;> simp_all
theorem b_eq (p : Prop) [Decidable p] (o : Ordering) (h : (o = .eq) ↔ p) : (some o == some Ordering.eq) = decide p := by
  by_cases hp : p
  · rw [h.mpr hp]; simp [hp]
  · have : o ≠ .eq := fun q => hp (h.mp q)
    cases o <;> simp_all
theorem b_ge (p : Prop) [Decidable p] (o : Ordering) (h : (o = .gt ∨ o = .eq) ↔ p) : (some o == some Ordering.gt || some o == some Ordering.eq) = decide p := by
  by_cases hp : p
  · rcases h.mpr hp with q | q <;> simp [q, hp]
  · have : ¬ (o = .gt ∨ o = .eq) := fun q => hp (h.mp q)
    cases o <;> simp_all

theorem r_lt_fi (hx : x = H a) (h1 : Sm a) (h : Q (.bool (decide (a < 2 * n))) s) : wpAny (model prog w) A (compareOp .Lt (.float x t) (.int n u)) Q E s := by
  subst hx
  refine lt_fi ?_
  rw [cmpInt_H a n (by omega), b_lt (a < 2 * n) _ Int.compare_eq_lt]; exact h
theorem r_eq_fi (hx : x = H a) (h1 : Sm a) (h : Q (.bool (decide (a = 2 * n))) s) : wpAny (model prog w) A (compareOp .Eq (.float x t) (.int n u)) Q E s := by
  subst hx
  refine eq_fi ?_
  rw [cmpInt_H a n (by omega), b_eq (a = 2 * n) _ Int.compare_eq_eq]; exact h
theorem r_ge_ff (hx : x = H a) (hy : y = H b) (h1 : Sm a ∧ Sm b) (h : Q (.bool (decide (b ≤ a))) s) : wpAny (model prog w) A (compareOp .GtE (.float x t) (.float y u)) Q E s := by
  subst hx hy
  refine AutoFloatOps.ge_0 ?_
  rw [cmp_H a b (by omega) (by omega), b_ge (b ≤ a) _ ?_]
  · exact h
  · rw [Int.compare_eq_gt, Int.compare_eq_eq]; omega
theorem r_ne_ff (hx : x = H a) (hy : y = H b) (h1 : Sm a ∧ Sm b) (h : Q (.bool (!decide (a = b))) s) : wpAny (model prog w) A (compareOp .NotEq (.float x t) (.float y u)) Q E s := by
  subst hx hy
  refine AutoFloatOps.ne_0 ?_
  have := b_eq (a = b) _ (Int.compare_eq_eq (a := a) (b := b))
  rw [cmp_H a b (by omega) (by omega)]
  unfold bne
  rw [this]; exact h
end

section
variable {M : Model} {A : Around} {E : Value → Shared → Prop} {s : Shared} {Q : Unit → Shared → Prop} {env : Env} {x : Str} {t : Tok}
theorem st_int {e : Int} (h : ∀ z, z = e → wpAny M A (storeName env x (.int z t)) Q E s) : wpAny M A (storeName env x (.int e t)) Q E s := h e rfl
theorem st_flt {e : Int} (h : ∀ z, z = e → wpAny M A (storeName env x (.float (H z) t)) Q E s) : wpAny M A (storeName env x (.float (H e) t)) Q E s := h e rfl
end
end
section
open PySem PySem.W PySem.Spec PySem.Calls PyProof.Rows
set_option maxRecDepth 100000
/-- an equation that the arithmetic does not look at -/
def Eqn (a b : Int) : Prop := a = b
theorem map_toNat_inj : ∀ (a b : List Char), a.map Char.toNat = b.map Char.toNat → a = b
  | [], [], _ => rfl
  | [], _ :: _, h => by cases h
  | _ :: _, [], h => by cases h
  | x :: r, y :: q, h => by
    simp only [List.map_cons, List.cons.injEq] at h
    have h1 : x = y := Char.toNat_inj.mp h.1
    rw [h1, map_toNat_inj r q h.2]
theorem ofString_inj (a b : String) : (Str.ofString a = Str.ofString b) = (a = b) := by
  refine propext ⟨fun h => ?_, fun h => by rw [h]⟩
  rw [Str.ofString_eq_toList, Str.ofString_eq_toList] at h
  have h2 := congrArg Array.toList (Str.mk.inj h)
  exact String.toList_inj.mp (map_toNat_inj _ _ h2)
theorem ofString_beq (a b : String) : (Str.ofString a == Str.ofString b) = (a == b) := by
  rw [Bool.eq_iff_iff, beq_iff_eq, beq_iff_eq, ofString_inj]
theorem look_cons {β : Type} (x y : Str) (v : β) (r : List (Str × β)) : List.lookup x ((y, v) :: r) = if x = y then some v else List.lookup x r := by
  rw [List.lookup_cons]
  by_cases h : x = y
  · subst h; simp
  · rw [if_neg h]; have : (x == y) = false := by simpa using h
    rw [this]
section
variable {prog : Program} {w : World} {A : Around} {E : Value → Shared → Prop} {s : Shared} {t u : Tok} {Q : Value → Shared → Prop} {m : Int}
open PySem.SeqAt PySem.MeetsSeq in
theorem r_in4 {K : Frag} {l : Addr} {h₀ : Heap} {L : Addr} {mp : Str → Option Value} {dd : Option Addr} {n : Nat} {sl : Array (Option Value)} {t1 t2 t3 t4 : Tok} {i1 i2 i3 i4 : Int} (F : Fr h₀ L s.heap mp) (X : K.In h₀)
    (hk : K.lookup l = some ⟨.type "tuple", dd, .seq #[.int i1 t1, .int i2 t2, .int i3 t3, .int i4 t4] n, sl⟩)
    (h : Q (.bool (decide (m = i1 ∨ m = i2 ∨ m = i3 ∨ m = i4))) s) : wpAny (model prog w) A (compareOp .In (.int m u) (.ref l)) Q E s := by
  have ho := F.keep _ _ (X _ _ hk)
  refine in_tupleAt (fun y => match y with | .int i _ => i == m | _ => false) ⟨_, ho, rfl, n, rfl⟩ ?_ ?_
  · intro y hy
    simp only [List.mem_toArray, List.mem_cons, List.not_mem_nil, or_false] at hy
    rcases hy with rfl | rfl | rfl | rfl <;> exact (EqGives.int _ _ _ _).at _ _
  · have e : (#[Value.int i1 t1, Value.int i2 t2, Value.int i3 t3, Value.int i4 t4].any fun y => match y with | .int i _ => i == m | _ => false) = decide (m = i1 ∨ m = i2 ∨ m = i3 ∨ m = i4) := by
      rw [Bool.eq_iff_iff]
      simp only [List.any_toArray, List.any_cons, List.any_nil, Bool.or_false, Bool.or_eq_true, beq_iff_eq, decide_eq_true_eq]; omega
    rw [e]; exact h
theorem r_in4y {K : Frag} {l : Addr} {h₀ : Heap} {L : Addr} {mp : Str → Option Value} {dd : Option Addr} {n : Nat} {sl : Array (Option Value)} {t1 t2 t3 t4 : Tok} {i1 i2 i3 i4 : Int} (F : Fr h₀ L s.heap mp) (X : K.In h₀)
    (hk : K.lookup l = some ⟨.type "tuple", dd, .seq #[.int i1 t1, .int i2 t2, .int i3 t3, .int i4 t4] n, sl⟩) (hy : m = i1 ∨ m = i2 ∨ m = i3 ∨ m = i4)
    (h : Q (.bool true) s) : wpAny (model prog w) A (compareOp .In (.int m u) (.ref l)) Q E s := r_in4 F X hk (by rw [decide_eq_true hy]; exact h)
theorem r_in4n {K : Frag} {l : Addr} {h₀ : Heap} {L : Addr} {mp : Str → Option Value} {dd : Option Addr} {n : Nat} {sl : Array (Option Value)} {t1 t2 t3 t4 : Tok} {i1 i2 i3 i4 : Int} (F : Fr h₀ L s.heap mp) (X : K.In h₀)
    (hk : K.lookup l = some ⟨.type "tuple", dd, .seq #[.int i1 t1, .int i2 t2, .int i3 t3, .int i4 t4] n, sl⟩) (hy : ¬ (m = i1 ∨ m = i2 ∨ m = i3 ∨ m = i4))
    (h : Q (.bool false) s) : wpAny (model prog w) A (compareOp .In (.int m u) (.ref l)) Q E s := r_in4 F X hk (by rw [decide_eq_false hy]; exact h)
end
section
variable {prog : Program} {w : World} {A : Around} {E : Value → Shared → Prop} {s : Shared} {t u : Tok} {Q : Value → Shared → Prop} {a b n : Int} {x y : UInt64}
theorem a_ib_t (h : Q (.int (a + 1) s.toks) { s with toks := s.toks + 1 }) : wpAny (model prog w) A (binaryOp .Add (.int a t) (.bool true)) Q E s := add_int_bool (by simpa using h)
theorem a_ib_f (h : Q (.int (a + 0) s.toks) { s with toks := s.toks + 1 }) : wpAny (model prog w) A (binaryOp .Add (.int a t) (.bool false)) Q E s := add_int_bool (by simpa using h)
theorem s_ib_t (h : Q (.int (a - 1) s.toks) { s with toks := s.toks + 1 }) : wpAny (model prog w) A (binaryOp .Sub (.int a t) (.bool true)) Q E s := IntBool.sub_int_bool (by simpa using h)
theorem s_ib_f (h : Q (.int (a - 0) s.toks) { s with toks := s.toks + 1 }) : wpAny (model prog w) A (binaryOp .Sub (.int a t) (.bool false)) Q E s := IntBool.sub_int_bool (by simpa using h)
theorem c_eq_t (h1 : a = b) (h : Q (.bool true) s) : wpAny (model prog w) A (compareOp .Eq (.int a t) (.int b u)) Q E s := eq_int (by rw [show (a == b) = true from by simp [h1]]; exact h)
theorem c_eq_f (h1 : a ≠ b) (h : Q (.bool false) s) : wpAny (model prog w) A (compareOp .Eq (.int a t) (.int b u)) Q E s := eq_int (by rw [show (a == b) = false from by simp [h1]]; exact h)
theorem c_ne_t (h1 : a ≠ b) (h : Q (.bool true) s) : wpAny (model prog w) A (compareOp .NotEq (.int a t) (.int b u)) Q E s := ne_int (by rw [show (a != b) = true from by simp [h1]]; exact h)
theorem c_ne_f (h1 : a = b) (h : Q (.bool false) s) : wpAny (model prog w) A (compareOp .NotEq (.int a t) (.int b u)) Q E s := ne_int (by rw [show (a != b) = false from by simp [h1]]; exact h)
theorem c_lt_t (h1 : a < b) (h : Q (.bool true) s) : wpAny (model prog w) A (compareOp .Lt (.int a t) (.int b u)) Q E s := lt_int (by rw [decide_eq_true h1]; exact h)
theorem c_lt_f (h1 : ¬ a < b) (h : Q (.bool false) s) : wpAny (model prog w) A (compareOp .Lt (.int a t) (.int b u)) Q E s := lt_int (by rw [decide_eq_false h1]; exact h)
theorem c_le_t (h1 : a ≤ b) (h : Q (.bool true) s) : wpAny (model prog w) A (compareOp .LtE (.int a t) (.int b u)) Q E s := le_int (by rw [decide_eq_true h1]; exact h)
theorem c_le_f (h1 : ¬ a ≤ b) (h : Q (.bool false) s) : wpAny (model prog w) A (compareOp .LtE (.int a t) (.int b u)) Q E s := le_int (by rw [decide_eq_false h1]; exact h)
theorem c_gt_t (h1 : b < a) (h : Q (.bool true) s) : wpAny (model prog w) A (compareOp .Gt (.int a t) (.int b u)) Q E s := gt_int (by rw [decide_eq_true h1]; exact h)
theorem c_gt_f (h1 : ¬ b < a) (h : Q (.bool false) s) : wpAny (model prog w) A (compareOp .Gt (.int a t) (.int b u)) Q E s := gt_int (by rw [decide_eq_false h1]; exact h)
theorem c_ge_t (h1 : b ≤ a) (h : Q (.bool true) s) : wpAny (model prog w) A (compareOp .GtE (.int a t) (.int b u)) Q E s := ge_int (by rw [decide_eq_true h1]; exact h)
theorem c_ge_f (h1 : ¬ b ≤ a) (h : Q (.bool false) s) : wpAny (model prog w) A (compareOp .GtE (.int a t) (.int b u)) Q E s := ge_int (by rw [decide_eq_false h1]; exact h)
theorem f_lt_t (hx : x = H a) (h1 : Sm a ∧ a < 2 * n) (h : Q (.bool true) s) : wpAny (model prog w) A (compareOp .Lt (.float x t) (.int n u)) Q E s := r_lt_fi hx h1.1 (by rw [decide_eq_true h1.2]; exact h)
theorem f_lt_f (hx : x = H a) (h1 : Sm a ∧ ¬ a < 2 * n) (h : Q (.bool false) s) : wpAny (model prog w) A (compareOp .Lt (.float x t) (.int n u)) Q E s := r_lt_fi hx h1.1 (by rw [decide_eq_false h1.2]; exact h)
theorem f_eq_t (hx : x = H a) (h1 : Sm a ∧ a = 2 * n) (h : Q (.bool true) s) : wpAny (model prog w) A (compareOp .Eq (.float x t) (.int n u)) Q E s := r_eq_fi hx h1.1 (by rw [decide_eq_true h1.2]; exact h)
theorem f_eq_f (hx : x = H a) (h1 : Sm a ∧ ¬ a = 2 * n) (h : Q (.bool false) s) : wpAny (model prog w) A (compareOp .Eq (.float x t) (.int n u)) Q E s := r_eq_fi hx h1.1 (by rw [decide_eq_false h1.2]; exact h)
theorem f_ge_t (hx : x = H a) (hy : y = H b) (h1 : (Sm a ∧ Sm b) ∧ b ≤ a) (h : Q (.bool true) s) : wpAny (model prog w) A (compareOp .GtE (.float x t) (.float y u)) Q E s := r_ge_ff hx hy h1.1 (by rw [decide_eq_true h1.2]; exact h)
end
section
variable {M : Model} {A : Around} {E : Value → Shared → Prop} {s : Shared} {K : Frag} {h₀ : Heap} {L a : Addr} {m mg mb : Str → Option Value} {cn : Str} {cs : Scope} {ccd : Value} {cl : List (Str × Addr)} {p : Program} {loose : List Str}
    {x : Str} {pos : Pos} {v : Value} {Q : Value → Shared → Prop}
theorem nmL (F : Fr h₀ L s.heap m) (hv : m x = some v) (h : Q v s)
    (hk : cs.kind = .function) (hx : cs.names.lookup x = some .local) (hd : (x == Str.ofString "__debug__") = false) :
    wpAny M A (eval (.Name x pos) (envX cn cs L a ccd cl)) Q E s := nameX_L F hv h hk hx hd
theorem nmK (F : Fr h₀ L s.heap m) (X : K.In h₀) (T : TopRead p loose mg mb h₀) (e : nsIn K mainGlobals x = some (some v)) (h : Q v s)
    (hk : cs.kind = .function) (hx : cs.names.lookup x = some .globalImplicit) (hd : (x == Str.ofString "__debug__") = false) :
    wpAny M A (eval (.Name x pos) (envX cn cs L a ccd cl)) Q E s := nameX_K F X T e h hk hx hd
end
section
variable {M : Model} {A : Around} {E : Value → Shared → Prop} {s : Shared} {Q : Unit → Shared → Prop} {env : Env} {x : Str} {t : Tok}
theorem st_eqI {e z : Int} (h0 : Eqn e z) (h : wpAny M A (storeName env x (.int z t)) Q E s) : wpAny M A (storeName env x (.int e t)) Q E s := (show e = z from h0) ▸ h
theorem st_eqF {e z : Int} (h0 : Eqn e z) (h : wpAny M A (storeName env x (.float (H z) t)) Q E s) : wpAny M A (storeName env x (.float (H e) t)) Q E s := (show e = z from h0) ▸ h
theorem fl_eq {a b : Int} {t : Tok} (h : a = b) : Value.float (H a) t = Value.float (H b) t := by rw [h]
theorem in_eq {a b : Int} {t : Tok} (h : a = b) : Value.int a t = Value.int b t := by rw [h]
end
end
section
open PySem PySem.W PySem.Spec PySem.Calls PyProof.Rows
set_option maxRecDepth 100000
set_option maxHeartbeats 8000000
theorem slot_iso : Slot "datetime.date" "isocalendar" "datetime.date.isocalendar" :=
  .of (owner := "datetime.date") (n := "isocalendar") (by rw [typeLookup_type, builtinLookup_eq_fast]; kernel_rfl) (by decide +kernel) (by decide +kernel) (by decide +kernel)
    (by first | exact .inl (by decide +kernel) | exact .inr (by decide +kernel)) (by rw [isSubtype_type]; kernel_rfl)
theorem entry_iso : entryFor table "datetime.date.isocalendar" = some Builtin.«datetime.date.isocalendar» := entryFor_of_tree (by kernel_rfl)
theorem args_iso (a : Value) : argsOk "datetime.date.isocalendar" ⟨[a], []⟩ := by unfold argsOk; kernel_rfl
theorem type_iso : typeOf (.builtin "datetime.date.isocalendar") = pure (.type "method_descriptor") := by show builtinType _ = _; rw [builtinType_eq_fast]; kernel_rfl
theorem plain_date : PlainAttrs "datetime.date" := ⟨⟨"object.__getattribute__", by rw [typeLookup_type, builtinLookup_eq_fast]; kernel_rfl, by decide +kernel⟩, by rw [typeLookup_type, builtinLookup_eq_fast]; kernel_rfl⟩
theorem mro_date : mroOf (.type "datetime.date") = pure [.type "datetime.date", .type "object"] := by rw [mroOf_type]; kernel_rfl
theorem lookup_date_new : typeLookup (.type "datetime.date") "__new__" = pure (some (.builtin "datetime.date.__new__")) := by rw [typeLookup_type, builtinLookup_eq_fast]; kernel_rfl
theorem slot_date_init : Slot "datetime.date" "__init__" "object.__init__" :=
  .of (owner := "object") (n := "__init__") (by rw [typeLookup_type, builtinLookup_eq_fast]; kernel_rfl) (by decide +kernel) (by decide +kernel) (by decide +kernel)
    (by first | exact .inl (by decide +kernel) | exact .inr (by decide +kernel)) (by rw [isSubtype_type]; kernel_rfl)
theorem called_date : TypeCalled "datetime.date" "datetime.date.__new__" "object.__init__" :=
  ⟨by decide +kernel, by decide +kernel, ⟨_, _, mro_date⟩, madeBy_type mro_date lookup_date_new (by decide +kernel), by decide +kernel, by rw [isSubtype_type]; kernel_rfl, slot_date_init⟩
theorem typeCall_date (a b c : Value) : checkTypeCall "datetime.date" ⟨[a, b, c], []⟩ = pure () := by kernel_rfl
theorem newCall_date (a b c : Value) : checkBuiltinCall "datetime.date.__new__" ⟨[.type "datetime.date", a, b, c], []⟩ = pure () := by kernel_rfl
theorem entry_date_new : entryFor table "datetime.date.__new__" = some Builtin.«datetime.date.__new__» := entryFor_of_tree (by kernel_rfl)

theorem initArgs_date (obj a b c : Value) : argsOk "object.__init__" ⟨[obj, a, b, c], []⟩ := F.initArgs_range_3 obj a b c
theorem c63 {y : Int} (h : 0 < y ∧ y < 100000) : ¬ (decide (y ≥ 2 ^ 63) || decide (y < -2 ^ 63)) = true := by simp; omega
theorem c31a {y : Int} (h : 0 < y ∧ y < 100000) : ¬ y ≥ 2 ^ 31 := by omega
theorem c31b {y : Int} (h : 0 < y ∧ y < 100000) : ¬ y < -2 ^ 31 := by omega
section
variable {prog : Program} {w : World} {A : Around} {E : Value → Shared → Prop} {s : Shared}
theorem date_new_in (y m d : Int) (t u v : Tok) (hy : 1 ≤ y ∧ y ≤ 9999) (hm : 1 ≤ m ∧ m ≤ 12) (hd : 1 ≤ d ∧ d ≤ Builtin._datetime.daysInMonth y m) (hd2 : d ≤ 31) :
    MeetsIn prog w (Builtin.«datetime.date.__new__» ⟨[.type "datetime.date", .int y t, .int m u, .int d v], []⟩) (fun A R s => R (.ok (.ret (Value.ref s.heap.objs.size))) { s with heap := s.heap.push { cls := Value.type "datetime.date", data := Data.fields #[rawInt y, rawInt m, rawInt d] }, toks := s.toks }) :=
  .of_wp fun A R s h => by
    obtain ⟨hp, g, dd, tk, os⟩ := s
    have hs1 : isSubtype (.type "datetime.date") (.type "datetime.date") = pure true := by rw [isSubtype_type]; kernel_rfl
    have hs2 : isSubtype (.type "datetime.date") (.type "datetime.datetime") = pure false := by rw [isSubtype_type]; kernel_rfl
    have a1 := c63 (y := y) (by omega)
    have a2 := c31a (y := y) (by omega)
    have a3 := c31b (y := y) (by omega)
    have b1 := c63 (y := m) (by omega)
    have b2 := c31a (y := m) (by omega)
    have b3 := c31b (y := m) (by omega)
    have c1 := c63 (y := d) (by omega)
    have c2 := c31a (y := d) (by omega)
    have c3 := c31b (y := d) (by omega)
    have e1 : ¬ (decide (y < 1) || decide (y > 9999)) = true := by simp; omega
    have e2 : ¬ (decide (m < 1) || decide (m > 12)) = true := by simp; omega
    have e3 : ¬ (decide (d < 1) || decide (d > Builtin._datetime.daysInMonth y m)) = true := by simp; omega
    wp_walk
    rw [if_neg a1]
    wp_walk
    rw [if_neg a2]
    wp_walk
    rw [if_neg a3]
    wp_walk
    rw [if_neg b1]
    wp_walk
    rw [if_neg b2]
    wp_walk
    rw [if_neg b3]
    wp_walk
    rw [if_neg c1]
    wp_walk
    rw [if_neg c2]
    wp_walk
    rw [if_neg c3]
    wp_walk
    exact ⟨_, rfl, h⟩
abbrev dateObj (y m d : Int) : Obj := { cls := Value.type "datetime.date", data := Data.fields #[rawInt y, rawInt m, rawInt d] }
theorem call_date {y m d : Int} {t u v : Tok} {Q : Value → Shared → Prop} (hy : 1 ≤ y ∧ y ≤ 9999) (hm : 1 ≤ m ∧ m ≤ 12) (hd : 1 ≤ d ∧ d ≤ Builtin._datetime.daysInMonth y m) (hd2 : d ≤ 31)
    (h : Q (.ref s.heap.objs.size) { s with heap := s.heap.push (dateObj y m d), toks := s.toks }) :
    wpAny (model prog w) A (call (.type "datetime.date") [.int y t, .int m u, .int d v]) Q E s :=
  callType_newIn called_date (by decide) (typeCall_date _ _ _) (newCall_date _ _ _) (fun obj => initArgs_date obj _ _ _) entry_date_new
    (date_new_in y m d t u v hy hm hd hd2) ⟨⟨_, Heap.get?_push_size _ rfl, rfl⟩, h⟩
abbrev isoObj (p : Int × Int × Int) (tk : Nat) : Obj := { cls := Value.type "datetime.IsoCalendarDate", data := Data.seq #[.int p.1 tk, .int p.2.1 (tk + 1), .int p.2.2 (tk + 2)] }
theorem iso_in (y m d : Int) (a : Addr) :
    MeetsIn prog w (Builtin.«datetime.date.isocalendar» ⟨[.ref a], []⟩) (fun A R s => s.heap.get? a = some (dateObj y m d) ∧ R (.ok (.ret (Value.ref s.heap.objs.size))) { s with heap := s.heap.push (isoObj (Builtin._datetime.isoCalendarOf y m d) s.toks), toks := s.toks + 3 }) :=
  .of_wp fun A R s h => by
    obtain ⟨hp, g, dd, tk, os⟩ := s
    obtain ⟨ha, h⟩ := h
    have hs1 : isSubtype (.type "datetime.date") (.type "datetime.date") = pure true := by rw [isSubtype_type]; kernel_rfl
    wp_walk
    exact ⟨_, rfl, h⟩
theorem call_iso {y m d : Int} {a : Addr} {Q : Value → Shared → Prop} (ha : s.heap.get? a = some (dateObj y m d))
    (h : Q (.ref s.heap.objs.size) { s with heap := s.heap.push (isoObj (Builtin._datetime.isoCalendarOf y m d) s.toks), toks := s.toks + 3 }) :
    wpAny (model prog w) A (call (.builtin "datetime.date.isocalendar") [.ref a]) Q E s :=
  call_meetsIn slot_iso ⟨_, ha, rfl⟩ entry_iso (args_iso _) (iso_in y m d a) ⟨ha, h⟩
section
variable {h₀ : Heap} {L : Addr} {mp : Str → Option Value} {news : List (Addr × Obj)}
theorem kd_date {y m d : Int} {t u v : Tok} {Q : Value → Shared → Prop} (F : Fr h₀ L s.heap mp) (N : News h₀ L s.heap news) (hy : 1 ≤ y ∧ y ≤ 9999) (hm : 1 ≤ m ∧ m ≤ 12) (hd : 1 ≤ d ∧ d ≤ Builtin._datetime.daysInMonth y m) (hd2 : d ≤ 31)
    (h : ∀ a h', Fr h₀ L h' mp → News h₀ L h' ((a, dateObj y m d) :: news) → Q (.ref a) { s with heap := h' }) :
    wpAny (model prog w) A (call (.type "datetime.date") [.int y t, .int m u, .int d v]) Q E s :=
  call_date hy hm hd hd2 (h _ _ (F.push _) (N.push F _))
theorem kd_meth {y m d : Int} {a : Addr} {pl : Sem Bool} {Q : Value × List Value → Shared → Prop} (N : News h₀ L s.heap news) (hm : (a, dateObj y m d) ∈ news)
    (h : Q (.builtin "datetime.date.isocalendar", [.ref a]) s) : wpAny (model prog w) A (getMethod (.ref a) (Str.ofString "isocalendar") pl) Q E s :=
  getMethod_builtin ⟨_, (N _ hm).1, rfl⟩ plain_date slot_iso type_iso (fun b e => by cases e; exact ⟨_, (N _ hm).1, rfl⟩) h
theorem kd_iso {y m d : Int} {a : Addr} {Q : Value → Shared → Prop} (F : Fr h₀ L s.heap mp) (N : News h₀ L s.heap news) (hm : (a, dateObj y m d) ∈ news)
    (h : ∀ b h', Fr h₀ L h' mp → News h₀ L h' ((b, isoObj (Builtin._datetime.isoCalendarOf y m d) s.toks) :: news) → Q (.ref b) { s with heap := h', toks := s.toks + 3 }) :
    wpAny (model prog w) A (call (.builtin "datetime.date.isocalendar") [.ref a]) Q E s :=
  call_iso (N _ hm).1 (h _ _ (F.push _) (N.push F _))
end
end
end
section
open PySem PySem.W PySem.Spec PySem.Calls PyProof.Rows
set_option maxRecDepth 100000
set_option maxHeartbeats 8000000
theorem slot_iso_iter : Slot "datetime.IsoCalendarDate" "__iter__" "tuple.__iter__" :=
  .of (owner := "tuple") (n := "__iter__") (by rw [typeLookup_type, builtinLookup_eq_fast]; kernel_rfl) (by decide +kernel) (by decide +kernel) (by decide +kernel)
    (by first | exact .inl (by decide +kernel) | exact .inr (by decide +kernel)) (by rw [isSubtype_type]; kernel_rfl)
theorem len_iso : typeLookup (.type "datetime.IsoCalendarDate") "__len__" = pure (some (.builtin "tuple.__len__")) := by rw [typeLookup_type, builtinLookup_eq_fast]; kernel_rfl
section
variable {prog : Program} {w : World} {A : Around} {E : Value → Shared → Prop} {s : Shared}
theorem iso_pyIter {t : Addr} {o : Obj} {Q : Value → Shared → Prop} (ho : s.heap.get? t = some o) (hc : o.cls = .type "datetime.IsoCalendarDate")
    (hQ : Q (.ref s.heap.objs.size) { s with heap := s.heap.push { cls := .type "tuple_iterator", data := .fields #[.ref t, .int 0 0] } }) :
    wpAny (model prog w) A (pyIter (.ref t)) Q E s := by
  have hT : s.TypeIs (.ref t) "datetime.IsoCalendarDate" := ⟨o, ho, hc⟩
  refine wpAny_pyIter_slot hT slot_iso_iter (wpAny_call_entry slot_iso_iter hT F.entry_tuple_iter ?_ (F.args_tuple_iter_1 _))
  show wpAny _ _ (do ret (← newFields "tuple_iterator" [.ref t, rawInt 0])) _ _ s
  exact wpAny_bind (wpAny_newObj_type (wpAny_pure ⟨_, rfl, "tuple_iterator", _, ⟨_, Heap.get?_push_size _ rfl, rfl⟩, F.slot_tuple_iterator_next.lookup, hQ⟩))
theorem iso_next {it t : Addr} {i : Nat} {items : Array Value} {ol : Obj} {nl : Nat} {x : Value} {Q : Option Value → Shared → Prop} (hit : s.heap.IsTupleIter it t i)
    (hol : s.heap.get? t = some ol) (hdl : ol.data = .seq items nl) (hx : items[i]? = some x)
    (hQ : ∀ h', h'.IsTupleIter it t (i + 1) → Heap.SameBut it s.heap h' → Q (some x) { s with heap := h' }) :
    wpAny (model prog w) A (pyNext (.ref it)) Q E s := by
  obtain ⟨o, ho, hc, hd⟩ := id hit
  unfold pyNext
  refine wpAny_bind (wpAny_attempt (wpAny_callSpecial?_slot (name := Str.ofString "__next__") hit.typeIs F.slot_tuple_iterator_next
    (wpAny_call_entry F.slot_tuple_iterator_next hit.typeIs F.entry_tuple_iterator_next ?_ (F.args_tuple_iterator_next_1 _))))
  show wpAny _ _ (field (.ref it) 0 >>= _) _ _ s
  refine wpAny_bind (wpAny_field ho hd (x := .ref t) rfl ?_)
  show wpAny _ _ (if (Value.ref t == Value.none) = true then _ else _) _ _ s
  rw [if_neg (show ¬ ((Value.ref t == Value.none) = true) from Bool.false_ne_true)]
  show wpAny _ _ (field (.ref it) 1 >>= _) _ _ s
  refine wpAny_bind (wpAny_field ho hd (x := .int i 0) rfl ?_)
  show wpAny _ _ (seqItems? (.ref t) >>= _) _ _ s
  refine wpAny_bind (wpAny_seqItems hol hdl ?_)
  simp only [Int.toNat_natCast, hx]
  refine wpAny_bind (wpAny_setField ho hd (by simp) (wpAny_pure ⟨x, rfl, wpAny_pure (hQ _ ?_ (Heap.SameBut.update ..))⟩))
  exact ⟨_, Heap.get?_update_self _ ho (Obj.isFreed_of_fields (Obj.data_mapFields hd _)), (Obj.cls_mapFields ..).trans hc, by
    rw [Obj.data_mapFields hd]; simp [rawInt]⟩
theorem iso_end {it t : Addr} {i : Nat} {items : Array Value} {ol : Obj} {nl : Nat} {Q : Option Value → Shared → Prop} (hh : A.handled = none)
    (hit : s.heap.IsTupleIter it t i) (hol : s.heap.get? t = some ol) (hdl : ol.data = .seq items nl) (hx : items[i]? = none)
    (hQ : ∀ h', Heap.ExtBut it s.heap h' → Q none { s with heap := h' }) : wpAny (model prog w) A (pyNext (.ref it)) Q E s := by
  obtain ⟨o, ho, hc, hd⟩ := id hit
  unfold pyNext
  refine wpAny_bind (wpAny_attempt (wpAny_callSpecial?_slot (name := Str.ofString "__next__") hit.typeIs F.slot_tuple_iterator_next
    (wpAny_call_entry F.slot_tuple_iterator_next hit.typeIs F.entry_tuple_iterator_next ?_ (F.args_tuple_iterator_next_1 _))))
  show wpAny _ _ (field (.ref it) 0 >>= _) _ _ s
  refine wpAny_bind (wpAny_field ho hd (x := .ref t) rfl ?_)
  show wpAny _ _ (if (Value.ref t == Value.none) = true then _ else _) _ _ s
  rw [if_neg (show ¬ ((Value.ref t == Value.none) = true) from Bool.false_ne_true)]
  show wpAny _ _ (field (.ref it) 1 >>= _) _ _ s
  refine wpAny_bind (wpAny_field ho hd (x := .int i 0) rfl ?_)
  show wpAny _ _ (seqItems? (.ref t) >>= _) _ _ s
  refine wpAny_bind (wpAny_seqItems hol hdl ?_)
  simp only [Int.toNat_natCast, hx]
  refine wpAny_bind (wpAny_rule (wpAny_bind (wpAny_setField ho hd (by simp) ?_)))
  show wpAny _ _ (newExc (.type "StopIteration") [] >>= _) _ _ _
  refine wpAny_bind ?_
  simp only [newExc, newTuple]
  refine wpAny_bind (wpAny_newObj_type ?_ (by size_fits))
  refine wpAny_bind (m := firstArgMember _ _) (wpAny_of_eq (a := Value.none) (by first | rfl | (simp only [firstArgMember]; rfl)) ?_)
  refine wpAny_newObj_type ?_ (by size_fits)
  simp only [raiseNew]
  refine wpAny_bind (wpAny_handled ?_)
  first | rw [show A.in1.handled = none from hh] | rw [hh]
  refine wpAny_bind (wpAny_pure (wpAny_throw ?_))
  refine wpAny_bind (wpAny_isInstance (T := "StopIteration") (b := true) ⟨_, Heap.get?_push_size _ rfl, rfl⟩ isSubtype_stop ?_)
  exact wpAny_pure (hQ _ (((Heap.SameBut.update ..).extBut.push _).push _))

theorem iso_loop {R : Result → Shared → Prop} {I S t : Addr} {items : Array Value} {ol : Obj} {nl : Nat} {res : Value} (hh : A.handled = none) (hdl : ol.data = .seq items nl) (hSI : S ≠ I) (htI : t ≠ I) (htS : t ≠ S) (hn : items.size ≤ sizeLine) :
    ∀ (k i : Nat) (s : Shared) (acc : Array Value) (c : Nat), items.size - i = k → i ≤ items.size → acc.toList = items.toList.take i → s.heap.get? t = some ol → s.heap.IsTupleIter I t i →
      s.heap.get? S = some { cls := .type "list", dict := none, data := .seq acc c, slots := #[] } →
      (∀ h' c', (∀ b o, b ≠ S → b ≠ I → s.heap.get? b = some o → h'.get? b = some o) → h'.get? S = some { cls := .type "list", dict := none, data := .seq items c', slots := #[] } → R (.ok (.ret res)) { s with heap := h' }) →
      codeAny (model prog w) A (.builtin "list.extend.loop" ⟨[.ref S, .ref I, res], []⟩) R s := by
  intro k
  induction k with
  | zero =>
    intro i s acc c hk hi hacc ht hit hS hR
    have hin : i = items.size := by omega
    subst hin
    refine codeAny_builtin F.entry_extend_loop ?_
    rw [Around.under_plainId F.plain_extend_loop _]
    show wpAny _ A.in1 (pyNext (.ref I) >>= _) _ _ s
    refine wpAny_bind (iso_end hh hit ht hdl (by simp) fun h' he => ?_)
    have e : acc = items := by
      have : acc.toList = items.toList := by rw [hacc]; exact List.take_of_length_le (by simp)
      exact Array.toList_inj.mp this
    subst e
    exact wpAny_pure (hR h' c (fun b o _ hb2 e => he b o hb2 e) (he S _ hSI hS))
  | succ k ih =>
    intro i s acc c hk hi hacc ht hit hS hR
    have hlt : i < items.size := by omega
    refine codeAny_builtin F.entry_extend_loop ?_
    rw [Around.under_plainId F.plain_extend_loop _]
    show wpAny _ A.in1 (pyNext (.ref I) >>= _) _ _ s
    refine wpAny_bind (iso_next hit ht hdl (x := items[i]) (by simp [hlt]) fun h' hit' hsb => ?_)
    have hS' : h'.get? S = _ := (hsb.2 S hSI).trans hS
    have ht' : h'.get? t = _ := (hsb.2 t htI).trans ht
    have hal : acc.size = i := by
      have := congrArg List.length hacc
      simp at this; omega
    show wpAny _ A.in1 (updateSeq S (·.push items[i]) >>= _) _ _ _
    refine wpAny_bind ?_
    refine wpAny_updateSeq hS' rfl (wpAny_pure ⟨plainId_quiet F.plain_extend_loop _, ih (i + 1) _ (acc.push items[i]) _ (by omega) hlt ?_ ?_ ?_ (Heap.get?_update_self _ hS' rfl) fun h2 c' hk2 hS2 => ?_⟩)
      (by rw [hal]; omega) (by show (acc.push items[i]).size ≤ sizeLine + 1; rw [Array.size_push, hal]; omega)
    · rw [Array.toList_push, hacc]
      have : items.toList.take (i + 1) = items.toList.take i ++ [items[i]] := by
        rw [List.take_succ]; simp [hlt]
      rw [this]
    · exact (Heap.get?_update_other _ _ (fun h : S = t => htS h.symm)).trans ht'
    · obtain ⟨o, ho, hc, hd⟩ := hit'
      exact ⟨o, (Heap.get?_update_other _ _ hSI).trans ho, hc, hd⟩
    · refine hR h2 c' (fun b o hb1 hb2 e => hk2 b o hb1 hb2 ?_) hS2
      exact (Heap.get?_update_other _ _ (fun h : S = b => hb1 h.symm)).trans ((hsb.2 b hb2).trans e)
end
end
section
open PySem PySem.W PySem.Spec PySem.Calls PyProof.Rows
set_option maxRecDepth 100000
set_option maxHeartbeats 8000000
section
variable {prog : Program} {w : World} {A : Around} {E : Value → Shared → Prop} {s : Shared}
theorem iso_collect {t : Addr} {items : Array Value} {ol : Obj} {nl : Nat} {Q : List Value → Shared → Prop} (hh : A.handled = none) (ht : s.heap.get? t = some ol) (hc : ol.cls = .type "datetime.IsoCalendarDate") (hdl : ol.data = .seq items nl) (hn : items.size ≤ sizeLine)
    (hQ : ∀ h', (∀ b o', s.heap.get? b = some o' → h'.get? b = some o') → Q items.toList { s with heap := h' }) : wpAny (model prog w) A (collect (.ref t)) Q E s := by
  have htS : t ≠ s.heap.objs.size := Nat.ne_of_lt (Heap.lt_size ht)
  unfold collect
  refine wpAny_bind (wpAny_runValue (codeAny_builtin F.entry_proto_collect ?_))
  rw [Around.under_plainId F.plain_proto_collect _]
  show wpAny _ A.in1 (newList [] >>= fun l => again (.builtin "list.__iadd__" ⟨[l, .ref t], []⟩)) _ _ s
  refine wpAny_bind (wpAny_newObj_type ?_)
  refine wpAny_pure ⟨plainId_quiet F.plain_list_iadd _, codeAny_builtin F.entry_list_iadd ?_⟩
  rw [Around.under_plainId F.plain_list_iadd _]
  have ht1 : (s.heap.push { cls := .type "list", data := .seq ([] : List Value).toArray }).get? t = some ol := Heap.get?_push_of_some _ ht
  have hS₁ : (s.heap.push { cls := .type "list", data := .seq ([] : List Value).toArray }).get? s.heap.objs.size = some { cls := .type "list", data := .seq ([] : List Value).toArray } := Heap.get?_push_size _ rfl
  have h1 : Builtin.List.listSameRef (.ref s.heap.objs.size) (.ref t) = false := by simp [Builtin.List.listSameRef, Ne.symm htS]
  show wpAny _ A.in1 (Builtin.List.listExtendWith (.ref s.heap.objs.size) (.ref t) (.ref s.heap.objs.size)) _ _ _
  unfold Builtin.List.listExtendWith
  have hT1 : Shared.TypeIs { s with heap := s.heap.push { cls := .type "list", data := .seq ([] : List Value).toArray } } (.ref t) "datetime.IsoCalendarDate" := ⟨ol, ht1, hc⟩
  refine wpAny_bind (wpAny_typeOf hT1 ?_)
  rw [if_neg (by rw [h1]; decide)]
  refine wpAny_bind (iso_pyIter ht1 hc ?_)
  generalize hh1 : s.heap.push { cls := .type "list", data := .seq ([] : List Value).toArray } = hp1 at *
  have ht2 : (hp1.push { cls := .type "tuple_iterator", data := .fields #[.ref t, .int 0 0] }).get? t = some ol := Heap.get?_push_of_some _ ht1
  have hit2 : (hp1.push { cls := .type "tuple_iterator", data := .fields #[.ref t, .int 0 0] }).IsTupleIter hp1.objs.size t 0 := ⟨_, Heap.get?_push_size _ rfl, rfl, rfl⟩
  have hS2 : (hp1.push { cls := .type "tuple_iterator", data := .fields #[.ref t, .int 0 0] }).get? s.heap.objs.size = some { cls := .type "list", data := .seq ([] : List Value).toArray } := Heap.get?_push_of_some _ hS₁
  have hSI : s.heap.objs.size ≠ hp1.objs.size := Nat.ne_of_lt (Heap.lt_size hS₁)
  have htI : t ≠ hp1.objs.size := Nat.ne_of_lt (Heap.lt_size ht1)
  have hkeep : ∀ b o', s.heap.get? b = some o' → (hp1.push { cls := .type "tuple_iterator", data := .fields #[.ref t, .int 0 0] }).get? b = some o' := fun b o' e => by
    rw [← hh1]; exact Heap.get?_push_of_some _ (Heap.get?_push_of_some _ e)
  have hlt : ∀ b o', s.heap.get? b = some o' → b ≠ s.heap.objs.size ∧ b ≠ hp1.objs.size := fun b o' e => by
    refine ⟨Nat.ne_of_lt (Heap.lt_size e), Nat.ne_of_lt (Heap.lt_size (h := hp1) (o := o') ?_)⟩
    rw [← hh1]; exact Heap.get?_push_of_some _ e
  refine wpAny_bind (wpAny_holding ?_)
  unfold Builtin.List.listLengthHint
  have hT2 : Shared.TypeIs { s with heap := hp1.push { cls := .type "tuple_iterator", data := .fields #[.ref t, .int 0 0] } } (.ref t) "datetime.IsoCalendarDate" := ⟨ol, ht2, hc⟩
  refine wpAny_bind (wpAny_specialOf hT2 len_iso ?_)
  (generalize hid : ("tuple.__len__" : String) = id0; (fail_if_success (clear hid id0)); wp_delta; rw [show splitId id0 = some ("tuple", "__len__") from by subst hid; decide +kernel]; subst hid)
  refine wpAny_bind (wpAny_isInstance (b := true) hT2 (by rw [isSubtype_type]; kernel_rfl) ?_)
  refine wpAny_bind (wpAny_typeOf hT2 ?_)
  refine wpAny_pure ?_
  rw [if_neg (by decide)]
  refine wpAny_pure ⟨plainId_quiet F.plain_extend_loop _, iso_loop hh hdl hSI htI htS hn items.size 0 _ #[] _ (by omega) (Nat.zero_le _) (by simp) ht2 hit2 hS2 fun h' c' hk hS' => ?_⟩
  show wpAny _ A (load s.heap.objs.size >>= _) _ _ _
  refine wpAny_bind (wpAny_load hS' ?_)
  exact wpAny_pure (hQ h' fun b o' e => hk b o' (hlt b o' e).1 (hlt b o' e).2 (hkeep b o' e))
theorem iso_star {h₀ : Heap} {L a : Addr} {mp : Str → Option Value} {news : List (Addr × Obj)} {p : Int × Int × Int} {tk : Nat} {Q : List Value → Shared → Prop} (hh : A.handled = none) (F : Fr h₀ L s.heap mp) (N : News h₀ L s.heap news) (ha : (a, isoObj p tk) ∈ news)
    (h : ∀ h', Fr h₀ L h' mp → News h₀ L h' news → Q [.int p.1 tk, .int p.2.1 (tk + 1), .int p.2.2 (tk + 2)] { s with heap := h' }) : StarOf (model prog w) A E (.ref a) Q s := by
  have D := (N _ ha).1
  have hT' : s.TypeIs (.ref a) "datetime.IsoCalendarDate" := ⟨_, D, rfl⟩
  have z : wpAny (model prog w) A (collect (.ref a)) Q E s := by
    refine iso_collect hh D rfl rfl (Nat.le_of_ble_eq_true rfl) (fun h' hk => h h' ?_ fun p hp => ⟨hk _ _ (N p hp).1, (N p hp).2⟩)
    obtain ⟨oL, es, ep, hL, r⟩ := F.ns
    exact ⟨⟨oL, es, ep, hk _ _ hL, r⟩, fun b x q => hk _ _ (F.keep b x q), F.above⟩
  unfold StarOf notIterableAtAll
  exact wpAny_bind (wpAny_specialOf hT' slot_iso_iter.lookup (wpAny_pure ⟨rfl, z⟩))
end
end
section
open PySem PySem.W PySem.Spec PySem.Calls PyProof.Rows
set_option maxRecDepth 100000
theorem runs_toks {M : Model} {Γ : PySem.Ctx} {p : Pos} {t : Sem PySem.Fin} {fs : List Frame} {s s' : Shared} {e : End} (h : Runs M Γ p t fs s e s') : s.toks ≤ s'.toks := by
  induction h with
  | done | raise | yield => exact Nat.le_refl _
  | fresh _ ih => exact Nat.le_trans (Nat.le_succ _) ih
  | call _ _ ih1 ih2 => exact Nat.le_trans ih1 ih2
  | resumeFresh _ _ _ _ ih1 ih2 => exact Nat.le_trans ih1 ih2
  | resumeSuspended _ _ _ _ ih1 ih2 => exact Nat.le_trans ih1 ih2
  | segRet _ _ ih1 ih2 => exact Nat.le_trans ih1 ih2
  | segGen _ _ ih1 ih2 => exact Nat.le_trans ih1 ih2
  | segSuspGen _ _ _ _ ih1 ih2 => exact Nat.le_trans ih1 ih2
  | _ => assumption
theorem wakes_toks {M : Model} {Γ : PySem.Ctx} {p : Pos} {g : Nat} {r : Resume} {s s' : Shared} {res : GenResult} (h : Wakes M Γ p g r s res s') : s.toks ≤ s'.toks := by
  unfold Wakes at h
  split at h
  · exact h.elim
  · split at h
    · obtain ⟨e, s1, hr, _, _, rfl⟩ := h; exact (runs_toks hr : _)
    · rw [h.2]; exact Nat.le_refl _
    · rw [h.2]; exact Nat.le_refl _
  · obtain ⟨e, s1, hr, _, _, rfl⟩ := h; exact (runs_toks hr : _)
  · rw [h.2]; exact Nat.le_refl _
  · rw [h.2]; exact Nat.le_refl _
theorem wp_toks {α : Type} {M : Model} {Γ : PySem.Ctx} (t : Sem α) : ∀ {Q : α → Pos → Shared → Prop} {E : Value → Pos → Shared → Prop} {p : Pos} {s : Shared} (n : Nat), n ≤ s.toks →
    Sem.wp M Γ t Q E p s → Sem.wp M Γ t (fun a p' s' => n ≤ s'.toks ∧ Q a p' s') E p s := by
  induction t with
  | pure a => intro Q E p s n hn h; exact ⟨hn, h⟩
  | raise e => intro Q E p s n hn h; exact h
  | unsupported | finish | register | yield | fork | await => intro Q E p s n hn h; exact h.elim
  | rule _ k ih => intro Q E p s n hn h; exact ih () n hn h
  | «at» _ k ih => intro Q E p s n hn h; exact ih () n hn h
  | load a _ k ih => intro Q E p s n hn h; obtain ⟨o, h1, h2⟩ := h; exact ⟨o, h1, ih o n hn h2⟩
  | update a _ f k ih => intro Q E p s n hn h; exact ⟨h.1, ih () n hn h.2⟩
  | loadIfAlive a k ih => intro Q E p s n hn h; exact ih _ n hn h
  | point _ k ih => intro Q E p s n hn h; exact ih () n hn h
  | alloc o k ih => intro Q E p s n hn h; exact ih _ n hn h
  | fresh k ih => intro Q E p s n hn h; exact ih _ n (Nat.le_succ_of_le hn) h
  | ask k ih => intro Q E p s n hn h; exact ih _ n hn h
  | choose src m k ih => intro Q E p s n hn h; exact ⟨h.1, ih _ n hn h.2⟩
  | os q _ k ih => intro Q E p s n hn h; exact ih _ n hn h
  | call c hd g l k ih =>
    intro Q E p s n hn h
    obtain ⟨r, s', h1, h2⟩ := h
    exact ⟨r, s', h1, ih r n (Nat.le_trans hn (runs_toks h1)) h2⟩
  | handled own k ih => intro Q E p s n hn h; exact ih _ n hn h
  | genState g k ih => intro Q E p s n hn h; obtain ⟨st, h1, h2⟩ := h; exact ⟨st, h1, ih _ n hn h2⟩
  | newGen c k ih => intro Q E p s n hn h; exact ih _ n hn h
  | resume g r l k ih =>
    intro Q E p s n hn h
    obtain ⟨res, s', h1, h2⟩ := h
    exact ⟨res, s', h1, ih res n (Nat.le_trans hn (wakes_toks h1)) h2⟩
  | stack k ih => intro Q E p s n hn h; exact ih _ n hn h
  | thread k ih => intro Q E p s n hn h; exact ih _ n hn h

section
variable {α : Type} {M : Model} {A : Around} {E : Value → Shared → Prop} {s : Shared}
/-- the marks only grow -/
theorem wpAny_toks {t : Sem α} {Q : α → Shared → Prop} (h : wpAny M A t (fun a s' => s.toks ≤ s'.toks → Q a s') E s) : wpAny M A t Q E s := fun Γ p hΓ => by
  have h1 := wp_toks t s.toks (Nat.le_refl _) (h Γ p hΓ)
  exact Sem.wp_mono M Γ t (fun a _ s' q => q.2 q.1) (fun _ _ _ q => q) p s h1
theorem gen_toks {t : Sem α} {Q : α → Shared → Prop} {hp : Heap} {g : Array GenState} {d : Drawn} {n : Nat} {os : OsState} (h0 : 0 < n) (h : ∀ tk, 0 < tk → wpAny M A t Q E ⟨hp, g, d, tk, os⟩) : wpAny M A t Q E ⟨hp, g, d, n, os⟩ := h n h0
end
end
section
open PySem PySem.W PySem.Spec PySem.Calls PyProof.Rows
open PySem.SeqAt PySem.MeetsSeq PySem.AutoSeq1
set_option maxRecDepth 100000
set_option maxHeartbeats 8000000
theorem slot_iso_eq : Slot "datetime.IsoCalendarDate" "__eq__" "tuple.__eq__" :=
  .of (owner := "tuple") (n := "__eq__") (by rw [typeLookup_type, builtinLookup_eq_fast]; kernel_rfl) (by decide +kernel) (by decide +kernel) (by decide +kernel)
    (by first | exact .inl (by decide +kernel) | exact .inr (by decide +kernel)) (by rw [isSubtype_type]; kernel_rfl)
theorem iso_eqMeets (l b : Addr) (items items2 : Array Value) (hsz : items.size = items2.size) :
    Meets (Builtin.«tuple.__eq__» ⟨[.ref l, .ref b], []⟩)
      (fun A R s => s.heap.get? l = some { cls := .type "datetime.IsoCalendarDate", data := .seq items } ∧ s.heap.get? b = some { cls := .type "datetime.IsoCalendarDate", data := .seq items2 } ∧
        (∀ j (h1 : j < items.size) (h2 : j < items2.size), EqAt A.in1 s items[j] items2[j] true) ∧ R (.ok (.ret (.bool true))) s) :=
  .of_wp fun prog w A R s h => by
    obtain ⟨hp, g, d, tk, os⟩ := s; obtain ⟨hl, hb, he, h⟩ := h
    have f2 : isSubtype (.type "datetime.IsoCalendarDate") (.type "tuple") = pure true := by rw [isSubtype_type]; kernel_rfl
    have hZ : (items.toList.zip items2.toList).length = items.size := by simp [hsz]
    wp_walk using wpAny_loadPart' hl, wpAny_loadPart' hb, wpAny_forIn_list _ (fun rest b s' => b.1 = none ∧ s' = ⟨hp, g, d, tk, os⟩ ∧ ∃ i, rest = (items.toList.zip items2.toList).drop i) _
    case turn =>
      rintro ⟨y, x⟩ rest b s' ⟨hb', rfl, i, hz⟩
      have hlt : i < (items.toList.zip items2.toList).length := by
        rcases Nat.lt_or_ge i (items.toList.zip items2.toList).length with h' | h'
        · exact h'
        · rw [List.drop_of_length_le h'] at hz; cases hz
      have h1 : i < items.size := hZ ▸ hlt
      have h2 : i < items2.size := hsz ▸ h1
      rw [List.drop_eq_getElem_cons hlt] at hz
      injection hz with hyx hrest
      have hy : y = items[i] := by have := congrArg Prod.fst hyx; simpa using this
      have hx : x = items2[i] := by have := congrArg Prod.snd hyx; simpa using this
      subst hy hx
      refine wpAny_bind (he i h1 h2 prog w _ _ ?_)
      wp_walk
      exact ⟨rfl, rfl, i + 1, hrest⟩
    case fin =>
      rintro ⟨b1, b2⟩ s' ⟨hb', rfl, i, hz⟩
      simp only at hb'
      subst hb'
      wp_walk
      exact ⟨_, rfl, by simpa [Builtin.Tuple.tupleCompareSizes, hsz] using h⟩
    case h =>
      exact ⟨rfl, rfl, 0, rfl⟩
section
variable {prog : Program} {w : World} {A : Around} {E : Value → Shared → Prop} {s : Shared} {h₀ : Heap} {L : Addr} {mp : Str → Option Value} {news : List (Addr × Obj)} {Q : Value → Shared → Prop}
theorem iso_eq {a b : Addr} {p : Int × Int × Int} {tk tk2 : Nat} (N : News h₀ L s.heap news) (ha : (a, isoObj p tk) ∈ news) (hb : (b, isoObj p tk2) ∈ news) (hu : A.units < cLine) (h : Q (.bool true) s) :
    wpAny (model prog w) A (compareOp .Eq (.ref a) (.ref b)) Q E s := by
  have da := (N _ ha).1
  have db := (N _ hb).1
  refine richCompare_meets_room (op := .Eq) ⟨_, da, rfl⟩ ⟨_, db, rfl⟩ slot_iso_eq F.entry_tuple_eq (F.args_tuple_eq_2 _ _) (iso_eqMeets a b #[.int p.1 tk, .int p.2.1 (tk + 1), .int p.2.2 (tk + 2)] #[.int p.1 tk2, .int p.2.1 (tk2 + 1), .int p.2.2 (tk2 + 2)] rfl)
    ⟨da, db, ?_, show Value.bool true ≠ Value.notImplemented ∧ Q (.bool true) s from ⟨(fun x => nomatch x), h⟩⟩ hu
  intro j h1 h2
  have e : ∀ (x : Int) (t u : Tok), EqAt A.in1 s (.int x t) (.int x u) true := fun x t u => by
    have := (EqGives.int x x t u).at A.in1 s
    simpa using this
  match j, h1, h2 with
  | 0, _, _ => exact e _ _ _
  | 1, _, _ => exact e _ _ _
  | 2, _, _ => exact e _ _ _
  | n + 3, h1, _ => exact absurd h1 (by simp)
theorem eqAt_int (x : Int) (t u : Tok) : EqAt A s (.int x t) (.int x u) true := by
  have := (EqGives.int x x t u).at A s
  simpa using this
theorem same_flt {M : Model} {B : Around} {E' : Value → Shared → Prop} {y z : UInt64} {u v : Tok} {Q : Bool → Shared → Prop} (hu : u ≠ 0) (hv : v ≠ 0) (hb : NoneBooked s.heap) (hq : ∀ b, Q b s) : wpAny M B (isSame (.float y u) (.float z v)) Q E' s := by
  show wpAny M B (isSame.created (y == z && !Float64.isNaN y) u v) Q E' s
  unfold isSame.created
  refine wpAny_ite ?_
  split
  · rename_i h; simp [hu, hv] at h
  refine wpAny_ite ?_
  split
  · exact wpAny_pure (hq _)
  refine wpAny_ite ?_
  split
  · exact wpAny_pure (hq _)
  refine wpAny_bind (wpAny_sharingNotTold_none hb ?_)
  first | rw [if_neg Bool.false_ne_true] | simp only [Bool.false_eq_true, if_false]
  refine wpAny_bind (wpAny_sharingNotTold_none hb ?_)
  first | rw [if_neg Bool.false_ne_true] | simp only [Bool.false_eq_true, if_false]
  exact wpAny_bind (wpAny_rule (wpAny_bind (wpAny_askSetting (wpAny_pure (hq _)))))
theorem eqAt_flt (n : Int) (hn : Sm n) (t u : Tok) (h1 : t ≠ 0) (h2 : u ≠ 0) (hb : NoneBooked s.heap) : EqAt A s (.float (H n) t) (.float (H n) u) true := fun prog w E Q h => by
  unfold eqBool
  refine wpAny_holding ?_
  refine wpAny_ite_split (fun _ => wpAny_bind (wpAny_rule (wpAny_pure h))) (fun _ => ?_)
  refine wpAny_bind (same_flt h1 h2 hb fun b => ?_)
  cases b with
  | true => exact wpAny_pure h
  | false =>
    have z : wpAny (model prog w) A (compareOp .Eq (.float (H n) t) (.float (H n) u)) (fun v s' => wpAny (model prog w) A (truthOfDropped v) Q E s') E s := by
      refine AutoFloatOps.eq_0 ?_
      rw [cmp_H n n (by omega) (by omega)]
      have : (some (compare n n) == some Ordering.eq) = true := by simp
      rw [this]
      exact wpAny_truthy_bool h
    exact wpAny_bind z
theorem ns_none_of {K : Frag} {h : Heap} {ns : Addr} {mg : Str → Option Value} {n : Str} (X : K.In h) (G : h.Ns ns mg) (e : nsIn K ns n = some none) : mg n = none := by
  obtain ⟨o, es, ep, ho, hd, _, hf⟩ := G
  unfold nsIn at e
  split at e
  · rename_i c d es' n' sl q
    have := X _ _ q
    rw [ho] at this
    cases this
    cases hd
    split at e
    · cases e
    · rename_i he
      rw [← hf]
      unfold nsFind findBy
      rw [← Array.find?_toList, he]
      rfl
  · cases e
theorem noneBooked {K : Frag} {h : Heap} {p : Program} {loose : List Str} {mean : ExcName → Option Value} {mg mb : Str → Option Value} (X : K.In h₀) (T : Top p loose mean mg mb h₀) (F : Fr h₀ L h mp) (e : nsIn K cStatics sharingNotToldKey = some none) : NoneBooked h := by
  obtain ⟨mc, h1, _⟩ := T.nodigits
  exact ⟨mc, h1.keeps F.keep, ns_none_of X h1 e⟩
/-- the items of two tuples are the same, but for their marks -/
inductive Alike : List Value → List Value → Prop
  | nil : Alike [] []
  | int (x : Int) (t u : Tok) {r q : List Value} : Alike r q → Alike (.int x t :: r) (.int x u :: q)
  | flt (n : Int) (hn : Sm n) (t u : Tok) (h1 : t ≠ 0) (h2 : u ≠ 0) {r q : List Value} : Alike r q → Alike (.float (H n) t :: r) (.float (H n) u :: q)
theorem Alike.len {r q : List Value} (h : Alike r q) : r.length = q.length := by induction h <;> simp_all
theorem Alike.at {r q : List Value} (h : Alike r q) (hb : NoneBooked s.heap) : ∀ j (h1 : j < r.length) (h2 : j < q.length), EqAt A s r[j] q[j] true := by
  induction h with
  | nil => intro j h1; exact absurd h1 (by simp)
  | int x t u _ ih => intro j h1 h2; cases j with
    | zero => exact eqAt_int x t u
    | succ j => exact ih j (by simpa using h1) (by simpa using h2)
  | flt n hn t u e1 e2 _ ih => intro j h1 h2; cases j with
    | zero => exact eqAt_flt n hn t u e1 e2 hb
    | succ j => exact ih j (by simpa using h1) (by simpa using h2)
abbrev tupObj (vs : List Value) : Obj := { cls := Value.type "tuple", data := Data.seq vs.toArray }
theorem tup_eq {a b : Addr} {r q : List Value} (N : News h₀ L s.heap news) (ha : (a, tupObj r) ∈ news) (hb : (b, tupObj q) ∈ news) (hu : A.units < cLine) (hs : Alike r q) (hnb : NoneBooked s.heap) (h : Q (.bool true) s) :
    wpAny (model prog w) A (compareOp .Eq (.ref a) (.ref b)) Q E s := by
  have da := (N _ ha).1
  have db := (N _ hb).1
  refine eq_tupleAt (e := fun _ => true) ⟨_, da, rfl, 0, rfl⟩ ⟨_, db, rfl, 0, rfl⟩ hu (fun j h1 h2 => ?_) ?_
  · have := hs.at (A := A.in1) (s := s) hnb j (by simpa using h1) (by simpa using h2)
    simpa using this
  · have e : ((List.range (min r.toArray.size q.toArray.size)).all (fun _ => true) && r.toArray.size == q.toArray.size) = true := by
      simp [hs.len]
    rw [e]; exact h
end
end
section
open PySem PySem.W PyProof.Rows
open_top hd for PySem.Challenge.rw_ak5024_01
end
theorem top_off : True := by
  w_top off
  trivial
theorem pre_real : True := by
  have h1 := @PySem.W.AllLt.eq_1
  have h2 := @PySem.W.AllLt.eq_2
  have h3 := @PySem.W.AllLt.eq_def
  trivial
section
open PySem PySem.W PySem.Spec PySem.Calls PyProof.Rows
set_option maxRecDepth 100000
set_option maxHeartbeats 8000000
/-- P, to be proved apart: by a discharger of simp -/
structure Apart (P : Prop) : Prop where
  get : P
theorem apart {P : Prop} (h : P) : Apart P = True := eq_true ⟨h⟩
abbrev Led := List (Addr × Obj)

def Con (w : World) (f : Addr) (dD uD : Nat) (vs : List Value) (pre : Led → Prop) (post : Led → Value → Prop) : Prop :=
  ∀ (p : Program) (loose : List Str) (mean : ExcName → Option Value) (mg mb : Str → Option Value)
    (dp un : Nat) (gd : Option (List Code)) (cn : Str) (cs : Scope) (a : Addr) (ccd : Value) (cl : List (Str × Addr)) (outer : List Env) (A₀ : Around) (base h₀ : Heap) (L : Addr) (m : Str → Option Value) (news : Led) (s : Shared) (Q E : Value → Shared → Prop),
    Below A₀ base outer h₀ → Fr h₀ L s.heap m → (hd.heap_39 w.params).In h₀ → News h₀ L s.heap news → Top p loose mean mg mb h₀ → cs.kind = .function →
    pre news → dp + dD < recursionLimit → un + uD < cLine → 0 < s.toks →
    (∀ (v : Value) (h' : Heap) (tk' : Nat) (new : Led), Fr h₀ L h' m → News h₀ L h' (new ++ news) → post new v → Q v { s with heap := h', toks := tk' }) →
    wpAny (model PySem.Challenge.rw_ak5024_01.row.prog w) (ktrTop dp un gd cn cs L a ccd cl outer) (call (.ref f) vs) Q E s

section
variable {w : World} {f : Addr} {dD uD : Nat} {vs : List Value} {pre : Led → Prop} {post : Led → Value → Prop} {p : Program} {loose : List Str} {mean : ExcName → Option Value} {mg mb : Str → Option Value}
    {dp un : Nat} {gd : Option (List Code)} {cn : Str} {cs : Scope} {a : Addr} {ccd : Value} {cl : List (Str × Addr)} {outer : List Env} {A₀ : Around} {base h₀ : Heap} {L : Addr} {m : Str → Option Value} {news : Led} {s : Shared} {Q E : Value → Shared → Prop}
theorem Con.use (C : Con w f dD uD vs pre post) (B : Below A₀ base outer h₀) (F : Fr h₀ L s.heap m) (X : (hd.heap_39 w.params).In h₀) (N : News h₀ L s.heap news) (T : Top p loose mean mg mb h₀) (hk : cs.kind = .function)
    (hp : pre news) (hdp : dp + dD < recursionLimit) (hun : un + uD < cLine) (htk : 0 < s.toks)
    (ret : ∀ (v : Value) (h' : Heap) (tk' : Nat) (new : Led), s.toks ≤ tk' → Fr h₀ L h' m → News h₀ L h' (new ++ news) → post new v → Q v { s with heap := h', toks := tk' }) :
    wpAny (model PySem.Challenge.rw_ak5024_01.row.prog w) (ktrTop dp un gd cn cs L a ccd cl outer) (call (.ref f) vs) Q E s :=
  wpAny_toks (C p loose mean mg mb dp un gd cn cs a ccd cl outer A₀ base h₀ L m news s (fun v s' => s.toks ≤ s'.toks → Q v s') E B F X N T hk hp hdp hun htk fun v h' tk' new F' N' q le => ret v h' tk' new le F' N' q)
end

def leapB (y : Int) : Bool := decide (y % 4 = 0 ∧ (y % 100 ≠ 0 ∨ y % 400 = 0))
def mlen (y m : Int) : Int := if m = 2 then (if leapB y = true then 29 else 28) else if m = 4 ∨ m = 6 ∨ m = 9 ∨ m = 11 then 30 else 31
/-- day of the year, from nought -/
def doy (y m d : Int) : Int := (367 * m - 362) / 12 + (if m ≤ 2 then 0 else if leapB y = true then -1 else -2) + d - 1
/-- the days of the years before -/
def gY (y : Int) : Int := 365 * (y - 1) + (y - 1) / 4 - (y - 1) / 100 + (y - 1) / 400
def gJ (y m d : Int) : Int := 1721425 + gY y + doy y m d

theorem leap_iff (y : Int) : leapB y = true ↔ (y % 4 = 0 ∧ (y % 100 ≠ 0 ∨ y % 400 = 0)) := by unfold leapB; exact decide_eq_true_iff
theorem leap_iffF (y : Int) : leapB y = false ↔ ¬ (y % 4 = 0 ∧ (y % 100 ≠ 0 ∨ y % 400 = 0)) := by unfold leapB; exact decide_eq_false_iff_not
theorem mlen_cases {y m d : Int} (h : d ≤ mlen y m) : (m = 2 ∧ leapB y = true ∧ d ≤ 29) ∨ (m = 2 ∧ leapB y = false ∧ d ≤ 28) ∨ (m = 4 ∧ d ≤ 30) ∨ (m = 6 ∧ d ≤ 30) ∨ (m = 9 ∧ d ≤ 30) ∨ (m = 11 ∧ d ≤ 30) ∨ ((m ≠ 2 ∧ m ≠ 4 ∧ m ≠ 6 ∧ m ≠ 9 ∧ m ≠ 11) ∧ d ≤ 31) := by
  unfold mlen at h
  cases hl : leapB y <;> simp only [hl] at h <;> simp only [Bool.false_eq_true, true_and, false_and, false_or, if_true, if_false] at * <;> omega

/-- a date of the Gregorian calendar and its number -/
structure Greg (J y m d : Int) : Prop where
  y1 : 1 ≤ y
  y2 : y < 20000
  m1 : 1 ≤ m
  m2 : m ≤ 12
  d1 : 0 < d
  d2 : d ≤ mlen y m
  eq : J = gJ y m d

theorem months {m : Int} (h1 : 1 ≤ m) (h2 : m ≤ 12) : m = 1 ∨ m = 2 ∨ m = 3 ∨ m = 4 ∨ m = 5 ∨ m = 6 ∨ m = 7 ∨ m = 8 ∨ m = 9 ∨ m = 10 ∨ m = 11 ∨ m = 12 := by omega

/-- what the month's formula gives; adj is the code's own leap_adj -/
theorem doy_month {y m d adj r : Int} (m1 : 1 ≤ m) (m2 : m ≤ 12) (d1 : 0 < d) (d2 : d ≤ mlen y m) (hr : r = doy y m d)
    (ha : adj = if r < 58 + (if leapB y = true then 1 else 0) then 0 else if leapB y = true then 1 else 2) :
    0 ≤ r ∧ r ≤ 364 + (if leapB y = true then 1 else 0) ∧ ((r + adj) * 12 + 373) / 367 = m := by
  have h4 := mlen_cases d2
  unfold doy at hr
  cases hl : leapB y <;> simp only [hl, Bool.false_eq_true, true_and, false_and, false_or, and_false, or_false, if_true, if_false] at * <;>
  (rcases months m1 m2 with h | h | h | h | h | h | h | h | h | h | h | h <;> subst h <;> simp only [show ((1:Int) ≤ 2) = True from by decide, show ((2:Int) ≤ 2) = True from by decide, show ((3:Int) ≤ 2) = False from by decide, show ((4:Int) ≤ 2) = False from by decide, show ((5:Int) ≤ 2) = False from by decide, show ((6:Int) ≤ 2) = False from by decide, show ((7:Int) ≤ 2) = False from by decide, show ((8:Int) ≤ 2) = False from by decide, show ((9:Int) ≤ 2) = False from by decide, show ((10:Int) ≤ 2) = False from by decide, show ((11:Int) ≤ 2) = False from by decide, show ((12:Int) ≤ 2) = False from by decide, if_true, if_false] at hr <;> omega)
/-- the parts of a Gregorian day's number -/
structure GParts (J y r a b e f : Int) : Prop where
  hy : y = 400 * a + 100 * b + 4 * e + f + 1
  hb : 0 ≤ b ∧ b ≤ 3
  he : 0 ≤ e ∧ e ≤ 24
  hf : 0 ≤ f ∧ f ≤ 3
  hJ : J = 1721425 + (146097 * a + 36524 * b + 1461 * e + 365 * f + r)
  hr : 0 ≤ r
  hw : (leapB y = true ∧ f = 3 ∧ (e ≠ 24 ∨ b = 3) ∧ r ≤ 365) ∨ (leapB y = false ∧ (f ≠ 3 ∨ (e = 24 ∧ b ≠ 3)) ∧ r ≤ 364)

theorem gY_parts (y a b e f : Int) (ha : y = 400 * a + 100 * b + 4 * e + f + 1) (hb : 0 ≤ b ∧ b ≤ 3) (he : 0 ≤ e ∧ e ≤ 24) (hf : 0 ≤ f ∧ f ≤ 3) : gY y = 146097 * a + 36524 * b + 1461 * e + 365 * f := by
  have h1 : (y - 1) / 4 = 100 * a + 25 * b + e := by omega
  have h2 : (y - 1) / 100 = 4 * a + b := by omega
  have h3 : (y - 1) / 400 = a := by omega
  unfold gY
  omega
theorem leap_parts (y a b e f : Int) (ha : y = 400 * a + 100 * b + 4 * e + f + 1) (hb : 0 ≤ b ∧ b ≤ 3) (he : 0 ≤ e ∧ e ≤ 24) (hf : 0 ≤ f ∧ f ≤ 3) : leapB y = true ↔ (f = 3 ∧ (e ≠ 24 ∨ b = 3)) := by
  have h1 : y % 4 = 0 ↔ f = 3 := by omega
  have h2 : y % 100 = 0 ↔ (e = 24 ∧ f = 3) := by omega
  have h3 : y % 400 = 0 ↔ (b = 3 ∧ e = 24 ∧ f = 3) := by omega
  rw [leap_iff]
  omega
theorem Greg.parts {J y m d : Int} (G : Greg J y m d) : ∃ a b e f, GParts J y (doy y m d) a b e f := by
  have hm := doy_month G.m1 G.m2 G.d1 G.d2 rfl rfl
  have h1 := G.y1
  have hJ := G.eq
  refine ⟨(y - 1) / 400, (y - 1) % 400 / 100, (y - 1) % 100 / 4, (y - 1) % 4, ?_⟩
  have ha : y = 400 * ((y - 1) / 400) + 100 * ((y - 1) % 400 / 100) + 4 * ((y - 1) % 100 / 4) + (y - 1) % 4 + 1 := by omega
  have hb : 0 ≤ (y - 1) % 400 / 100 ∧ (y - 1) % 400 / 100 ≤ 3 := by omega
  have he : 0 ≤ (y - 1) % 100 / 4 ∧ (y - 1) % 100 / 4 ≤ 24 := by omega
  have hf : 0 ≤ (y - 1) % 4 ∧ (y - 1) % 4 ≤ 3 := by omega
  have hg := gY_parts _ _ _ _ _ ha hb he hf
  have hl := leap_parts _ _ _ _ _ ha hb he hf
  refine ⟨ha, hb, he, hf, ?_, hm.1, ?_⟩
  · unfold gJ at hJ; omega
  · cases hb : leapB y with
    | true => rw [hb] at hl hm; exact .inl ⟨rfl, (hl.mp rfl).1, (hl.mp rfl).2, by simpa using hm.2.1⟩
    | false =>
      rw [hb] at hl hm
      refine .inr ⟨rfl, ?_, by simpa using hm.2.1⟩
      have : ¬ ((y - 1) % 4 = 3 ∧ ((y - 1) % 100 / 4 ≠ 24 ∨ (y - 1) % 400 / 100 = 3)) := fun q => by have := hl.mpr q; cases this
      omega
end
section
open PySem PySem.W PySem.Spec PySem.Calls PyProof.Rows
set_option maxRecDepth 100000
set_option exponentiation.threshold 64
theorem k_floor_mul365 {c : Int} (h : 0 ≤ c ∧ c < 1048576) : Float64.isFinite (Float64.mul c365 (Float64.ofInt c)) = true ∧ Flt.toInt Float64.floorOf (Float64.mul c365 (Float64.ofInt c)) = 1461 * c / 4 := mul365 c h.1 (by omega)
theorem k_floor_jul {b : Int} (h : 1000 ≤ b ∧ b < 8388608) : Float64.isFinite (Float64.div (Float64.sub (Float64.ofInt b) c122) c365) = true ∧ Flt.toInt Float64.floorOf (Float64.div (Float64.sub (Float64.ofInt b) c122) c365) = (20 * b - 2442) / 7305 := jul365 b h.1 (by omega)
theorem k_floor_t4 {k : Int} (h : 0 ≤ k ∧ k < 500) : Float64.isFinite (Float64.div (Float64.ofInt k) c3061) = true ∧ Flt.toInt Float64.floorOf (Float64.div (Float64.ofInt k) c3061) = 10000 * k / 306001 := by
  have := tab4 k.toNat (by omega); have e : ((k.toNat : Nat) : Int) = k := by omega
  rw [e] at this; exact this
theorem k_floor_t5 {k : Int} (h : 0 ≤ k ∧ k < 20) : Float64.isFinite (Float64.mul c3061 (Float64.ofInt k)) = true ∧ Flt.toInt Float64.floorOf (Float64.mul c3061 (Float64.ofInt k)) = 306001 * k / 10000 := by
  have := tab5 k.toNat (by omega); have e : ((k.toNat : Nat) : Int) = k := by omega
  rw [e] at this; exact this
theorem k_trunc_t6 {k : Int} (h : 0 ≤ k ∧ k < 20) : Float64.isFinite (Float64.mul c306 (Float64.ofInt k)) = true ∧ Flt.toInt Float64.truncOf (Float64.mul c306 (Float64.ofInt k)) = 306 * k / 10 := by
  have := tab6 k.toNat (by omega); have e : ((k.toNat : Nat) : Int) = k := by omega
  rw [e] at this; exact this
theorem k_trunc_d365 {a : Int} (h : 0 ≤ a ∧ a < 4294967296) : Float64.isFinite (Float64.div (H a) c365) = true ∧ Flt.toInt Float64.truncOf (Float64.div (H a) c365) = 2 * a / 1461 := div_H365 a h.1 (by omega)
theorem k_ceil_29 {a : Int} (h : a % 2 = 0 ∧ -80 ≤ a ∧ a < 800) : Float64.isFinite (Float64.div (H a) (H 59)) = true ∧ Flt.toInt Float64.ceilOf (Float64.div (H a) (H 59)) = -(-a / 59) := by
  have := tab7 (a / 2 + 40).toNat (by omega); have e : 2 * (((a / 2 + 40).toNat : Nat) - 40 : Int) = a := by omega
  rw [e] at this; exact this
section
variable {prog : Program} {w : World} {A : Around} {E : Value → Shared → Prop} {s : Shared} {t u : Tok} {Q : Value → Shared → Prop} {x y : UInt64} {a b n k : Int}
theorem g_mul_fi (hA : A.handled = none) (h1 : Sm n) (h : Q (.float (Float64.mul x (Float64.ofInt n)) s.toks) { s with toks := s.toks + 1 }) : wpAny (model prog w) A (binaryOp .Mult (.float x t) (.int n u)) Q E s :=
  mul_fi_sharp hA (fun o => absurd o (overNot h1)) fun _ => h
theorem g_sub_if (hA : A.handled = none) (h1 : Sm n) (h : Q (.float (Float64.sub (Float64.ofInt n) x) s.toks) { s with toks := s.toks + 1 }) : wpAny (model prog w) A (binaryOp .Sub (.int n u) (.float x t)) Q E s :=
  sub_if_sharp hA (fun o => absurd o (overNot h1)) fun _ => h
theorem g_div_if (hA : A.handled = none) (h1 : Sm n) (hz : Float64.isZero x = false) (h : Q (.float (Float64.div (Float64.ofInt n) x) s.toks) { s with toks := s.toks + 1 }) : wpAny (model prog w) A (binaryOp .Div (.int n u) (.float x t)) Q E s :=
  Flt.truediv_if hA (fun o => absurd o (overNot h1)) (fun _ o => by rw [hz] at o; cases o) fun _ _ => h
theorem r_div_HH (hA : A.handled = none) (hx : x = H a) (hy : y = H b) (h1 : Sm b ∧ b ≠ 0) (h : Q (.float (Float64.div (H a) (H b)) s.toks) { s with toks := s.toks + 1 }) : wpAny (model prog w) A (binaryOp .Div (.float x t) (.float y u)) Q E s := by
  subst hx hy
  refine r_div_ff hA ?_ h
  rw [isZero_H b (by omega)]; simp [h1.2]
end
section
variable {prog : Program} {w : World} {A : Around} {E : Value → Shared → Prop} {s : Shared} {t u : Tok} {Q : Value → Shared → Prop} {a b : Int}
theorem m_ii_r (h1 : -1000000000 < b ∧ b < 1000000000) (h : Q (.int (a * b) s.toks) { s with toks := s.toks + 1 }) : wpAny (model prog w) A (binaryOp .Mult (.int a t) (.int b u)) Q E s := mul_int h (PySem.IntMulOk.of_right (PySem.intBits_le_64 (by omega) (by omega)))
theorem m_ii_l (h1 : -1000000000 < a ∧ a < 1000000000) (h : Q (.int (a * b) s.toks) { s with toks := s.toks + 1 }) : wpAny (model prog w) A (binaryOp .Mult (.int a t) (.int b u)) Q E s := mul_int h (PySem.IntMulOk.of_left (PySem.intBits_le_64 (by omega) (by omega)))
end
end
section
open PySem PySem.W PySem.Spec PySem.Calls PyProof.Rows
set_option maxRecDepth 100000
set_option maxHeartbeats 8000000
section
variable {M : Model} {A : Around} {E : Value → Shared → Prop} {s : Shared} {env : Env}
theorem methodCall_star {o e : Expr} {name : Str} {apos pos sp : Pos} {Q : Value → Shared → Prop}
    (h : wpAny M A (eval o env) (fun ov s₁ => wpAny M A (getAttr ov name true) (fun f s₂ => wpAny M A (callWith pos f [] (backTo pos (starEach [.Starred e sp] env)) []) Q E s₂) E s₁) E s)
    (he : eval (.Call (.Attribute o name apos) [.Starred e sp] [] pos) env = (do
      let ov ← eval o env
      standAt apos.atName
      let (f, first) ← holding [ov] (do pure (← getAttr ov name true, []))
      callWith pos f first (backTo pos (starEach [.Starred e sp] env)) []) := by rfl) :
    wpAny M A (eval (.Call (.Attribute o name apos) [.Starred e sp] [] pos) env) Q E s := by
  rw [he]
  refine wpAny_bind (wpAny_mono h (fun ov s₁ h₁ => wpAny_bind (wpAny_standAt (wpAny_bind (wpAny_holding (wpAny_bind (wpAny_mono h₁ (fun f s₂ h₂ => wpAny_pure ?_) fun _ _ x => x)))))) fun _ _ x => x)
  exact h₂
theorem callWith_MS {K : Frag} {h₀ : Heap} {L : Addr} {news : List (Addr × Obj)} {q g : Addr} {self : Value} {e : Expr} {p pos : Pos} {first : List Value} {Q : Value → Shared → Prop} (_X : K.In h₀) (_N : News h₀ L s.heap news) (_q : (q, methodObj (.ref g) self) ∈ news) (hf : fnIn K g = true)
    (h : wpAny M A (eval e env) (fun v s₁ => StarOf M A E v (fun vs s₂ => MethP K q g self s₂.heap ∧ wpAny M A (call (.ref q) (first ++ vs)) Q E s₂) s₁) E s)
    (he : starEach [.Starred e p] env = [(true, eval e env)] := by rfl) :
    wpAny M A (callWith pos (.ref q) first (backTo pos (starEach [.Starred e p] env)) []) Q E s := by
  rw [he]
  exact ks_call rfl (keeps_M hf) (ks_lone h)
end
section
variable {prog : Program} {w : World} {A : Around} {E : Value → Shared → Prop} {s : Shared} {t u : Tok} {Q : Value → Shared → Prop} {m : Int}
open PySem.SeqAt PySem.MeetsSeq in
theorem r_in4M {l : Addr} {h₀ : Heap} {L : Addr} {news : Led} {dd : Option Addr} {n : Nat} {sl : Array (Option Value)} {t1 t2 t3 t4 : Tok} {i1 i2 i3 i4 : Int} (N : News h₀ L s.heap news)
    (hk : (l, (⟨.type "tuple", dd, .seq #[.int i1 t1, .int i2 t2, .int i3 t3, .int i4 t4] n, sl⟩ : Obj)) ∈ news)
    (h : Q (.bool (decide (m = i1 ∨ m = i2 ∨ m = i3 ∨ m = i4))) s) : wpAny (model prog w) A (compareOp .In (.int m u) (.ref l)) Q E s := by
  have ho := (N _ hk).1
  refine in_tupleAt (fun y => match y with | .int i _ => i == m | _ => false) ⟨_, ho, rfl, n, rfl⟩ ?_ ?_
  · intro y hy
    simp only [List.mem_toArray, List.mem_cons, List.not_mem_nil, or_false] at hy
    rcases hy with rfl | rfl | rfl | rfl <;> exact (EqGives.int _ _ _ _).at _ _
  · have e : (#[Value.int i1 t1, Value.int i2 t2, Value.int i3 t3, Value.int i4 t4].any fun y => match y with | .int i _ => i == m | _ => false) = decide (m = i1 ∨ m = i2 ∨ m = i3 ∨ m = i4) := by
      rw [Bool.eq_iff_iff]
      simp only [List.any_toArray, List.any_cons, List.any_nil, Bool.or_false, Bool.or_eq_true, beq_iff_eq, decide_eq_true_eq]; omega
    rw [e]; exact h
theorem r_in4My {l : Addr} {h₀ : Heap} {L : Addr} {news : Led} {dd : Option Addr} {n : Nat} {sl : Array (Option Value)} {t1 t2 t3 t4 : Tok} {i1 i2 i3 i4 : Int} (N : News h₀ L s.heap news)
    (hk : (l, (⟨.type "tuple", dd, .seq #[.int i1 t1, .int i2 t2, .int i3 t3, .int i4 t4] n, sl⟩ : Obj)) ∈ news) (hy : m = i1 ∨ m = i2 ∨ m = i3 ∨ m = i4)
    (h : Q (.bool true) s) : wpAny (model prog w) A (compareOp .In (.int m u) (.ref l)) Q E s := r_in4M N hk (by rw [decide_eq_true hy]; exact h)
theorem r_in4Mn {l : Addr} {h₀ : Heap} {L : Addr} {news : Led} {dd : Option Addr} {n : Nat} {sl : Array (Option Value)} {t1 t2 t3 t4 : Tok} {i1 i2 i3 i4 : Int} (N : News h₀ L s.heap news)
    (hk : (l, (⟨.type "tuple", dd, .seq #[.int i1 t1, .int i2 t2, .int i3 t3, .int i4 t4] n, sl⟩ : Obj)) ∈ news) (hy : ¬ (m = i1 ∨ m = i2 ∨ m = i3 ∨ m = i4))
    (h : Q (.bool false) s) : wpAny (model prog w) A (compareOp .In (.int m u) (.ref l)) Q E s := r_in4M N hk (by rw [decide_eq_false hy]; exact h)
end
end
open PySem PySem.W PySem.Spec PySem.Calls PyProof.Rows
local macro_rules | `(tactic| tb_start) => `(tactic| with_reducible first | exact rfl | exact lit_half | exact lit_greg | exact lit_arm | exact lit_sark | exact lit_copt | exact lit_isl | exact lit_may | exact lit_pos | exact lit_1524 | exact lit_295)
local macro_rules | `(tactic| walk_at "binaryOp Mult float int") => `(tactic| (refine' g_mul_fi rfl ?h1 ?_; (case h1 => omega); try dsimp only))
local macro_rules | `(tactic| walk_at "binaryOp Sub int float") => `(tactic| (refine' g_sub_if rfl ?h1 ?_; (case h1 => omega); try dsimp only))
local macro_rules | `(tactic| walk_at "binaryOp Div int float") => `(tactic| (refine' g_div_if rfl ?h1 ?hz ?_; (case h1 => omega); (case hz => decide +kernel); try dsimp only))
local macro_rules | `(tactic| walk_at "binaryOp Div float float") => `(tactic| (refine' r_div_ff rfl ?hz ?_; (case hz => decide +kernel); try dsimp only))
local macro_rules | `(tactic| walk_at "binaryOp Div float float") => `(tactic| (refine' r_div_HH rfl ?hx ?hy ?h1 ?_; (case hx => tb_start); (case hy => tb_start); (case h1 => omega); try dsimp only))
local macro_rules | `(tactic| walk_at "binaryOp Add float float") => `(tactic| (refine' r_add_ff ?hx ?hy ?h1 ?_; (case hx => tb_start); (case hy => tb_start); (case h1 => omega); try dsimp only))
local macro_rules | `(tactic| walk_at "binaryOp Sub float float") => `(tactic| (refine' r_sub_ff ?hx ?hy ?h1 ?_; (case hx => tb_start); (case hy => tb_start); (case h1 => omega); try dsimp only))
local macro_rules | `(tactic| walk_at "inplaceOp Add float float") => `(tactic| (refine' r_iadd_ff ?hx ?hy ?h1 ?_; (case hx => tb_start); (case hy => tb_start); (case h1 => omega); try dsimp only))
local macro_rules | `(tactic| walk_at "binaryOp Add float int") => `(tactic| (refine' r_add_fi rfl ?hx ?h1 ?_; (case hx => tb_start); (case h1 => omega); try dsimp only))
local macro_rules | `(tactic| walk_at "binaryOp Add int float") => `(tactic| (refine' r_add_if rfl ?hx ?h1 ?_; (case hx => tb_start); (case h1 => omega); try dsimp only))
local macro_rules | `(tactic| walk_at "binaryOp Sub float int") => `(tactic| (refine' r_sub_fi rfl ?hx ?h1 ?_; (case hx => tb_start); (case h1 => omega); try dsimp only))
local macro_rules | `(tactic| walk_at "binaryOp Sub int float") => `(tactic| (refine' r_sub_if rfl ?hx ?h1 ?_; (case hx => tb_start); (case h1 => omega); try dsimp only))
local macro_rules | `(tactic| walk_at "inplaceOp Add float int") => `(tactic| (refine' r_iadd_fi rfl ?hx ?h1 ?_; (case hx => tb_start); (case h1 => omega); try dsimp only))
local macro_rules | `(tactic| walk_at "inplaceOp Add int float") => `(tactic| (refine' r_iadd_if rfl ?hx ?h1 ?_; (case hx => tb_start); (case h1 => omega); try dsimp only))
local macro_rules | `(tactic| walk_at "inplaceOp Sub float int") => `(tactic| (refine' r_isub_fi rfl ?hx ?h1 ?_; (case hx => tb_start); (case h1 => omega); try dsimp only))
local macro_rules | `(tactic| walk_at "binaryOp Mult float int") => `(tactic| (refine' r_mul_fi rfl ?hx ?h1 ?_; (case hx => tb_start); (case h1 => omega); try dsimp only))
local macro_rules | `(tactic| walk_at "binaryOp Mult int float") => `(tactic| (refine' r_mul_if rfl ?hx ?h1 ?_; (case hx => tb_start); (case h1 => omega); try dsimp only))
local macro_rules | `(tactic| walk_at "binaryOp Div float int") => `(tactic| (refine' r_div_fi rfl ?hx ?h1 ?_; (case hx => tb_start); (case h1 => omega); try dsimp only))
local macro_rules | `(tactic| walk_at "binaryOp Div int int") => `(tactic| (refine' r_div_ii rfl ?h1 ?_; (case h1 => omega); try dsimp only))
local macro_rules | `(tactic| walk_at "binaryOp Mod float int") => `(tactic| (refine' r_mod_fi rfl ?hx ?h1 ?_; (case hx => tb_start); (case h1 => omega); try dsimp only))
local macro_rules | `(tactic| walk_at "binaryOp Mod int int") => `(tactic| (refine' r_mod_ii ?h1 ?_; (case h1 => omega); try dsimp only))
local macro_rules | `(tactic| walk_at "call builtin:math.floor") => `(tactic| ((with_reducible show wpAny _ _ (call _ [Value.float _ _]) _ _ _); refine' r_floor rfl ?hk ?_; (case hk => tb_rel); try dsimp only))
local macro_rules | `(tactic| walk_at "call builtin:math.ceil") => `(tactic| ((with_reducible show wpAny _ _ (call _ [Value.float _ _]) _ _ _); refine' r_ceil rfl ?hk ?_; (case hk => tb_rel); try dsimp only))
local macro_rules | `(tactic| walk_at "call builtin:math.trunc") => `(tactic| ((with_reducible show wpAny _ _ (call _ [Value.float _ _]) _ _ _); refine' r_trunc rfl ?hk ?_; (case hk => tb_rel); try dsimp only))
local macro_rules | `(tactic| walk_at "call type:int") => `(tactic| ((with_reducible show wpAny _ _ (call _ [Value.float _ _]) _ _ _); refine' r_int rfl ?hk ?_; (case hk => tb_rel); try dsimp only))
local macro_rules | `(tactic| tb_rel) => `(tactic| first | ((with_reducible refine k_floor_mul365 ?_); omega) | ((with_reducible refine k_floor_jul ?_); omega) | ((with_reducible refine k_floor_t4 ?_); omega) | ((with_reducible refine k_floor_t5 ?_); omega) | ((with_reducible refine k_trunc_t6 ?_); omega) | ((with_reducible refine k_trunc_d365 ?_); omega) | ((with_reducible refine k_ceil_29 ?_); omega))
local macro_rules | `(tactic| tb_rel) => `(tactic| first
  | ((with_reducible refine k_floor_H ?_); omega) | ((with_reducible refine k_trunc_H ?_); omega) | ((with_reducible refine k_ceil_H ?_); omega)
  | ((with_reducible refine k_floor_div ?_); omega) | ((with_reducible refine k_trunc_div ?_); omega) | ((with_reducible refine k_floor_fr ?_); omega) | ((with_reducible refine k_trunc_fr ?_); omega))
local macro_rules | `(tactic| walk_at "compareOp Lt float int") => `(tactic| first | (refine' f_lt_t ?hx ?h1 ?_; (case hx => tb_start); (case h1 => omega); try dsimp only) | (refine' f_lt_f ?hx ?h1 ?_; (case hx => tb_start); (case h1 => omega); try dsimp only) | (refine' r_lt_fi ?hx ?h1 ?_; (case hx => tb_start); (case h1 => omega); try dsimp only))
local macro_rules | `(tactic| walk_at "compareOp Eq float int") => `(tactic| first | (refine' f_eq_t ?hx ?h1 ?_; (case hx => tb_start); (case h1 => omega); try dsimp only) | (refine' f_eq_f ?hx ?h1 ?_; (case hx => tb_start); (case h1 => omega); try dsimp only) | (refine' r_eq_fi ?hx ?h1 ?_; (case hx => tb_start); (case h1 => omega); try dsimp only))
local macro_rules | `(tactic| walk_at "compareOp GtE float float") => `(tactic| first | (refine' f_ge_t ?hx ?hy ?h1 ?_; (case hx => tb_start); (case hy => tb_start); (case h1 => omega); try dsimp only) | (refine' r_ge_ff ?hx ?hy ?h1 ?_; (case hx => tb_start); (case hy => tb_start); (case h1 => omega); try dsimp only))
local macro_rules | `(tactic| walk_at "compareOp NotEq float float") => `(tactic| (refine' r_ne_ff ?hx ?hy ?h1 ?_; (case hx => tb_start); (case hy => tb_start); (case h1 => omega); try dsimp only))
local macro_rules | `(tactic| walk_at "storeName int") => `(tactic| (k_here; (first | (with_reducible show wpAny _ _ (storeName _ _ (Value.int (_ + _) _)) _ _ _) | (with_reducible show wpAny _ _ (storeName _ _ (Value.int (_ - _) _)) _ _ _) | (with_reducible show wpAny _ _ (storeName _ _ (Value.int (_ * _) _)) _ _ _) | (with_reducible show wpAny _ _ (storeName _ _ (Value.int (_ / _) _)) _ _ _) | (with_reducible show wpAny _ _ (storeName _ _ (Value.int (_ % _) _)) _ _ _)); first | (refine' st_eqI ?h0 ?_; (case h0 => with_reducible assumption)) | (refine st_int ?_; intro z hz)))
local macro_rules | `(tactic| walk_at "storeName float") => `(tactic| (k_here; (first | (with_reducible show wpAny _ _ (storeName _ _ (Value.float (H (_ + _)) _)) _ _ _) | (with_reducible show wpAny _ _ (storeName _ _ (Value.float (H (_ - _)) _)) _ _ _) | (with_reducible show wpAny _ _ (storeName _ _ (Value.float (H (_ * _)) _)) _ _ _) | (with_reducible show wpAny _ _ (storeName _ _ (Value.float (H (_ / _)) _)) _ _ _) | (with_reducible show wpAny _ _ (storeName _ _ (Value.float (H (_ % _)) _)) _ _ _)); first | (refine' st_eqF ?h0 ?_; (case h0 => with_reducible assumption)) | (refine st_flt ?_; intro z hz)))
local macro_rules | `(tactic| walk_at "exec If") => `(tactic| (k_here; refine wpAny_If ?_))
local macro_rules | `(tactic| walk_at "compareOp In int ref") => `(tactic| (k_here; (with_reducible rename Fr _ _ _ _ => kF); k_dflt (first | (refine' r_in4y kF ?k1 ?k2 ?k3 ?_; (case k1 => k_asm); (case k2 => k_is); (case k3 => omega)) | (refine' r_in4n kF ?k1 ?k2 ?k3 ?_; (case k1 => k_asm); (case k2 => k_is); (case k3 => omega)))))
local macro_rules | `(tactic| walk_at "eval Name") => `(tactic| (k_here; k_dflt (first
  | (refine' nmL ?F ?v ?_ ?a ?b ?c; (case b => kernel_rfl); (case c => kernel_rfl); (case a => exact rfl); (case F => k_asm); (case v => ((simp only [ofString_inj, String.reduceEq, if_true, if_false, look_cons, List.reverse_cons, List.reverse_nil, List.nil_append, List.cons_append]); exact rfl)); k_whole)
  | (refine' nmK ?F ?X ?T ?e ?_ ?a ?b ?c; (case b => kernel_rfl); (case c => kernel_rfl); (case a => exact rfl); (case F => k_asm); (case X => k_asm); (case T => k_asm); (case e => k_is); k_whole))))
local macro_rules | `(tactic| walk_at "compareOp Eq int int") => `(tactic| first | (refine' c_eq_t ?h1 ?_; (case h1 => omega)) | (refine' c_eq_f ?h1 ?_; (case h1 => omega)))
local macro_rules | `(tactic| walk_at "compareOp NotEq int int") => `(tactic| first | (refine' c_ne_t ?h1 ?_; (case h1 => omega)) | (refine' c_ne_f ?h1 ?_; (case h1 => omega)))
local macro_rules | `(tactic| walk_at "compareOp Lt int int") => `(tactic| first | (refine' c_lt_t ?h1 ?_; (case h1 => omega)) | (refine' c_lt_f ?h1 ?_; (case h1 => omega)))
local macro_rules | `(tactic| walk_at "compareOp LtE int int") => `(tactic| first | (refine' c_le_t ?h1 ?_; (case h1 => omega)) | (refine' c_le_f ?h1 ?_; (case h1 => omega)))
local macro_rules | `(tactic| walk_at "compareOp Gt int int") => `(tactic| first | (refine' c_gt_t ?h1 ?_; (case h1 => omega)) | (refine' c_gt_f ?h1 ?_; (case h1 => omega)))
local macro_rules | `(tactic| walk_at "compareOp GtE int int") => `(tactic| first | (refine' c_ge_t ?h1 ?_; (case h1 => omega)) | (refine' c_ge_f ?h1 ?_; (case h1 => omega)))
local macro_rules | `(tactic| walk_at "ite") => `(tactic| first | (with_reducible refine ite_tt ?_) | (with_reducible refine ite_ff ?_))
local macro_rules | `(tactic| walk_at "eval Call Name") => `(tactic| (k_here; (with_reducible show wpAny _ _ (eval (Expr.Call (Expr.Name _ _) _ [] _) _) _ _ _); k_dflt (refine Call_ ?_)))
local macro_rules | `(tactic| walk_at "binaryOp Add int bool") => `(tactic| ((first | with_reducible refine a_ib_t ?_ | with_reducible refine a_ib_f ?_); try dsimp only))
local macro_rules | `(tactic| walk_at "binaryOp Sub int bool") => `(tactic| ((first | with_reducible refine s_ib_t ?_ | with_reducible refine s_ib_f ?_); try dsimp only))
local macro_rules | `(tactic| walk_at "execs cons") => `(tactic| (k_here; (refine gen_toks (by first | exact Nat.succ_pos _ | assumption | omega) ?_); intro tk htk; (with_reducible refine wpAny_execs_cons ?_); try dsimp only))
local macro_rules | `(tactic| walk_at "execs nil") => `(tactic| (k_here; (with_reducible refine wpAny_execs_nil ?_); try dsimp only))
local macro_rules | `(tactic| walk_at "forall") => `(tactic| (intro le8; (try dsimp only at le8)))
local macro_rules | `(tactic| walk_at "exec Try") => `(tactic| (k_here; (fail_if_success (with_reducible show wpAny _ _ _ (fun _ s' => _ ≤ Shared.toks s' → _) _ _)); refine wpAny_toks ?_))
local macro_rules | `(tactic| walk_at "exec Assign cons") => `(tactic| (k_here; (with_reducible show wpAny _ _ (exec (Stmt.Assign [Expr.Tuple _ _ _] _ _) _) _ _ _); (fail_if_success (with_reducible show wpAny _ _ _ (fun _ s' => _ ≤ Shared.toks s' → _) _ _)); refine wpAny_toks ?_))
local macro_rules | `(tactic| walk_at "binaryOp Mult int int") => `(tactic| first | ((with_reducible refine' m_ii_r ?h1 ?_); (case h1 => decide)) | ((with_reducible refine' m_ii_l ?h1 ?_); (case h1 => decide)))
local macro_rules | `(tactic| walk_at "exec Assign cons") => `(tactic| (k_here; (with_reducible show wpAny _ _ (exec (Stmt.Assign [Expr.Name _ _] _ _) _) _ _ _); k_dflt (refine wpAny_Assign_Name ?_)))
local macro_rules | `(tactic| walk_at "spliced") => `(tactic| ((with_reducible show wpAny _ _ (spliced (backTo _ (starEach (_ :: _) _))) _ _ _); k_dflt (refine args_cons ?_)))
local macro_rules | `(tactic| walk_at "callWith") => `(tactic| ((with_reducible show wpAny _ _ (callWith _ (Value.builtin _) _ (backTo _ (starEach (_ :: _) _)) _) _ _ _); k_dflt (refine callWith_method1 ?_)))
local macro_rules | `(tactic| walk_at "execs cons Assign cons") => `(tactic| (k_here; (refine gen_toks (by first | exact Nat.succ_pos _ | assumption | omega) ?_); intro tk htk; (with_reducible refine wpAny_execs_cons ?_); try dsimp only))
local macro_rules | `(tactic| walk_at "call ref") => `(tactic| kxt_pos)
section
theorem drop1 {h₀ h : Heap} {L : Addr} {x y : Addr × Obj} {ns : Led} (N : News h₀ L h (x :: y :: ns)) : News h₀ L h ([x] ++ ns) := N.perm fun p hp => by
  rcases List.mem_cons.1 hp with e | e
  · exact e ▸ List.mem_cons_self
  · exact List.mem_cons_of_mem _ (List.mem_cons_of_mem _ e)
section
variable {prog : Program} {w : World} {A : Around} {h₀ : Heap} {L : Addr} {m : Str → Option Value} {news : Led} {s : Shared} {Q E : Value → Shared → Prop} {t u : Tok}
theorem min_t {a b : Int} (hh : A.handled = none) (F : Fr h₀ L s.heap m) (N : News h₀ L s.heap news) (h1 : b < a)
    (h : ∀ h' tk, s.toks ≤ tk → Fr h₀ L h' m → News h₀ L h' news → Q (.int b u) { s with heap := h', toks := tk }) : wpAny (model prog w) A (call (.builtin "min") [.int a t, .int b u]) Q E s :=
  wpAny_toks (min_two_N hh F N fun h' tk F N => by simp only [if_pos h1]; exact fun le => h h' tk le F N)
theorem min_f {a b : Int} (hh : A.handled = none) (F : Fr h₀ L s.heap m) (N : News h₀ L s.heap news) (h1 : ¬ b < a)
    (h : ∀ h' tk, s.toks ≤ tk → Fr h₀ L h' m → News h₀ L h' news → Q (.int a t) { s with heap := h', toks := tk }) : wpAny (model prog w) A (call (.builtin "min") [.int a t, .int b u]) Q E s :=
  wpAny_toks (min_two_N hh F N fun h' tk F N => by simp only [if_neg h1]; exact fun le => h h' tk le F N)
end
end
local macro_rules | `(tactic| walk_at "call builtin:min") => `(tactic| ((with_reducible show wpAny _ _ (call (Value.builtin _) [Value.int _ _, Value.int _ _]) _ _ _); k_here; (rename News _ _ _ _ => kN); (rename Fr _ _ _ _ => kF); (first | (refine' min_t ?hh kF kN ?h1 ?_; (case h1 => omega); (case hh => with_unfolding_all rfl)) | (refine' min_f ?hh kF kN ?h1 ?_; (case h1 => omega); (case hh => with_unfolding_all rfl))); clear kN; intro _ _ le8 _ _; (try dsimp only at le8)))
local macro_rules | `(tactic| walk_at "call type:datetime.date") => `(tactic| (k_here; (rename News _ _ _ _ => kN); (rename Fr _ _ _ _ => kF); refine' kd_date kF kN ?h1 ?h2 ?h3 ?h4 ?_; (case h1 => omega); (case h2 => omega); (case h3 => assumption); (case h4 => omega); clear kN; intro a7 h7 F7 N7; try dsimp only))
local macro_rules | `(tactic| walk_at "getMethod ref") => `(tactic| (k_here; (rename News _ _ _ _ => kN); refine' kd_meth kN ?h1 ?_; (case h1 => exact List.mem_cons_self); try dsimp only))
local macro_rules | `(tactic| walk_at "call builtin:datetime.date.isocalendar") => `(tactic| (k_here; (rename News _ _ _ _ => kN); (rename Fr _ _ _ _ => kF); refine' kd_iso kF kN ?h1 ?_; (case h1 => exact List.mem_cons_self); clear kN; intro a6 h6 F6 N6; try dsimp only))
local macro_rules | `(tactic| walk_at "StarOf ref") => `(tactic| (k_here; (rename News _ _ _ _ => kN); (rename Fr _ _ _ _ => kF); refine' iso_star ?hh kF kN ?h1 ?_; (case hh => with_unfolding_all rfl); (case h1 => first | assumption | exact List.mem_cons_self); clear kN; intro _ _ _; try dsimp only))
local macro_rules | `(tactic| walk_at "eval Call Attribute") => `(tactic| (k_here; (with_reducible show wpAny _ _ (eval (Expr.Call (Expr.Attribute _ _ _) [Expr.Starred _ _] [] _) _) _ _ _); refine methodCall_star ?_))
local macro_rules | `(tactic| walk_at "callWith ref") => `(tactic| (k_here; (with_reducible show wpAny _ _ (callWith _ (Value.ref _) _ (backTo _ (starEach [Expr.Starred _ _] _)) []) _ _ _); k_dflt (refine' callWith_MS ?k1 ?k2 ?k3 ?k4 ?_; (case k1 => k_asm); (case k2 => k_asm); (case k3 => k_mem); (case k4 => k_is); k_whole)))
section
theorem con_isleap (w : World) (y : Int) (t : Tok) (b : Bool) : Con w 102 1 8 [.int y t] (fun _ => leapB y = b) (fun new v => new = [] ∧ v = .bool b) := Apart.get (by simp (disch := k_dflt (
  unfold Con
  k_fill
  intro p loose mean mg mb dp un gd cn cs a ccd cl outer A₀ base h₀ L m news s Q E B F X N T hk hpre hdp hun htk0 hret
  subst hpre
  (refine wpAny_call ?_; refine' code_def (binds := [(Str.ofString "year", Value.int y t)]) B F X N T rfl rfl hk ?k6 ?k7 ?k8 ?k9 ?kB ?_ ?c2 ?c3 ?c4 ?c5; (case k6 => k_is); (case k7 => k_is); (case k8 => ktr_room); (case k9 => first | exact BindsTo.of_eq rfl | exact binds_K (by k_in) rfl (by k_is) rfl rfl rfl); (case kB => exact locs rfl); (case c2 => exact rfl); (case c3 => exact rfl); (case c4 => exact rfl); (case c5 => decide); intro g' L' h' FG' F' N' B' X' T'; dsimp only; k_fold)
  k_steps
  all_goals (refine hret _ _ _ [] (by k_asm) (by k_asm) ⟨rfl, ?_⟩)
  all_goals (congr 1; rw [Bool.eq_iff_iff]; simp only [leapB, beq_iff_eq, bne_iff_ne, decide_eq_true_eq]; omega)
  )) only [↓apart])
local macro_rules | `(tactic| kxt_pos) => `(tactic| (k_here; (with_reducible show wpAny _ _ (call (Value.ref 102) [Value.int _ _]) _ _ _); k_dflt (refine' Con.use (con_isleap _ _ _ _) ?k1 ?k2 ?k3 ?k4 ?k5 ?kK ?kp ?kd ?ku ?k0 ?_; (case k1 => k_asm); (case k2 => k_asm); (case k3 => k_asm); (case k4 => k_asm); (case k5 => k_asm); (case kK => first | exact rfl | assumption); (case kp => first | assumption | exact rfl); (case kd => ktr_room); (case ku => ktr_units); (case k0 => (dsimp only; omega))); intro v9 h9 tk9 new9 le9 F9 N9 p9; (try dsimp only at le9); obtain ⟨e9, e8⟩ := p9; subst e9 e8; (try simp only [List.nil_append, List.cons_append] at N9); (try dsimp only); (try k_sweep); (try k_fold)))

theorem mlen_cases4 {y m d : Int} (h : d ≤ mlen y m) : (m = 2 ∧ leapB y = true ∧ d ≤ 29) ∨ (m = 2 ∧ leapB y = false ∧ d ≤ 28) ∨ ((m = 4 ∨ m = 6 ∨ m = 9 ∨ m = 11) ∧ d ≤ 30) ∨ ((m ≠ 2 ∧ m ≠ 4 ∧ m ≠ 6 ∧ m ≠ 9 ∧ m ≠ 11) ∧ d ≤ 31) := by
  rcases mlen_cases h with h | h | h | h | h | h | h
  · exact .inl h
  · exact .inr (.inl h)
  · exact .inr (.inr (.inl ⟨.inl h.1, h.2⟩))
  · exact .inr (.inr (.inl ⟨.inr (.inl h.1), h.2⟩))
  · exact .inr (.inr (.inl ⟨.inr (.inr (.inl h.1)), h.2⟩))
  · exact .inr (.inr (.inl ⟨.inr (.inr (.inr h.1)), h.2⟩))
  · exact .inr (.inr (.inr h))
theorem con_legal (w : World) (y m d : Int) (t u v : Tok) : Con w 109 2 16 [.int y t, .int m u, .int d v] (fun _ => 0 < d ∧ d ≤ mlen y m) (fun new v => new = [] ∧ v = .bool true) := Apart.get (by simp (disch := k_dflt (
  unfold Con
  k_fill
  intro p loose mean mg mb dp un gd cn cs a ccd cl outer A₀ base h₀ L ma news s Q E B F X N T hk hpre hdp hun htk0 hret
  obtain ⟨hd0, hm⟩ := hpre
  replace hm := mlen_cases4 hm
  rcases hm with ⟨rfl, hl, hd1⟩ | ⟨rfl, hl, hd1⟩ | ⟨hm, hd1⟩ | ⟨hm, hd1⟩
  · (refine wpAny_call ?_; refine' code_def (binds := [(Str.ofString "year", Value.int y t), (Str.ofString "month", Value.int 2 u), (Str.ofString "day", Value.int d v)]) B F X N T rfl rfl hk ?k6 ?k7 ?k8 ?k9 ?kB ?_ ?c2 ?c3 ?c4 ?c5; (case k6 => k_is); (case k7 => k_is); (case k8 => ktr_room); (case k9 => first | exact BindsTo.of_eq rfl | exact binds_K (by k_in) rfl (by k_is) rfl rfl rfl); (case kB => exact locs rfl); (case c2 => exact rfl); (case c3 => exact rfl); (case c4 => exact rfl); (case c5 => decide); intro g' L' h' FG' F' N' B' X' T'; dsimp only; k_fold)
    k_steps
    all_goals (refine hret _ _ _ [] (by k_asm) (by k_asm) ⟨rfl, rfl⟩)
  · (refine wpAny_call ?_; refine' code_def (binds := [(Str.ofString "year", Value.int y t), (Str.ofString "month", Value.int 2 u), (Str.ofString "day", Value.int d v)]) B F X N T rfl rfl hk ?k6 ?k7 ?k8 ?k9 ?kB ?_ ?c2 ?c3 ?c4 ?c5; (case k6 => k_is); (case k7 => k_is); (case k8 => ktr_room); (case k9 => first | exact BindsTo.of_eq rfl | exact binds_K (by k_in) rfl (by k_is) rfl rfl rfl); (case kB => exact locs rfl); (case c2 => exact rfl); (case c3 => exact rfl); (case c4 => exact rfl); (case c5 => decide); intro g' L' h' FG' F' N' B' X' T'; dsimp only; k_fold)
    k_steps
    all_goals (refine hret _ _ _ [] (by k_asm) (by k_asm) ⟨rfl, rfl⟩)
  · (refine wpAny_call ?_; refine' code_def (binds := [(Str.ofString "year", Value.int y t), (Str.ofString "month", Value.int m u), (Str.ofString "day", Value.int d v)]) B F X N T rfl rfl hk ?k6 ?k7 ?k8 ?k9 ?kB ?_ ?c2 ?c3 ?c4 ?c5; (case k6 => k_is); (case k7 => k_is); (case k8 => ktr_room); (case k9 => first | exact BindsTo.of_eq rfl | exact binds_K (by k_in) rfl (by k_is) rfl rfl rfl); (case kB => exact locs rfl); (case c2 => exact rfl); (case c3 => exact rfl); (case c4 => exact rfl); (case c5 => decide); intro g' L' h' FG' F' N' B' X' T'; dsimp only; k_fold)
    k_steps
    all_goals (refine hret _ _ _ [] (by k_asm) (by k_asm) ⟨rfl, rfl⟩)
  · (refine wpAny_call ?_; refine' code_def (binds := [(Str.ofString "year", Value.int y t), (Str.ofString "month", Value.int m u), (Str.ofString "day", Value.int d v)]) B F X N T rfl rfl hk ?k6 ?k7 ?k8 ?k9 ?kB ?_ ?c2 ?c3 ?c4 ?c5; (case k6 => k_is); (case k7 => k_is); (case k8 => ktr_room); (case k9 => first | exact BindsTo.of_eq rfl | exact binds_K (by k_in) rfl (by k_is) rfl rfl rfl); (case kB => exact locs rfl); (case c2 => exact rfl); (case c3 => exact rfl); (case c4 => exact rfl); (case c5 => decide); intro g' L' h' FG' F' N' B' X' T'; dsimp only; k_fold)
    k_steps
    all_goals (refine hret _ _ _ [] (by k_asm) (by k_asm) ⟨rfl, rfl⟩)
  )) only [↓apart])
local macro_rules | `(tactic| kxt_pos) => `(tactic| (k_here; (with_reducible show wpAny _ _ (call (Value.ref 109) [Value.int _ _, Value.int _ _, Value.int _ _]) _ _ _); k_dflt (refine' Con.use (con_legal _ _ _ _ _ _ _) ?k1 ?k2 ?k3 ?k4 ?k5 ?kK ?kp ?kd ?ku ?k0 ?_; (case k1 => k_asm); (case k2 => k_asm); (case k3 => k_asm); (case k4 => k_asm); (case k5 => k_asm); (case kK => first | exact rfl | assumption); (case kp => first | assumption | omega); (case kd => ktr_room); (case ku => ktr_units); (case k0 => (dsimp only; omega))); intro v9 h9 tk9 new9 le9 F9 N9 p9; (try dsimp only at le9); obtain ⟨e9, e8⟩ := p9; subst e9 e8; (try simp only [List.nil_append, List.cons_append] at N9); (try dsimp only); (try k_sweep); (try k_fold)))
theorem k_tab8 {m d a : Int} (hm : 1 ≤ m ∧ m ≤ 12) (ha : -2 ≤ a ∧ a ≤ 0) (hd : 1 ≤ d ∧ d ≤ 31) : Float64.isFinite (Float64.add (Float64.add (Fr2 (367 * m - 362) 12) (Float64.ofInt a)) (Float64.ofInt d)) = true ∧ Flt.toInt Float64.floorOf (Float64.add (Float64.add (Fr2 (367 * m - 362) 12) (Float64.ofInt a)) (Float64.ofInt d)) = (367 * m - 362) / 12 + a + d := by
  have h := tab8 m.toNat (by omega) (by omega) (-a).toNat (by omega) d.toNat (by omega)
  have e1 : ((m.toNat : Nat) : Int) = m := by omega
  have e2 : -(((-a).toNat : Nat) : Int) = a := by omega
  have e3 : ((d.toNat : Nat) : Int) = d := by omega
  rw [e1, e2, e3] at h
  exact h
local macro_rules | `(tactic| tb_rel) => `(tactic| ((with_reducible refine k_tab8 ?_ ?_ ?_) <;> omega))
theorem gJ_exp (y m d : Int) : gJ y m d = 1721424 + 365 * (y - 1) + (y - 1) / 4 - (y - 1) / 100 + (y - 1) / 400 + ((367 * m - 362) / 12 + (if m ≤ 2 then 0 else if leapB y = true then -1 else -2) + d) := by unfold gJ gY doy; omega
theorem gJ_bound {y m d : Int} (hy : 1 ≤ y ∧ y < 1000000) (h2 : 1 ≤ m ∧ m ≤ 12) (h3 : 0 < d) (h4 : d ≤ mlen y m) : 1721425 ≤ gJ y m d ∧ gJ y m d < 400000000 := by
  have h := doy_month h2.1 h2.2 h3 h4 rfl rfl
  have h5 : doy y m d ≤ 365 := by have := h.2.1; split at this <;> omega
  unfold gJ gY; omega
theorem con_tojd (w : World) (y m d : Int) (t u v : Tok) : Con w 116 3 24 [.int y t, .int m u, .int d v] (fun _ => (1 ≤ y ∧ y < 1000000) ∧ (1 ≤ m ∧ m ≤ 12) ∧ 0 < d ∧ d ≤ mlen y m) (fun new v => new = [] ∧ (1721425 ≤ gJ y m d ∧ gJ y m d < 400000000) ∧ ∃ tk, tk ≠ 0 ∧ v = .float (H (2 * gJ y m d + 1)) tk) := Apart.get (by simp (disch := k_dflt (
  unfold Con
  k_fill
  intro p loose mean mg mb dp un gd cn cs a ccd cl outer A₀ base h₀ L ma news s Q E B F X N T hk hpre hdp hun htk0 hret
  obtain ⟨hy, hmm, hd0, hm⟩ := hpre
  have hd31 : d ≤ 31 := by have := mlen_cases hm; omega
  have hmp : 0 < d ∧ d ≤ mlen y m := ⟨hd0, hm⟩
  by_cases hm2 : m ≤ 2
  · (refine wpAny_call ?_; refine' code_def (binds := [(Str.ofString "year", Value.int y t), (Str.ofString "month", Value.int m u), (Str.ofString "day", Value.int d v)]) B F X N T rfl rfl hk ?k6 ?k7 ?k8 ?k9 ?kB ?_ ?c2 ?c3 ?c4 ?c5; (case k6 => k_is); (case k7 => k_is); (case k8 => ktr_room); (case k9 => first | exact BindsTo.of_eq rfl | exact binds_K (by k_in) rfl (by k_is) rfl rfl rfl); (case kB => exact locs rfl); (case c2 => exact rfl); (case c3 => exact rfl); (case c4 => exact rfl); (case c5 => decide); intro g' L' h' FG' F' N' B' X' T'; dsimp only; k_fold)
    k_steps
    all_goals (refine hret _ _ _ [] (by k_asm) (by k_asm) ⟨rfl, gJ_bound hy hmm hd0 hm, _, Nat.succ_ne_zero _, fl_eq ?_⟩; rw [gJ_exp, if_pos hm2]; omega)
  · cases hl : leapB y
    · (refine wpAny_call ?_; refine' code_def (binds := [(Str.ofString "year", Value.int y t), (Str.ofString "month", Value.int m u), (Str.ofString "day", Value.int d v)]) B F X N T rfl rfl hk ?k6 ?k7 ?k8 ?k9 ?kB ?_ ?c2 ?c3 ?c4 ?c5; (case k6 => k_is); (case k7 => k_is); (case k8 => ktr_room); (case k9 => first | exact BindsTo.of_eq rfl | exact binds_K (by k_in) rfl (by k_is) rfl rfl rfl); (case kB => exact locs rfl); (case c2 => exact rfl); (case c3 => exact rfl); (case c4 => exact rfl); (case c5 => decide); intro g' L' h' FG' F' N' B' X' T'; dsimp only; k_fold)
      k_steps
      all_goals (refine hret _ _ _ [] (by k_asm) (by k_asm) ⟨rfl, gJ_bound hy hmm hd0 hm, _, Nat.succ_ne_zero _, fl_eq ?_⟩; rw [gJ_exp, if_neg hm2, if_neg (by rw [hl]; decide)]; omega)
    · (refine wpAny_call ?_; refine' code_def (binds := [(Str.ofString "year", Value.int y t), (Str.ofString "month", Value.int m u), (Str.ofString "day", Value.int d v)]) B F X N T rfl rfl hk ?k6 ?k7 ?k8 ?k9 ?kB ?_ ?c2 ?c3 ?c4 ?c5; (case k6 => k_is); (case k7 => k_is); (case k8 => ktr_room); (case k9 => first | exact BindsTo.of_eq rfl | exact binds_K (by k_in) rfl (by k_is) rfl rfl rfl); (case kB => exact locs rfl); (case c2 => exact rfl); (case c3 => exact rfl); (case c4 => exact rfl); (case c5 => decide); intro g' L' h' FG' F' N' B' X' T'; dsimp only; k_fold)
      k_steps
      all_goals (refine hret _ _ _ [] (by k_asm) (by k_asm) ⟨rfl, gJ_bound hy hmm hd0 hm, _, Nat.succ_ne_zero _, fl_eq ?_⟩; rw [gJ_exp, if_neg hm2, if_pos hl]; omega)
  )) only [↓apart])
theorem mlen_ge (y m d : Int) (h : d ≤ 28) : d ≤ mlen y m := by unfold mlen; split <;> (try split) <;> omega
theorem tojd_pre {y m d : Int} (h1 : 1 ≤ y ∧ y < 1000000) (h2 : 1 ≤ m ∧ m ≤ 12) (h3 : 0 < d ∧ d ≤ 28) : (1 ≤ y ∧ y < 1000000) ∧ (1 ≤ m ∧ m ≤ 12) ∧ 0 < d ∧ d ≤ mlen y m := ⟨h1, h2, h3.1, mlen_ge y m d h3.2⟩
local macro_rules | `(tactic| kxt_pos) => `(tactic| (k_here; (with_reducible show wpAny _ _ (call (Value.ref 116) [Value.int _ _, Value.int _ _, Value.int _ _]) _ _ _); k_dflt (refine' Con.use (con_tojd _ _ _ _ _ _ _) ?k1 ?k2 ?k3 ?k4 ?k5 ?kK ?kp ?kd ?ku ?k0 ?_; (case k1 => k_asm); (case k2 => k_asm); (case k3 => k_asm); (case k4 => k_asm); (case k5 => k_asm); (case kK => first | exact rfl | assumption); (case kp => first | ((refine tojd_pre ?_ ?_ ?_) <;> omega) | omega); (case kd => ktr_room); (case ku => ktr_units); (case k0 => (dsimp only; omega))); intro v9 h9 tk9 new9 le9 F9 N9 p9; (try dsimp only at le9); obtain ⟨e9, b9, t9, n9, e8⟩ := p9; subst e9 e8; (try simp only [List.nil_append, List.cons_append] at N9); (try dsimp only); (try k_sweep); (try k_fold)))
end
section
local macro_rules | `(tactic| kxt_pos) => `(tactic| (k_here; (with_reducible show wpAny _ _ (call (Value.ref 102) [Value.int _ _]) _ _ _); k_dflt (refine' Con.use (con_isleap _ _ _ _) ?k1 ?k2 ?k3 ?k4 ?k5 ?kK ?kp ?kd ?ku ?k0 ?_; (case k1 => k_asm); (case k2 => k_asm); (case k3 => k_asm); (case k4 => k_asm); (case k5 => k_asm); (case kK => first | exact rfl | assumption); (case kp => first | assumption | exact rfl); (case kd => ktr_room); (case ku => ktr_units); (case k0 => (dsimp only; omega))); intro v9 h9 tk9 new9 le9 F9 N9 p9; (try dsimp only at le9); obtain ⟨e9, e8⟩ := p9; subst e9 e8; (try simp only [List.nil_append, List.cons_append] at N9); (try dsimp only); (try k_sweep); (try k_fold)))
local macro_rules | `(tactic| kxt_pos) => `(tactic| (k_here; (with_reducible show wpAny _ _ (call (Value.ref 109) [Value.int _ _, Value.int _ _, Value.int _ _]) _ _ _); k_dflt (refine' Con.use (con_legal _ _ _ _ _ _ _) ?k1 ?k2 ?k3 ?k4 ?k5 ?kK ?kp ?kd ?ku ?k0 ?_; (case k1 => k_asm); (case k2 => k_asm); (case k3 => k_asm); (case k4 => k_asm); (case k5 => k_asm); (case kK => first | exact rfl | assumption); (case kp => first | assumption | omega); (case kd => ktr_room); (case ku => ktr_units); (case k0 => (dsimp only; omega))); intro v9 h9 tk9 new9 le9 F9 N9 p9; (try dsimp only at le9); obtain ⟨e9, e8⟩ := p9; subst e9 e8; (try simp only [List.nil_append, List.cons_append] at N9); (try dsimp only); (try k_sweep); (try k_fold)))
local macro_rules | `(tactic| kxt_pos) => `(tactic| (k_here; (with_reducible show wpAny _ _ (call (Value.ref 116) [Value.int _ _, Value.int _ _, Value.int _ _]) _ _ _); k_dflt (refine' Con.use (con_tojd _ _ _ _ _ _ _) ?k1 ?k2 ?k3 ?k4 ?k5 ?kK ?kp ?kd ?ku ?k0 ?_; (case k1 => k_asm); (case k2 => k_asm); (case k3 => k_asm); (case k4 => k_asm); (case k5 => k_asm); (case kK => first | exact rfl | assumption); (case kp => first | ((refine tojd_pre ?_ ?_ ?_) <;> omega) | omega); (case kd => ktr_room); (case ku => ktr_units); (case k0 => (dsimp only; omega))); intro v9 h9 tk9 new9 le9 F9 N9 p9; (try dsimp only at le9); obtain ⟨e9, b9, t9, n9, e8⟩ := p9; subst e9 e8; (try simp only [List.nil_append, List.cons_append] at N9); (try dsimp only); (try k_sweep); (try k_fold)))
/-- what from_jd of the Gregorian calendar reckons on its way -/
structure GSteps (J y W E0 E1 E2 E3 a c n yi y1 : Int) : Prop where
  bJ : 1721425 ≤ J ∧ J < 20000000
  bD : ((0 ≤ W ∧ W < 40000001) ∧ (0 ≤ E0 ∧ E0 < 40000000)) ∧ (0 ≤ E1 ∧ E1 < 400000) ∧ (0 ≤ E2 ∧ E2 < 400000) ∧ (0 ≤ E3 ∧ E3 < 400000)
  hW : W = 2 * J + 1
  s1 : Eqn (2 * ((2 * J + 1 - 1) / 2) + 1) W
  s2 : Eqn (W - 3442851) E0
  s3 : Eqn (E0 / (2 * 146097)) a
  s4 : Eqn (E0 % (2 * 146097)) E1
  s5 : Eqn (E1 / (2 * 36524)) c
  s6 : Eqn (E1 % (2 * 36524)) E2
  s7 : Eqn (E2 / (2 * 1461)) n
  s8 : Eqn (E2 % (2 * 1461)) E3
  s9 : Eqn (E3 / (2 * 365)) yi
  s10 : Eqn (a * 400 + c * 100 + n * 4 + yi) y1
theorem GParts.steps {J y r a b e f : Int} (P : GParts J y r a b e f) (hy : 1 ≤ y ∧ y < 20000) : ∃ W E0 E1 E2 E3 c n yi y1, GSteps J y W E0 E1 E2 E3 a c n yi y1 ∧
    ((c = 4 ∧ yi ≠ 4 ∧ y1 = y ∧ leapB y = true ∧ r = 365) ∨ (c ≠ 4 ∧ yi = 4 ∧ y1 = y ∧ leapB y = true ∧ r = 365) ∨ (c ≠ 4 ∧ yi ≠ 4 ∧ Eqn (y1 + 1) y)) := by
  obtain ⟨h1, h2, h3, h4, h5, h6, h7⟩ := P
  have bJ : 1721425 ≤ J ∧ J < 20000000 := by omega
  by_cases q : r = 365
  · by_cases q1 : e = 24
    · refine ⟨2 * J + 1, 2 * (J - 1721425), 2 * 146096, 0, 0, 4, 0, 0, y, ⟨bJ, by omega, rfl, ?_, ?_, ?_, ?_, ?_, ?_, ?_, ?_, ?_, ?_⟩, .inl ⟨rfl, by omega, rfl, ?_, q⟩⟩
      rotate_right
      · rcases h7 with h | h
        · exact h.1
        · omega
      all_goals (unfold Eqn; omega)
    · refine ⟨2 * J + 1, 2 * (J - 1721425), 2 * (36524 * b + 1461 * e + 365 * f + r), 2 * (1461 * e + 365 * f + r), 2 * 1460, b, e, 4, y, ⟨bJ, by omega, rfl, ?_, ?_, ?_, ?_, ?_, ?_, ?_, ?_, ?_, ?_⟩, .inr (.inl ⟨by omega, rfl, rfl, ?_, q⟩)⟩
      rotate_right
      · rcases h7 with h | h
        · exact h.1
        · omega
      all_goals (unfold Eqn; omega)
  · have hr : r ≤ 364 := by omega
    refine ⟨2 * J + 1, 2 * (J - 1721425), 2 * (36524 * b + 1461 * e + 365 * f + r), 2 * (1461 * e + 365 * f + r), 2 * (365 * f + r), b, e, f, y - 1, ⟨bJ, by omega, rfl, ?_, ?_, ?_, ?_, ?_, ?_, ?_, ?_, ?_, ?_⟩, .inr (.inr ⟨by omega, by omega, ?_⟩)⟩
    all_goals (unfold Eqn; omega)
theorem gJ_jan {J y m d W : Int} (h : J = gJ y m d) (hW : W = 2 * J + 1) : Eqn (W - (2 * gJ y 1 1 + 1)) (2 * doy y m d) := by
  have e : doy y 1 1 = 0 := by unfold doy; simp
  unfold Eqn
  unfold gJ at *; omega
theorem gJ_day {J y m d W : Int} (h : J = gJ y m d) (hW : W = 2 * J + 1) : W - (2 * gJ y m 1 + 1) = 2 * (d - 1) := by
  unfold gJ doy at *; omega
theorem month_eqn {y m d R adj : Int} (m1 : 1 ≤ m) (m2 : m ≤ 12) (d1 : 0 < d) (d2 : d ≤ mlen y m) (hr : R = 2 * doy y m d) (lp : Int) (hl : lp = if leapB y = true then 1 else 0)
    (ha : adj = if R < 2 * (58 + lp) then 0 else if leapB y = true then 1 else 2) : Eqn (((R + 2 * adj) * 12 + 2 * 373) / (2 * 367)) m := by
  have h := (doy_month (adj := adj) m1 m2 d1 d2 rfl (by
    rw [ha, hr, hl]
    have e : (2 * doy y m d < 2 * (58 + if leapB y = true then 1 else 0)) = (doy y m d < 58 + if leapB y = true then 1 else 0) := by
      refine propext ⟨fun h => by omega, fun h => by omega⟩
    simp only [e])).2.2
  unfold Eqn
  omega
theorem con_fromjd (w : World) (J y m d : Int) (t : Tok) (G : Greg J y m d) : Con w 123 4 32 [.float (H (2 * J + 1)) t] (fun _ => True) (fun new v => ∃ a t1 t2 t3, new = [(a, { cls := .type "tuple", data := .seq #[.int y t1, .int m t2, .int d t3] })] ∧ v = .ref a) := Apart.get (by simp (disch := k_dflt (
  unfold Con
  k_fill
  intro p loose mean mg mb dp un gd cn cs a ccd cl outer A₀ base h₀ L ma news s Q E B F X N T hk hpre hdp hun htk0 hret
  have hy : 1 ≤ y ∧ y < 20000 := ⟨G.y1, G.y2⟩
  obtain ⟨ca, cb, ce, cf, P⟩ := G.parts
  obtain ⟨W, E0, E1, E2, E3, c, n, yi, y1, S, hS⟩ := P.steps hy
  obtain ⟨bJ, bD, hW, s1, s2, s3, s4, s5, s6, s7, s8, s9, s10⟩ := S
  have e1 := gJ_jan G.eq hW
  have e2 := gJ_day G.eq hW
  have e3 : Eqn ((W - (2 * gJ y m 1 + 1)) / 2 + 1) d := by unfold Eqn; omega
  have hm12 := And.intro G.m1 G.m2
  have hd1 := G.d1
  obtain ⟨hd0, hd2, _⟩ := doy_month G.m1 G.m2 G.d1 G.d2 rfl rfl
  have hmon := fun R hR lp hl adj ha => month_eqn (R := R) (adj := adj) G.m1 G.m2 G.d1 G.d2 hR lp hl ha
  clear P G
  generalize hR : 2 * doy y m d = R at *
  generalize doy y m d = r at *
  rcases hS with ⟨hc, hyi, hy1, hl, hr⟩ | ⟨hc, hyi, hy1, hl, hr⟩ | ⟨hc, hyi, hy1⟩
  · subst hy1
    have e4 := hmon R rfl 1 (by rw [if_pos hl]) 1 (by rw [if_neg (by omega), if_pos hl])
    clear hmon hd2
    (refine wpAny_call ?_; refine' code_def (binds := [(Str.ofString "jd", Value.float (H (2 * J + 1)) t)]) B F X N T rfl rfl hk ?k6 ?k7 ?k8 ?k9 ?kB ?_ ?c2 ?c3 ?c4 ?c5; (case k6 => k_is); (case k7 => k_is); (case k8 => ktr_room); (case k9 => first | exact BindsTo.of_eq rfl | exact binds_K (by k_in) rfl (by k_is) rfl rfl rfl); (case kB => exact locs rfl); (case c2 => exact rfl); (case c3 => exact rfl); (case c4 => exact rfl); (case c5 => decide); intro g' L' h' FG' F' N' B' X' T'; dsimp only; k_fold)
    k_steps
    all_goals (refine hret _ _ _ [_] (by k_asm) (by k_asm) ⟨_, _, _, _, rfl, rfl⟩)
  · subst hy1
    have e4 := hmon R rfl 1 (by rw [if_pos hl]) 1 (by rw [if_neg (by omega), if_pos hl])
    clear hmon hd2
    (refine wpAny_call ?_; refine' code_def (binds := [(Str.ofString "jd", Value.float (H (2 * J + 1)) t)]) B F X N T rfl rfl hk ?k6 ?k7 ?k8 ?k9 ?kB ?_ ?c2 ?c3 ?c4 ?c5; (case k6 => k_is); (case k7 => k_is); (case k8 => ktr_room); (case k9 => first | exact BindsTo.of_eq rfl | exact binds_K (by k_in) rfl (by k_is) rfl rfl rfl); (case kB => exact locs rfl); (case c2 => exact rfl); (case c3 => exact rfl); (case c4 => exact rfl); (case c5 => decide); intro g' L' h' FG' F' N' B' X' T'; dsimp only; k_fold)
    k_steps
    all_goals (refine hret _ _ _ [_] (by k_asm) (by k_asm) ⟨_, _, _, _, rfl, rfl⟩)
  · cases hl : leapB y
    · by_cases hlt : R < 2 * (58 + 0)
      · have e4 := hmon R rfl 0 (by rw [hl]; rfl) 0 (by rw [if_pos hlt])
        rw [hl] at hd2
        simp only [Bool.false_eq_true, if_false] at hd2
        clear hmon
        (refine wpAny_call ?_; refine' code_def (binds := [(Str.ofString "jd", Value.float (H (2 * J + 1)) t)]) B F X N T rfl rfl hk ?k6 ?k7 ?k8 ?k9 ?kB ?_ ?c2 ?c3 ?c4 ?c5; (case k6 => k_is); (case k7 => k_is); (case k8 => ktr_room); (case k9 => first | exact BindsTo.of_eq rfl | exact binds_K (by k_in) rfl (by k_is) rfl rfl rfl); (case kB => exact locs rfl); (case c2 => exact rfl); (case c3 => exact rfl); (case c4 => exact rfl); (case c5 => decide); intro g' L' h' FG' F' N' B' X' T'; dsimp only; k_fold)
        k_steps
        all_goals (refine hret _ _ _ [_] (by k_asm) (by k_asm) ⟨_, _, _, _, rfl, rfl⟩)
      · have e4 := hmon R rfl 0 (by rw [hl]; rfl) 2 (by rw [if_neg hlt, hl]; rfl)
        rw [hl] at hd2
        simp only [Bool.false_eq_true, if_false] at hd2
        clear hmon
        (refine wpAny_call ?_; refine' code_def (binds := [(Str.ofString "jd", Value.float (H (2 * J + 1)) t)]) B F X N T rfl rfl hk ?k6 ?k7 ?k8 ?k9 ?kB ?_ ?c2 ?c3 ?c4 ?c5; (case k6 => k_is); (case k7 => k_is); (case k8 => ktr_room); (case k9 => first | exact BindsTo.of_eq rfl | exact binds_K (by k_in) rfl (by k_is) rfl rfl rfl); (case kB => exact locs rfl); (case c2 => exact rfl); (case c3 => exact rfl); (case c4 => exact rfl); (case c5 => decide); intro g' L' h' FG' F' N' B' X' T'; dsimp only; k_fold)
        k_steps
        all_goals (refine hret _ _ _ [_] (by k_asm) (by k_asm) ⟨_, _, _, _, rfl, rfl⟩)
    · by_cases hlt : R < 2 * (58 + 1)
      · have e4 := hmon R rfl 1 (by rw [hl]; rfl) 0 (by rw [if_pos hlt])
        rw [hl] at hd2
        simp only [if_true] at hd2
        clear hmon
        (refine wpAny_call ?_; refine' code_def (binds := [(Str.ofString "jd", Value.float (H (2 * J + 1)) t)]) B F X N T rfl rfl hk ?k6 ?k7 ?k8 ?k9 ?kB ?_ ?c2 ?c3 ?c4 ?c5; (case k6 => k_is); (case k7 => k_is); (case k8 => ktr_room); (case k9 => first | exact BindsTo.of_eq rfl | exact binds_K (by k_in) rfl (by k_is) rfl rfl rfl); (case kB => exact locs rfl); (case c2 => exact rfl); (case c3 => exact rfl); (case c4 => exact rfl); (case c5 => decide); intro g' L' h' FG' F' N' B' X' T'; dsimp only; k_fold)
        k_steps
        all_goals (refine hret _ _ _ [_] (by k_asm) (by k_asm) ⟨_, _, _, _, rfl, rfl⟩)
      · have e4 := hmon R rfl 1 (by rw [hl]; rfl) 1 (by rw [if_neg hlt, hl]; rfl)
        rw [hl] at hd2
        simp only [if_true] at hd2
        clear hmon
        (refine wpAny_call ?_; refine' code_def (binds := [(Str.ofString "jd", Value.float (H (2 * J + 1)) t)]) B F X N T rfl rfl hk ?k6 ?k7 ?k8 ?k9 ?kB ?_ ?c2 ?c3 ?c4 ?c5; (case k6 => k_is); (case k7 => k_is); (case k8 => ktr_room); (case k9 => first | exact BindsTo.of_eq rfl | exact binds_K (by k_in) rfl (by k_is) rfl rfl rfl); (case kB => exact locs rfl); (case c2 => exact rfl); (case c3 => exact rfl); (case c4 => exact rfl); (case c5 => decide); intro g' L' h' FG' F' N' B' X' T'; dsimp only; k_fold)
        k_steps
        all_goals (refine hret _ _ _ [_] (by k_asm) (by k_asm) ⟨_, _, _, _, rfl, rfl⟩)
  )) only [↓apart])
theorem con_fromjd' (w : World) (J y m d : Int) (G : Greg J y m d) (a : Int) (ha : a = 2 * J + 1) (t : Tok) : Con w 123 4 32 [.float (H a) t] (fun _ => True) (fun new v => ∃ a t1 t2 t3, new = [(a, { cls := .type "tuple", data := .seq #[.int y t1, .int m t2, .int d t3] })] ∧ v = .ref a) := Apart.get (by simp (disch := k_dflt (
  subst ha
  exact con_fromjd w J y m d t G
  )) only [↓apart])
local macro_rules | `(tactic| kxt_pos) => `(tactic| (k_here; (with_reducible show wpAny _ _ (call (Value.ref 123) [Value.float _ _]) _ _ _); k_dflt (refine' Con.use (con_fromjd' _ _ _ _ _ (by assumption) _ (by first | rfl | assumption | omega) _) ?k1 ?k2 ?k3 ?k4 ?k5 ?kK ?kp ?kd ?ku ?k0 ?_; (case k1 => k_asm); (case k2 => k_asm); (case k3 => k_asm); (case k4 => k_asm); (case k5 => k_asm); (case kK => first | exact rfl | assumption); (case kp => trivial); (case kd => ktr_room); (case ku => ktr_units); (case k0 => (dsimp only; omega))); intro v9 h9 tk9 new9 le9 F9 N9 p9; (try dsimp only at le9); obtain ⟨a9, t9, u9, v9, e9, e8⟩ := p9; subst e9 e8; (try simp only [List.nil_append, List.cons_append] at N9); (try dsimp only); (try k_sweep); (try k_fold)))
end
section
def jleap (y : Int) : Bool := decide (y % 4 = 0)
def jlen (y m : Int) : Int := if m = 2 then (if jleap y = true then 29 else 28) else if m = 4 ∨ m = 6 ∨ m = 9 ∨ m = 11 then 30 else 31
theorem con_leapj (w : World) (y : Int) (t : Tok) (b : Bool) : Con w 131 1 8 [.int y t] (fun _ => jleap y = b) (fun new v => new = [] ∧ v = .bool b) := Apart.get (by simp (disch := k_dflt (
  unfold Con
  k_fill
  intro p loose mean mg mb dp un gd cn cs a ccd cl outer A₀ base h₀ L m news s Q E B F X N T hk hpre hdp hun htk0 hret
  subst hpre
  (refine wpAny_call ?_; refine' code_def (binds := [(Str.ofString "year", Value.int y t)]) B F X N T rfl rfl hk ?k6 ?k7 ?k8 ?k9 ?kB ?_ ?c2 ?c3 ?c4 ?c5; (case k6 => k_is); (case k7 => k_is); (case k8 => ktr_room); (case k9 => first | exact BindsTo.of_eq rfl | exact binds_K (by k_in) rfl (by k_is) rfl rfl rfl); (case kB => exact locs rfl); (case c2 => exact rfl); (case c3 => exact rfl); (case c4 => exact rfl); (case c5 => decide); intro g' L' h' FG' F' N' B' X' T'; dsimp only; k_fold)
  k_steps
  all_goals (refine hret _ _ _ [] (by k_asm) (by k_asm) ⟨rfl, ?_⟩)
  all_goals (congr 1)
  )) only [↓apart])
local macro_rules | `(tactic| kxt_pos) => `(tactic| (k_here; (with_reducible show wpAny _ _ (call (Value.ref 131) [Value.int _ _]) _ _ _); k_dflt (refine' Con.use (con_leapj _ _ _ _) ?k1 ?k2 ?k3 ?k4 ?k5 ?kK ?kp ?kd ?ku ?k0 ?_; (case k1 => k_asm); (case k2 => k_asm); (case k3 => k_asm); (case k4 => k_asm); (case k5 => k_asm); (case kK => first | exact rfl | assumption); (case kp => first | assumption | exact rfl); (case kd => ktr_room); (case ku => ktr_units); (case k0 => (dsimp only; omega))); intro v9 h9 tk9 new9 le9 F9 N9 p9; (try dsimp only at le9); obtain ⟨e9, e8⟩ := p9; subst e9 e8; (try simp only [List.nil_append, List.cons_append] at N9); (try dsimp only); (try k_sweep); (try k_fold)))
theorem jlen_cases {y m : Int} : (m = 2 ∧ jleap y = true ∧ jlen y m = 29) ∨ (m = 2 ∧ jleap y = false ∧ jlen y m = 28) ∨ (m = 4 ∧ jlen y m = 30) ∨ (m = 6 ∧ jlen y m = 30) ∨ (m = 9 ∧ jlen y m = 30) ∨ (m = 11 ∧ jlen y m = 30) ∨ ((m ≠ 2 ∧ m ≠ 4 ∧ m ≠ 6 ∧ m ≠ 9 ∧ m ≠ 11) ∧ jlen y m = 31) := by
  unfold jlen
  cases hl : jleap y <;> simp only [Bool.false_eq_true, true_and, false_and, false_or, if_true, if_false] at * <;> omega
theorem jlen_cases4 {y m : Int} : (m = 2 ∧ jleap y = true ∧ jlen y m = 29) ∨ (m = 2 ∧ jleap y = false ∧ jlen y m = 28) ∨ ((m = 4 ∨ m = 6 ∨ m = 9 ∨ m = 11) ∧ jlen y m = 30) ∨ ((m ≠ 2 ∧ m ≠ 4 ∧ m ≠ 6 ∧ m ≠ 9 ∧ m ≠ 11) ∧ jlen y m = 31) := by
  rcases jlen_cases (y := y) (m := m) with h | h | h | h | h | h | h
  · exact .inl h
  · exact .inr (.inl h)
  · exact .inr (.inr (.inl ⟨.inl h.1, h.2⟩))
  · exact .inr (.inr (.inl ⟨.inr (.inl h.1), h.2⟩))
  · exact .inr (.inr (.inl ⟨.inr (.inr (.inl h.1)), h.2⟩))
  · exact .inr (.inr (.inl ⟨.inr (.inr (.inr h.1)), h.2⟩))
  · exact .inr (.inr (.inr h))
theorem con_mlenj (w : World) (y m : Int) (t u : Tok) : Con w 138 2 16 [.int y t, .int m u] (fun _ => True) (fun new v => new = [] ∧ ∃ t, v = .int (jlen y m) t) := Apart.get (by simp (disch := k_dflt (
  unfold Con
  k_fill
  intro p loose mean mg mb dp un gd cn cs a ccd cl outer A₀ base h₀ L ma news s Q E B F X N T hk hpre hdp hun htk0 hret
  rcases jlen_cases4 (y := y) (m := m) with ⟨rfl, hl, hv⟩ | ⟨rfl, hl, hv⟩ | ⟨hm, hv⟩ | ⟨hm, hv⟩
  all_goals rw [hv] at hret
  · (refine wpAny_call ?_; refine' code_def (binds := [(Str.ofString "year", Value.int y t), (Str.ofString "month", Value.int 2 u)]) B F X N T rfl rfl hk ?k6 ?k7 ?k8 ?k9 ?kB ?_ ?c2 ?c3 ?c4 ?c5; (case k6 => k_is); (case k7 => k_is); (case k8 => ktr_room); (case k9 => first | exact BindsTo.of_eq rfl | exact binds_K (by k_in) rfl (by k_is) rfl rfl rfl); (case kB => exact locs rfl); (case c2 => exact rfl); (case c3 => exact rfl); (case c4 => exact rfl); (case c5 => decide); intro g' L' h' FG' F' N' B' X' T'; dsimp only; k_fold)
    k_steps
    all_goals (refine hret _ _ _ [] (by k_asm) (by k_asm) ⟨rfl, _, rfl⟩)
  · (refine wpAny_call ?_; refine' code_def (binds := [(Str.ofString "year", Value.int y t), (Str.ofString "month", Value.int 2 u)]) B F X N T rfl rfl hk ?k6 ?k7 ?k8 ?k9 ?kB ?_ ?c2 ?c3 ?c4 ?c5; (case k6 => k_is); (case k7 => k_is); (case k8 => ktr_room); (case k9 => first | exact BindsTo.of_eq rfl | exact binds_K (by k_in) rfl (by k_is) rfl rfl rfl); (case kB => exact locs rfl); (case c2 => exact rfl); (case c3 => exact rfl); (case c4 => exact rfl); (case c5 => decide); intro g' L' h' FG' F' N' B' X' T'; dsimp only; k_fold)
    k_steps
    all_goals (refine hret _ _ _ [] (by k_asm) (by k_asm) ⟨rfl, _, rfl⟩)
  · (refine wpAny_call ?_; refine' code_def (binds := [(Str.ofString "year", Value.int y t), (Str.ofString "month", Value.int m u)]) B F X N T rfl rfl hk ?k6 ?k7 ?k8 ?k9 ?kB ?_ ?c2 ?c3 ?c4 ?c5; (case k6 => k_is); (case k7 => k_is); (case k8 => ktr_room); (case k9 => first | exact BindsTo.of_eq rfl | exact binds_K (by k_in) rfl (by k_is) rfl rfl rfl); (case kB => exact locs rfl); (case c2 => exact rfl); (case c3 => exact rfl); (case c4 => exact rfl); (case c5 => decide); intro g' L' h' FG' F' N' B' X' T'; dsimp only; k_fold)
    k_steps
    all_goals (refine hret _ _ _ [] (by k_asm) (by k_asm) ⟨rfl, _, rfl⟩)
  · (refine wpAny_call ?_; refine' code_def (binds := [(Str.ofString "year", Value.int y t), (Str.ofString "month", Value.int m u)]) B F X N T rfl rfl hk ?k6 ?k7 ?k8 ?k9 ?kB ?_ ?c2 ?c3 ?c4 ?c5; (case k6 => k_is); (case k7 => k_is); (case k8 => ktr_room); (case k9 => first | exact BindsTo.of_eq rfl | exact binds_K (by k_in) rfl (by k_is) rfl rfl rfl); (case kB => exact locs rfl); (case c2 => exact rfl); (case c3 => exact rfl); (case c4 => exact rfl); (case c5 => decide); intro g' L' h' FG' F' N' B' X' T'; dsimp only; k_fold)
    k_steps
    all_goals (refine hret _ _ _ [] (by k_asm) (by k_asm) ⟨rfl, _, rfl⟩)
  )) only [↓apart])
local macro_rules | `(tactic| kxt_pos) => `(tactic| (k_here; (with_reducible show wpAny _ _ (call (Value.ref 138) [Value.int _ _, Value.int _ _]) _ _ _); k_dflt (refine' Con.use (con_mlenj _ _ _ _ _) ?k1 ?k2 ?k3 ?k4 ?k5 ?kK ?kp ?kd ?ku ?k0 ?_; (case k1 => k_asm); (case k2 => k_asm); (case k3 => k_asm); (case k4 => k_asm); (case k5 => k_asm); (case kK => first | exact rfl | assumption); (case kp => trivial); (case kd => ktr_room); (case ku => ktr_units); (case k0 => (dsimp only; omega))); intro v9 h9 tk9 new9 le9 F9 N9 p9; (try dsimp only at le9); obtain ⟨e9, t9, e8⟩ := p9; subst e9 e8; (try simp only [List.nil_append, List.cons_append] at N9); (try dsimp only); (try k_sweep); (try k_fold)))
theorem con_legalj (w : World) (y m d : Int) (t u v : Tok) : Con w 145 3 24 [.int y t, .int m u, .int d v] (fun _ => 0 < d ∧ d ≤ jlen y m) (fun new v => new = [] ∧ v = .bool true) := Apart.get (by simp (disch := k_dflt (
  unfold Con
  k_fill
  intro p loose mean mg mb dp un gd cn cs a ccd cl outer A₀ base h₀ L ma news s Q E B F X N T hk hpre hdp hun htk0 hret
  obtain ⟨h1, h2⟩ := hpre
  (refine wpAny_call ?_; refine' code_def (binds := [(Str.ofString "year", Value.int y t), (Str.ofString "month", Value.int m u), (Str.ofString "day", Value.int d v)]) B F X N T rfl rfl hk ?k6 ?k7 ?k8 ?k9 ?kB ?_ ?c2 ?c3 ?c4 ?c5; (case k6 => k_is); (case k7 => k_is); (case k8 => ktr_room); (case k9 => first | exact BindsTo.of_eq rfl | exact binds_K (by k_in) rfl (by k_is) rfl rfl rfl); (case kB => exact locs rfl); (case c2 => exact rfl); (case c3 => exact rfl); (case c4 => exact rfl); (case c5 => decide); intro g' L' h' FG' F' N' B' X' T'; dsimp only; k_fold)
  k_steps
  all_goals (refine hret _ _ _ [] (by k_asm) (by k_asm) ⟨rfl, rfl⟩)
  )) only [↓apart])
local macro_rules | `(tactic| kxt_pos) => `(tactic| (k_here; (with_reducible show wpAny _ _ (call (Value.ref 145) [Value.int _ _, Value.int _ _, Value.int _ _]) _ _ _); k_dflt (refine' Con.use (con_legalj _ _ _ _ _ _ _) ?k1 ?k2 ?k3 ?k4 ?k5 ?kK ?kp ?kd ?ku ?k0 ?_; (case k1 => k_asm); (case k2 => k_asm); (case k3 => k_asm); (case k4 => k_asm); (case k5 => k_asm); (case kK => first | exact rfl | assumption); (case kp => first | assumption | omega); (case kd => ktr_room); (case ku => ktr_units); (case k0 => (dsimp only; omega))); intro v9 h9 tk9 new9 le9 F9 N9 p9; (try dsimp only at le9); obtain ⟨e9, e8⟩ := p9; subst e9 e8; (try simp only [List.nil_append, List.cons_append] at N9); (try dsimp only); (try k_sweep); (try k_fold)))
/-- the day's number of a Julian date, less one half -/
def jJ (y m d : Int) : Int := 1461 * ((if m ≤ 2 then y - 1 else y) + 4716) / 4 + 306001 * ((if m ≤ 2 then m + 12 else m) + 1) / 10000 + d - 1525
theorem jJ_le {y m d : Int} (h : m ≤ 2) : jJ y m d = 1461 * (y - 1 + 4716) / 4 + 306001 * (m + 12 + 1) / 10000 + d - 1525 := by unfold jJ; rw [if_pos h, if_pos h]
theorem jJ_gt {y m d : Int} (h : ¬ m ≤ 2) : jJ y m d = 1461 * (y + 4716) / 4 + 306001 * (m + 1) / 10000 + d - 1525 := by unfold jJ; rw [if_neg h, if_neg h]
theorem con_tojdj (w : World) (y m d : Int) (t u v : Tok) : Con w 159 4 32 [.int y t, .int m u, .int d v] (fun _ => (1 ≤ y ∧ y < 100000) ∧ (1 ≤ m ∧ m ≤ 12) ∧ 0 < d ∧ d ≤ jlen y m) (fun new v => new = [] ∧ ∃ tk, tk ≠ 0 ∧ v = .float (H (2 * jJ y m d + 1)) tk) := Apart.get (by simp (disch := k_dflt (
  unfold Con
  k_fill
  intro p loose mean mg mb dp un gd cn cs a ccd cl outer A₀ base h₀ L ma news s Q E B F X N T hk hpre hdp hun htk0 hret
  obtain ⟨hy, hmm, hd0, hm⟩ := hpre
  have hd31 : d ≤ 31 := by rcases jlen_cases (y := y) (m := m) with h | h | h | h | h | h | h <;> omega
  by_cases hm2 : m ≤ 2
  · (refine wpAny_call ?_; refine' code_def (binds := [(Str.ofString "year", Value.int y t), (Str.ofString "month", Value.int m u), (Str.ofString "day", Value.int d v)]) B F X N T rfl rfl hk ?k6 ?k7 ?k8 ?k9 ?kB ?_ ?c2 ?c3 ?c4 ?c5; (case k6 => k_is); (case k7 => k_is); (case k8 => ktr_room); (case k9 => first | exact BindsTo.of_eq rfl | exact binds_K (by k_in) rfl (by k_is) rfl rfl rfl); (case kB => exact locs rfl); (case c2 => exact rfl); (case c3 => exact rfl); (case c4 => exact rfl); (case c5 => decide); intro g' L' h' FG' F' N' B' X' T'; dsimp only; k_fold)
    k_steps
    all_goals (refine hret _ _ _ [] (by k_asm) (by k_asm) ⟨rfl, _, Nat.succ_ne_zero _, fl_eq ?_⟩; rw [jJ_le hm2]; subst_vars; omega)
  · (refine wpAny_call ?_; refine' code_def (binds := [(Str.ofString "year", Value.int y t), (Str.ofString "month", Value.int m u), (Str.ofString "day", Value.int d v)]) B F X N T rfl rfl hk ?k6 ?k7 ?k8 ?k9 ?kB ?_ ?c2 ?c3 ?c4 ?c5; (case k6 => k_is); (case k7 => k_is); (case k8 => ktr_room); (case k9 => first | exact BindsTo.of_eq rfl | exact binds_K (by k_in) rfl (by k_is) rfl rfl rfl); (case kB => exact locs rfl); (case c2 => exact rfl); (case c3 => exact rfl); (case c4 => exact rfl); (case c5 => decide); intro g' L' h' FG' F' N' B' X' T'; dsimp only; k_fold)
    k_steps
    all_goals (refine hret _ _ _ [] (by k_asm) (by k_asm) ⟨rfl, _, Nat.succ_ne_zero _, fl_eq ?_⟩; rw [jJ_gt hm2]; omega)
  )) only [↓apart])
local macro_rules | `(tactic| kxt_pos) => `(tactic| (k_here; (with_reducible show wpAny _ _ (call (Value.ref 159) [Value.int _ _, Value.int _ _, Value.int _ _]) _ _ _); k_dflt (refine' Con.use (con_tojdj _ _ _ _ _ _ _) ?k1 ?k2 ?k3 ?k4 ?k5 ?kK ?kp ?kd ?ku ?k0 ?_; (case k1 => k_asm); (case k2 => k_asm); (case k3 => k_asm); (case k4 => k_asm); (case k5 => k_asm); (case kK => first | exact rfl | assumption); (case kp => first | assumption | omega); (case kd => ktr_room); (case ku => ktr_units); (case k0 => (dsimp only; omega))); intro v9 h9 tk9 new9 le9 F9 N9 p9; (try dsimp only at le9); obtain ⟨e9, t9, n9, e8⟩ := p9; subst e9 e8; (try simp only [List.nil_append, List.cons_append] at N9); (try dsimp only); (try k_sweep); (try k_fold)))
theorem jul_parts {J b c d e : Int} (hJ : 1721424 ≤ J ∧ J < 6000000) (hb : b = J + 1 + 1524) (hc : c = (20 * b - 2442) / 7305) (hd : d = 1461 * c / 4) (he : e = 10000 * (b - d) / 306001) :
    (123 ≤ b - d ∧ b - d ≤ 488) ∧ (4 ≤ e ∧ e ≤ 15) := by
  have h1 : 123 ≤ b - d ∧ b - d ≤ 488 := by omega
  omega
/-- a date of the Julian calendar and its number, with the steps of from_jd -/
structure Jul (J y m d W aa b c dd e : Int) : Prop where
  bJ : 1721424 ≤ J ∧ J < 6000000
  hb : b = J + 1 + 1524
  bb : (123 ≤ b - dd ∧ b - dd ≤ 488) ∧ (4 ≤ e ∧ e ≤ 15)
  s0 : Eqn (2 * J + 1 + 1) W
  s0b : Eqn (W / 2) aa
  s1 : Eqn (aa + 1524) b
  bW : (0 ≤ W ∧ W < 50000000) ∧ (1000 ≤ b ∧ b < 8388608)
  s2 : Eqn ((20 * b - 2442) / 7305) c
  s3 : Eqn (1461 * c / 4) dd
  s4 : Eqn (10000 * (b - dd) / 306001) e
  s5 : Eqn (b - dd - 306001 * e / 10000) d
  hm : (e < 14 ∧ Eqn (e - 1) m ∧ m = e - 1) ∨ (¬ e < 14 ∧ Eqn (e - 13) m ∧ m = e - 13)
  hy : (2 < m ∧ Eqn (c - 4716) y) ∨ (¬ 2 < m ∧ Eqn (c - 4715) y)
theorem jul_of (J : Int) (hJ : 1721424 ≤ J ∧ J < 6000000) : ∃ y m d W aa b c dd e, Jul J y m d W aa b c dd e := by
  obtain ⟨b, hb⟩ : ∃ b, b = J + 1 + 1524 := ⟨_, rfl⟩
  obtain ⟨c, hc⟩ : ∃ c, c = (20 * b - 2442) / 7305 := ⟨_, rfl⟩
  obtain ⟨dd, hd⟩ : ∃ d, d = 1461 * c / 4 := ⟨_, rfl⟩
  obtain ⟨e, he⟩ : ∃ e, e = 10000 * (b - dd) / 306001 := ⟨_, rfl⟩
  have h := jul_parts hJ hb hc hd he
  refine ⟨if 2 < (if e < 14 then e - 1 else e - 13) then c - 4716 else c - 4715, if e < 14 then e - 1 else e - 13, b - dd - 306001 * e / 10000, 2 * J + 1 + 1, J + 1, b, c, dd, e, hJ, hb, h, rfl, ?_, hb.symm, by omega, hc.symm, hd.symm, he.symm, rfl, ?_, ?_⟩
  · unfold Eqn; omega
  · by_cases q : e < 14
    · exact .inl ⟨q, by rw [if_pos q]; rfl, by rw [if_pos q]⟩
    · exact .inr ⟨q, by rw [if_neg q]; rfl, by rw [if_neg q]⟩
  · by_cases q : 2 < (if e < 14 then e - 1 else e - 13)
    · exact .inl ⟨q, by rw [if_pos q]; rfl⟩
    · exact .inr ⟨q, by rw [if_neg q]; rfl⟩
theorem Jul.back {J y m d W aa b c dd e : Int} (G : Jul J y m d W aa b c dd e) : (1 ≤ m ∧ m ≤ 12) ∧ (0 < d ∧ d ≤ jlen y m) ∧ (-1 ≤ y ∧ y < 100000) ∧ jJ y m d = J := by
  obtain ⟨bJ, hb, ⟨b1, b2⟩, s0, s0b, s1, bW, s2, s3, s4, s5, hm, hy⟩ := G
  unfold Eqn at *
  have hm12 : 1 ≤ m ∧ m ≤ 12 := by omega
  have hyb : -1 ≤ y ∧ y < 100000 := by omega
  have hJ : jJ y m d = J := by
    by_cases q : m ≤ 2
    · rw [jJ_le q]
      have e1 : y - 1 + 4716 = c := by omega
      have e2 : m + 12 + 1 = e := by omega
      rw [e1, e2]; omega
    · rw [jJ_gt q]
      have e1 : y + 4716 = c := by omega
      have e2 : m + 1 = e := by omega
      rw [e1, e2]; omega
  refine ⟨hm12, ?_, hyb, hJ⟩
  have hl : jleap y = true ↔ y % 4 = 0 := by unfold jleap; exact decide_eq_true_iff
  have hl2 : jleap y = false ↔ ¬ y % 4 = 0 := by unfold jleap; exact decide_eq_false_iff_not
  have he : e = 4 ∨ e = 5 ∨ e = 6 ∨ e = 7 ∨ e = 8 ∨ e = 9 ∨ e = 10 ∨ e = 11 ∨ e = 12 ∨ e = 13 ∨ e = 14 ∨ e = 15 := by omega
  have hq := jlen_cases (y := y) (m := m)
  have h488 : b - dd ≤ 487 ∨ c % 4 = 3 := by clear hm hy hq he hl hl2; omega
  generalize jlen y m = jl at *
  rw [hl, hl2] at hq
  rcases he with h | h | h | h | h | h | h | h | h | h | h | h <;> subst h <;> omega
theorem con_fromjdj (w : World) (J y m d W aa b c dd e : Int) (t : Tok) (G : Jul J y m d W aa b c dd e) : Con w 152 2 16 [.float (H (2 * J + 1)) t] (fun _ => True) (fun new v => ∃ a t1 t2 t3, new = [(a, { cls := .type "tuple", data := .seq #[.int y t1, .int m t2, .int d t3] })] ∧ v = .ref a) := Apart.get (by simp (disch := k_dflt (
  unfold Con
  k_fill
  intro p loose mean mg mb dp un gd cn cs a ccd cl outer A₀ base h₀ L ma news s Q E B F X N T hk hpre hdp hun htk0 hret
  have Gb := G.back.1
  obtain ⟨bJ, hb, bb, s0, s0b, s1, bW, s2, s3, s4, s5, hm, hy⟩ := G
  have bc : 0 ≤ c ∧ c < 60000 := by unfold Eqn at s2; omega
  rcases hm with ⟨he, hm, hme⟩ | ⟨he, hm, hme⟩ <;> rcases hy with ⟨h2, hy⟩ | ⟨h2, hy⟩
  all_goals first | (exfalso; omega) | skip
  all_goals
    (refine wpAny_call ?_; refine' code_def (binds := [(Str.ofString "jd", Value.float (H (2 * J + 1)) t)]) B F X N T rfl rfl hk ?k6 ?k7 ?k8 ?k9 ?kB ?_ ?c2 ?c3 ?c4 ?c5; (case k6 => k_is); (case k7 => k_is); (case k8 => ktr_room); (case k9 => first | exact BindsTo.of_eq rfl | exact binds_K (by k_in) rfl (by k_is) rfl rfl rfl); (case kB => exact locs rfl); (case c2 => exact rfl); (case c3 => exact rfl); (case c4 => exact rfl); (case c5 => decide); intro g' L' h' FG' F' N' B' X' T'; dsimp only; k_fold)
  all_goals k_steps
  all_goals (refine hret _ _ _ [_] (by k_asm) (by k_asm) ⟨_, _, _, _, rfl, rfl⟩)
  )) only [↓apart])
end
section
def cJ (y m d : Int) : Int := d + (m - 1) * 30 + (y - 1) * 365 + y / 4 + 1825028
theorem con_tojdc (w : World) (y m d : Int) (t u v : Tok) : Con w 306 1 8 [.int y t, .int m u, .int d v] (fun _ => (0 ≤ y ∧ y < 100000) ∧ (1 ≤ m ∧ m ≤ 13) ∧ 0 < d ∧ d ≤ 40) (fun new v => new = [] ∧ (1000000 ≤ cJ y m d ∧ cJ y m d < 100000000) ∧ ∃ tk, tk ≠ 0 ∧ v = .float (H (2 * cJ y m d + 1)) tk) := Apart.get (by simp (disch := k_dflt (
  unfold Con
  k_fill
  intro p loose mean mg mb dp un gd cn cs a ccd cl outer A₀ base h₀ L ma news s Q E B F X N T hk hpre hdp hun htk0 hret
  obtain ⟨hy, hm, hd⟩ := hpre
  have hb : 1000000 ≤ cJ y m d ∧ cJ y m d < 100000000 := by unfold cJ; omega
  (refine wpAny_call ?_; refine' code_def (binds := [(Str.ofString "year", Value.int y t), (Str.ofString "month", Value.int m u), (Str.ofString "day", Value.int d v)]) B F X N T rfl rfl hk ?k6 ?k7 ?k8 ?k9 ?kB ?_ ?c2 ?c3 ?c4 ?c5; (case k6 => k_is); (case k7 => k_is); (case k8 => ktr_room); (case k9 => first | exact BindsTo.of_eq rfl | exact binds_K (by k_in) rfl (by k_is) rfl rfl rfl); (case kB => exact locs rfl); (case c2 => exact rfl); (case c3 => exact rfl); (case c4 => exact rfl); (case c5 => decide); intro g' L' h' FG' F' N' B' X' T'; dsimp only; k_fold)
  k_steps
  all_goals (refine hret _ _ _ [] (by k_asm) (by k_asm) ⟨rfl, hb, _, Nat.succ_ne_zero _, fl_eq ?_⟩; unfold cJ; omega)
  )) only [↓apart])
local macro_rules | `(tactic| kxt_pos) => `(tactic| (k_here; (with_reducible show wpAny _ _ (call (Value.ref 306) [Value.int _ _, Value.int _ _, Value.int _ _]) _ _ _); k_dflt (refine' Con.use (con_tojdc _ _ _ _ _ _ _) ?k1 ?k2 ?k3 ?k4 ?k5 ?kK ?kp ?kd ?ku ?k0 ?_; (case k1 => k_asm); (case k2 => k_asm); (case k3 => k_asm); (case k4 => k_asm); (case k5 => k_asm); (case kK => first | exact rfl | assumption); (case kp => first | assumption | omega); (case kd => ktr_room); (case ku => ktr_units); (case k0 => (dsimp only; omega))); intro v9 h9 tk9 new9 le9 F9 N9 p9; (try dsimp only at le9); obtain ⟨e9, b9, t9, n9, e8⟩ := p9; subst e9 e8; (try simp only [List.nil_append, List.cons_append] at N9); (try dsimp only); (try k_sweep); (try k_fold)))
structure Cop (J y m d Y D2 : Int) : Prop where
  bJ : 1900000 ≤ J ∧ J < 6000000
  by' : 0 ≤ y ∧ y < 20000
  bY : (0 ≤ Y ∧ Y < 740) ∧ (1 ≤ m ∧ m ≤ 13) ∧ (2 ≤ D2 ∧ D2 < 62)
  s1 : Eqn ((4 * ((2 * J + 1 - 3650059) / 2) + 1463) / 1461) y
  s2 : Eqn (2 * J + 1 - (2 * cJ y 1 1 + 1)) Y
  s3 : Eqn (Y / (2 * 30) + 1) m
  s4 : Eqn (Y - 2 * ((m - 1) * 30) + 2 * 1) D2
  hd : d = D2 / 2
  back : cJ y m d = J
theorem cop_of (J : Int) (hJ : 1900000 ≤ J ∧ J < 6000000) : ∃ y m d Y D2, Cop J y m d Y D2 := by
  obtain ⟨y, hy⟩ : ∃ y, y = (4 * ((2 * J + 1 - 3650059) / 2) + 1463) / 1461 := ⟨_, rfl⟩
  have h0 : (2 * J + 1 - 3650059) / 2 = J - 1825029 := by omega
  have h1 : y = (4 * (J - 1825029) + 1463) / 1461 := by rw [h0] at hy; exact hy
  obtain ⟨Y, hY⟩ : ∃ Y, Y = 2 * J + 1 - (2 * cJ y 1 1 + 1) := ⟨_, rfl⟩
  have hY2 : Y = 2 * (J - 1825029 - (y - 1) * 365 - y / 4) := by rw [hY]; unfold cJ; omega
  have hb : 0 ≤ Y ∧ Y < 732 := by clear hY hy h0; omega
  refine ⟨y, Y / (2 * 30) + 1, (Y - 2 * ((Y / (2 * 30) + 1 - 1) * 30) + 2 * 1) / 2, Y, Y - 2 * ((Y / (2 * 30) + 1 - 1) * 30) + 2 * 1, hJ, by omega, by omega, hy.symm, hY.symm, rfl, rfl, rfl, ?_⟩
  unfold cJ
  omega
theorem con_fromjdc (w : World) (J y m d Y D2 : Int) (t : Tok) (G : Cop J y m d Y D2) : Con w 313 2 16 [.float (H (2 * J + 1)) t] (fun _ => True) (fun new v => ∃ a t1 t2 t3, new = [(a, { cls := .type "tuple", data := .seq #[.int y t1, .int m t2, .int d t3] })] ∧ v = .ref a) := Apart.get (by simp (disch := k_dflt (
  unfold Con
  k_fill
  intro p loose mean mg mb dp un gd cn cs a ccd cl outer A₀ base h₀ L ma news s Q E B F X N T hk hpre hdp hun htk0 hret
  obtain ⟨bJ, bY, bY2, s1, s2, s3, s4, hd, _⟩ := G
  subst hd
  (refine wpAny_call ?_; refine' code_def (binds := [(Str.ofString "jdc", Value.float (H (2 * J + 1)) t)]) B F X N T rfl rfl hk ?k6 ?k7 ?k8 ?k9 ?kB ?_ ?c2 ?c3 ?c4 ?c5; (case k6 => k_is); (case k7 => k_is); (case k8 => ktr_room); (case k9 => first | exact BindsTo.of_eq rfl | exact binds_K (by k_in) rfl (by k_is) rfl rfl rfl); (case kB => exact locs rfl); (case c2 => exact rfl); (case c3 => exact rfl); (case c4 => exact rfl); (case c5 => decide); intro g' L' h' FG' F' N' B' X' T'; dsimp only; k_fold)
  k_steps
  all_goals (refine hret _ _ _ [_] (by k_asm) (by k_asm) ⟨_, _, _, _, rfl, rfl⟩)
  )) only [↓apart])
local macro_rules | `(tactic| kxt_pos) => `(tactic| (k_here; (with_reducible show wpAny _ _ (call (Value.ref 313) [Value.float (H (2 * _ + 1)) _]) _ _ _); k_dflt (refine' Con.use (con_fromjdc _ _ _ _ _ _ _ _ (by assumption)) ?k1 ?k2 ?k3 ?k4 ?k5 ?kK ?kp ?kd ?ku ?k0 ?_; (case k1 => k_asm); (case k2 => k_asm); (case k3 => k_asm); (case k4 => k_asm); (case k5 => k_asm); (case kK => first | exact rfl | assumption); (case kp => trivial); (case kd => ktr_room); (case ku => ktr_units); (case k0 => (dsimp only; omega))); intro v9 h9 tk9 new9 le9 F9 N9 p9; (try dsimp only at le9); obtain ⟨a9, t9, u9, v9, e9, e8⟩ := p9; subst e9 e8; (try simp only [List.nil_append, List.cons_append] at N9); (try dsimp only); (try k_sweep); (try k_fold)))
end
section
def iJ (y m d : Int) : Int := d + -(-(59 * (m - 1)) / 2) + (y - 1) * 354 + (3 + 11 * y) / 30 + 1948438
theorem con_tojdi (w : World) (y m d : Int) (t u v : Tok) : Con w 362 1 8 [.int y t, .int m u, .int d v] (fun _ => (0 ≤ y ∧ y < 100000) ∧ (1 ≤ m ∧ m ≤ 13) ∧ 0 < d ∧ d ≤ 40) (fun new v => new = [] ∧ (1000000 ≤ iJ y m d ∧ iJ y m d < 100000000) ∧ ∃ tk, tk ≠ 0 ∧ v = .float (H (2 * iJ y m d + 1)) tk) := Apart.get (by simp (disch := k_dflt (
  unfold Con
  k_fill
  intro p loose mean mg mb dp un gd cn cs a ccd cl outer A₀ base h₀ L ma news s Q E B F X N T hk hpre hdp hun htk0 hret
  obtain ⟨hy, hm, hd⟩ := hpre
  have hb : 1000000 ≤ iJ y m d ∧ iJ y m d < 100000000 := by unfold iJ; omega
  (refine wpAny_call ?_; refine' code_def (binds := [(Str.ofString "year", Value.int y t), (Str.ofString "month", Value.int m u), (Str.ofString "day", Value.int d v)]) B F X N T rfl rfl hk ?k6 ?k7 ?k8 ?k9 ?kB ?_ ?c2 ?c3 ?c4 ?c5; (case k6 => k_is); (case k7 => k_is); (case k8 => ktr_room); (case k9 => first | exact BindsTo.of_eq rfl | exact binds_K (by k_in) rfl (by k_is) rfl rfl rfl); (case kB => exact locs rfl); (case c2 => exact rfl); (case c3 => exact rfl); (case c4 => exact rfl); (case c5 => decide); intro g' L' h' FG' F' N' B' X' T'; dsimp only; k_fold)
  k_steps
  all_goals (refine hret _ _ _ [] (by k_asm) (by k_asm) ⟨rfl, hb, _, Nat.succ_ne_zero _, fl_eq ?_⟩; unfold iJ; omega)
  )) only [↓apart])
local macro_rules | `(tactic| kxt_pos) => `(tactic| (k_here; (with_reducible show wpAny _ _ (call (Value.ref 362) [Value.int _ _, Value.int _ _, Value.int _ _]) _ _ _); k_dflt (refine' Con.use (con_tojdi _ _ _ _ _ _ _) ?k1 ?k2 ?k3 ?k4 ?k5 ?kK ?kp ?kd ?ku ?k0 ?_; (case k1 => k_asm); (case k2 => k_asm); (case k3 => k_asm); (case k4 => k_asm); (case k5 => k_asm); (case kK => first | exact rfl | assumption); (case kp => first | assumption | omega); (case kd => ktr_room); (case ku => ktr_units); (case k0 => (dsimp only; omega))); intro v9 h9 tk9 new9 le9 F9 N9 p9; (try dsimp only at le9); obtain ⟨e9, b9, t9, n9, e8⟩ := p9; subst e9 e8; (try simp only [List.nil_append, List.cons_append] at N9); (try dsimp only); (try k_sweep); (try k_fold)))
end
section
local macro_rules | `(tactic| kxt_pos) => `(tactic| (k_here; (with_reducible show wpAny _ _ (call (Value.ref 362) [Value.int _ _, Value.int _ _, Value.int _ _]) _ _ _); k_dflt (refine' Con.use (con_tojdi _ _ _ _ _ _ _) ?k1 ?k2 ?k3 ?k4 ?k5 ?kK ?kp ?kd ?ku ?k0 ?_; (case k1 => k_asm); (case k2 => k_asm); (case k3 => k_asm); (case k4 => k_asm); (case k5 => k_asm); (case kK => first | exact rfl | assumption); (case kp => first | assumption | omega); (case kd => ktr_room); (case ku => ktr_units); (case k0 => (dsimp only; omega))); intro v9 h9 tk9 new9 le9 F9 N9 p9; (try dsimp only at le9); obtain ⟨e9, b9, t9, n9, e8⟩ := p9; subst e9 e8; (try simp only [List.nil_append, List.cons_append] at N9); (try dsimp only); (try k_sweep); (try k_fold)))
structure Isl (J y m d : Int) : Prop where
  bJ : 1950000 ≤ J ∧ J < 6000000
  y1 : 1 ≤ y ∧ y < 20000
  m1 : 1 ≤ m ∧ m ≤ 12
  d1 : 0 < d ∧ d ≤ 31
  sy : y = (30 * (J - 1948439) + 10646) / 10631
  sr : 0 ≤ J - iJ y 1 1 ∧ J - iJ y 1 1 ≤ 354
  sm : (J - iJ y 1 1 ≤ 353 ∧ m = -(-(2 * (J - iJ y 1 1) - 58) / 59) + 1) ∨ (J - iJ y 1 1 = 354 ∧ m = 12)
  back : iJ y m d = J
theorem isl_of (J : Int) (hJ : 1950000 ≤ J ∧ J < 6000000) : ∃ y m d, Isl J y m d := by
  obtain ⟨y, hy⟩ : ∃ y, y = (30 * (J - 1948439) + 10646) / 10631 := ⟨_, rfl⟩
  have sr : 0 ≤ J - iJ y 1 1 ∧ J - iJ y 1 1 ≤ 354 := by unfold iJ; omega
  have hy1 : 1 ≤ y ∧ y < 20000 := by omega
  by_cases h : J - iJ y 1 1 ≤ 353
  · obtain ⟨m, hm⟩ : ∃ m, m = -(-(2 * (J - iJ y 1 1) - 58) / 59) + 1 := ⟨_, rfl⟩
    refine ⟨y, m, J - iJ y m 1 + 1, hJ, hy1, by omega, ?_, hy, sr, .inl ⟨h, hm⟩, by unfold iJ; omega⟩
    have e : J - iJ y m 1 = (J - iJ y 1 1) + -(59 * (1 - 1)) / 2 * 0 + -(59 * (m - 1)) / 2 := by unfold iJ; omega
    rw [e]
    generalize J - iJ y 1 1 = r at *
    omega
  · refine ⟨y, 12, J - iJ y 12 1 + 1, hJ, hy1, by omega, ?_, hy, sr, .inr ⟨by omega, rfl⟩, by unfold iJ; omega⟩
    unfold iJ at *; omega
theorem con_fromjdi (w : World) (J y m d : Int) (t : Tok) (G : Isl J y m d) : Con w 369 2 16 [.float (H (2 * J + 1)) t] (fun _ => True) (fun new v => ∃ a t1 t2 t3, new = [(a, { cls := .type "tuple", data := .seq #[.int y t1, .int m t2, .int d t3] })] ∧ v = .ref a) := Apart.get (by simp (disch := k_dflt (
  unfold Con
  k_fill
  intro p loose mean mg mb dp un gd cn cs a ccd cl outer A₀ base h₀ L ma news s Q E B F X N T hk hpre hdp hun htk0 hret
  obtain ⟨bJ, by1, bm, bd, sy, sr, sm, hb⟩ := G
  obtain ⟨W, hW⟩ : ∃ W, W = 2 * J + 1 := ⟨_, rfl⟩
  have e0 : Eqn (2 * ((2 * J + 1) / 2) + 1) W := by unfold Eqn; omega
  have e1 : Eqn ((30 * (W - 3896879) + 2 * 10646) / (2 * 10631)) y := by unfold Eqn; omega
  have hc : (m < 12 ∧ -(-(W - (2 * 29 + (2 * iJ y 1 1 + 1))) / 59) + 1 = m) ∨ (m = 12 ∧ ¬ -(-(W - (2 * 29 + (2 * iJ y 1 1 + 1))) / 59) + 1 < 12) := by
    have e : W - (2 * 29 + (2 * iJ y 1 1 + 1)) = 2 * (J - iJ y 1 1) - 58 := by omega
    rw [e]
    generalize J - iJ y 1 1 = r at *
    omega
  clear sm
  rcases hc with ⟨hm, e2⟩ | ⟨hm, e2⟩
  · have e2q : Eqn (-(-(W - (2 * 29 + (2 * iJ y 1 1 + 1))) / 59) + 1) m := e2
    have e3 : Eqn ((W - (2 * iJ y m 1 + 1)) / 2 + 1) d := by unfold Eqn; unfold iJ at hb ⊢; omega
    have hbm : W - (2 * iJ y m 1 + 1) ≥ 0 := by unfold iJ at hb ⊢; omega
    clear hb hpre
    (refine wpAny_call ?_; refine' code_def (binds := [(Str.ofString "jd", Value.float (H (2 * J + 1)) t)]) B F X N T rfl rfl hk ?k6 ?k7 ?k8 ?k9 ?kB ?_ ?c2 ?c3 ?c4 ?c5; (case k6 => k_is); (case k7 => k_is); (case k8 => ktr_room); (case k9 => first | exact BindsTo.of_eq rfl | exact binds_K (by k_in) rfl (by k_is) rfl rfl rfl); (case kB => exact locs rfl); (case c2 => exact rfl); (case c3 => exact rfl); (case c4 => exact rfl); (case c5 => decide); intro g' L' h' FG' F' N' B' X' T'; dsimp only; k_fold)
    k_steps
    all_goals (refine hret _ _ _ [_] (by k_asm) (by k_asm) ⟨_, _, _, _, rfl, rfl⟩)
  · subst hm
    have e3 : Eqn ((W - (2 * iJ y 12 1 + 1)) / 2 + 1) d := by unfold Eqn; unfold iJ at hb ⊢; omega
    have hbm : W - (2 * iJ y 12 1 + 1) ≥ 0 := by unfold iJ at hb ⊢; omega
    clear hb hpre
    (refine wpAny_call ?_; refine' code_def (binds := [(Str.ofString "jd", Value.float (H (2 * J + 1)) t)]) B F X N T rfl rfl hk ?k6 ?k7 ?k8 ?k9 ?kB ?_ ?c2 ?c3 ?c4 ?c5; (case k6 => k_is); (case k7 => k_is); (case k8 => ktr_room); (case k9 => first | exact BindsTo.of_eq rfl | exact binds_K (by k_in) rfl (by k_is) rfl rfl rfl); (case kB => exact locs rfl); (case c2 => exact rfl); (case c3 => exact rfl); (case c4 => exact rfl); (case c5 => decide); intro g' L' h' FG' F' N' B' X' T'; dsimp only; k_fold)
    k_steps
    all_goals (refine hret _ _ _ [_] (by k_asm) (by k_asm) ⟨_, _, _, _, rfl, rfl⟩)
  )) only [↓apart])
local macro_rules | `(tactic| kxt_pos) => `(tactic| (k_here; (with_reducible show wpAny _ _ (call (Value.ref 369) [Value.float (H (2 * _ + 1)) _]) _ _ _); k_dflt (refine' Con.use (con_fromjdi _ _ _ _ _ _ (by assumption)) ?k1 ?k2 ?k3 ?k4 ?k5 ?kK ?kp ?kd ?ku ?k0 ?_; (case k1 => k_asm); (case k2 => k_asm); (case k3 => k_asm); (case k4 => k_asm); (case k5 => k_asm); (case kK => first | exact rfl | assumption); (case kp => trivial); (case kd => ktr_room); (case ku => ktr_units); (case k0 => (dsimp only; omega))); intro v9 h9 tk9 new9 le9 F9 N9 p9; (try dsimp only at le9); obtain ⟨a9, t9, u9, v9, e9, e8⟩ := p9; subst e9 e8; (try simp only [List.nil_append, List.cons_append] at N9); (try dsimp only); (try k_sweep); (try k_fold)))
end
section
local macro_rules | `(tactic| kxt_pos) => `(tactic| (k_here; (with_reducible show wpAny _ _ (call (Value.ref 102) [Value.int _ _]) _ _ _); k_dflt (refine' Con.use (con_isleap _ _ _ _) ?k1 ?k2 ?k3 ?k4 ?k5 ?kK ?kp ?kd ?ku ?k0 ?_; (case k1 => k_asm); (case k2 => k_asm); (case k3 => k_asm); (case k4 => k_asm); (case k5 => k_asm); (case kK => first | exact rfl | assumption); (case kp => first | assumption | exact rfl); (case kd => ktr_room); (case ku => ktr_units); (case k0 => (dsimp only; omega))); intro v9 h9 tk9 new9 le9 F9 N9 p9; (try dsimp only at le9); obtain ⟨e9, e8⟩ := p9; subst e9 e8; (try simp only [List.nil_append, List.cons_append] at N9); (try dsimp only); (try k_sweep); (try k_fold)))
local macro_rules | `(tactic| kxt_pos) => `(tactic| (k_here; (with_reducible show wpAny _ _ (call (Value.ref 109) [Value.int _ _, Value.int _ _, Value.int _ _]) _ _ _); k_dflt (refine' Con.use (con_legal _ _ _ _ _ _ _) ?k1 ?k2 ?k3 ?k4 ?k5 ?kK ?kp ?kd ?ku ?k0 ?_; (case k1 => k_asm); (case k2 => k_asm); (case k3 => k_asm); (case k4 => k_asm); (case k5 => k_asm); (case kK => first | exact rfl | assumption); (case kp => first | assumption | omega); (case kd => ktr_room); (case ku => ktr_units); (case k0 => (dsimp only; omega))); intro v9 h9 tk9 new9 le9 F9 N9 p9; (try dsimp only at le9); obtain ⟨e9, e8⟩ := p9; subst e9 e8; (try simp only [List.nil_append, List.cons_append] at N9); (try dsimp only); (try k_sweep); (try k_fold)))
local macro_rules | `(tactic| kxt_pos) => `(tactic| (k_here; (with_reducible show wpAny _ _ (call (Value.ref 116) [Value.int _ _, Value.int _ _, Value.int _ _]) _ _ _); k_dflt (refine' Con.use (con_tojd _ _ _ _ _ _ _) ?k1 ?k2 ?k3 ?k4 ?k5 ?kK ?kp ?kd ?ku ?k0 ?_; (case k1 => k_asm); (case k2 => k_asm); (case k3 => k_asm); (case k4 => k_asm); (case k5 => k_asm); (case kK => first | exact rfl | assumption); (case kp => first | ((refine tojd_pre ?_ ?_ ?_) <;> omega) | omega); (case kd => ktr_room); (case ku => ktr_units); (case k0 => (dsimp only; omega))); intro v9 h9 tk9 new9 le9 F9 N9 p9; (try dsimp only at le9); obtain ⟨e9, b9, t9, n9, e8⟩ := p9; subst e9 e8; (try simp only [List.nil_append, List.cons_append] at N9); (try dsimp only); (try k_sweep); (try k_fold)))
def lp (y : Int) : Int := if leapB y = true then 1 else 0
theorem lp_b (y : Int) : 0 ≤ lp y ∧ lp y ≤ 1 := by unfold lp; split <;> omega
def nJg (g m d : Int) : Int := gJ g 1 1 + 80 + (if m = 1 then 0 else 30 + lp g + (if m ≤ 7 then m - 2 else 5) * 31 + (if 8 ≤ m then (m - 7) * 30 else 0)) + (d - 1)
def nJ (y m d : Int) : Int := nJg (y + 78) m d
theorem gJ_ind1 (g : Int) (h : leapB g = true) : gJ g 3 (22 - 1) = gJ g 1 1 + 80 := by unfold gJ doy; simp [h]
theorem gJ_ind0 (g : Int) (h : leapB g = false) : gJ g 3 (22 - 0) = gJ g 1 1 + 80 := by unfold gJ doy; simp [h]
theorem gY_succ (g : Int) : gY g = gY (g - 1) + 365 + lp (g - 1) := by
  unfold gY lp
  split
  · next h => rw [leap_iff] at h; omega
  · next h => rw [leap_iff] at h; omega
theorem con_tojdn (w : World) (y m d : Int) (t u v : Tok) : Con w 334 4 32 [.int y t, .int m u, .int d v] (fun _ => (1 ≤ y ∧ y < 20000) ∧ (1 ≤ m ∧ m ≤ 12) ∧ 0 < d ∧ d ≤ 31) (fun new v => new = [] ∧ ∃ tk, tk ≠ 0 ∧ v = .float (H (2 * nJ y m d + 1)) tk) := Apart.get (by simp (disch := k_dflt (
  unfold Con
  k_fill
  intro p loose mean mg mb dp un gd cn cs a ccd cl outer A₀ base h₀ L ma news s Q E B F X N T hk hpre hdp hun htk0 hret
  obtain ⟨hy, hm, hd⟩ := hpre
  have hm8 : m = 1 ∨ (2 ≤ m ∧ m ≤ 7) ∨ (8 ≤ m ∧ m ≤ 12) := by omega
  clear hm
  obtain ⟨g, hg⟩ : ∃ g, g = y + 78 := ⟨_, rfl⟩
  have e0 : Eqn (y + 78) g := hg.symm
  have hf : nJ y m d = nJg g m d := by rw [hg]; rfl
  unfold nJg lp at hf
  rw [hf] at hret
  clear hf
  cases hl : leapB g
  · have hs := gJ_ind0 g hl
    rw [hl] at hret
    rcases hm8 with hm | hm | hm
    all_goals
      (refine wpAny_call ?_; refine' code_def (binds := [(Str.ofString "year", Value.int y t), (Str.ofString "month", Value.int m u), (Str.ofString "day", Value.int d v)]) B F X N T rfl rfl hk ?k6 ?k7 ?k8 ?k9 ?kB ?_ ?c2 ?c3 ?c4 ?c5; (case k6 => k_is); (case k7 => k_is); (case k8 => ktr_room); (case k9 => first | exact BindsTo.of_eq rfl | exact binds_K (by k_in) rfl (by k_is) rfl rfl rfl); (case kB => exact locs rfl); (case c2 => exact rfl); (case c3 => exact rfl); (case c4 => exact rfl); (case c5 => decide); intro g' L' h' FG' F' N' B' X' T'; dsimp only; k_fold)
    all_goals k_steps
    all_goals (refine hret _ _ _ [] (by k_asm) (by k_asm) ⟨rfl, _, Nat.succ_ne_zero _, fl_eq ?_⟩; subst_vars; first | omega | (simp only [Bool.false_eq_true, if_true, if_false] at *; omega))
  · have hs := gJ_ind1 g hl
    rw [hl] at hret
    rcases hm8 with hm | hm | hm
    all_goals
      (refine wpAny_call ?_; refine' code_def (binds := [(Str.ofString "year", Value.int y t), (Str.ofString "month", Value.int m u), (Str.ofString "day", Value.int d v)]) B F X N T rfl rfl hk ?k6 ?k7 ?k8 ?k9 ?kB ?_ ?c2 ?c3 ?c4 ?c5; (case k6 => k_is); (case k7 => k_is); (case k8 => ktr_room); (case k9 => first | exact BindsTo.of_eq rfl | exact binds_K (by k_in) rfl (by k_is) rfl rfl rfl); (case kB => exact locs rfl); (case c2 => exact rfl); (case c3 => exact rfl); (case c4 => exact rfl); (case c5 => decide); intro g' L' h' FG' F' N' B' X' T'; dsimp only; k_fold)
    all_goals k_steps
    all_goals (refine hret _ _ _ [] (by k_asm) (by k_asm) ⟨rfl, _, Nat.succ_ne_zero _, fl_eq ?_⟩; subst_vars; first | omega | (simp only [Bool.false_eq_true, if_true, if_false] at *; omega))
  )) only [↓apart])
local macro_rules | `(tactic| kxt_pos) => `(tactic| (k_here; (with_reducible show wpAny _ _ (call (Value.ref 334) [Value.int _ _, Value.int _ _, Value.int _ _]) _ _ _); k_dflt (refine' Con.use (con_tojdn _ _ _ _ _ _ _) ?k1 ?k2 ?k3 ?k4 ?k5 ?kK ?kp ?kd ?ku ?k0 ?_; (case k1 => k_asm); (case k2 => k_asm); (case k3 => k_asm); (case k4 => k_asm); (case k5 => k_asm); (case kK => first | exact rfl | assumption); (case kp => first | assumption | omega); (case kd => ktr_room); (case ku => ktr_units); (case k0 => (dsimp only; omega))); intro v9 h9 tk9 new9 le9 F9 N9 p9; (try dsimp only at le9); obtain ⟨e9, t9, n9, e8⟩ := p9; subst e9 e8; (try simp only [List.nil_append, List.cons_append] at N9); (try dsimp only); (try k_sweep); (try k_fold)))
end
section
local macro_rules | `(tactic| kxt_pos) => `(tactic| (k_here; (with_reducible show wpAny _ _ (call (Value.ref 102) [Value.int _ _]) _ _ _); k_dflt (refine' Con.use (con_isleap _ _ _ _) ?k1 ?k2 ?k3 ?k4 ?k5 ?kK ?kp ?kd ?ku ?k0 ?_; (case k1 => k_asm); (case k2 => k_asm); (case k3 => k_asm); (case k4 => k_asm); (case k5 => k_asm); (case kK => first | exact rfl | assumption); (case kp => first | assumption | exact rfl); (case kd => ktr_room); (case ku => ktr_units); (case k0 => (dsimp only; omega))); intro v9 h9 tk9 new9 le9 F9 N9 p9; (try dsimp only at le9); obtain ⟨e9, e8⟩ := p9; subst e9 e8; (try simp only [List.nil_append, List.cons_append] at N9); (try dsimp only); (try k_sweep); (try k_fold)))
local macro_rules | `(tactic| kxt_pos) => `(tactic| (k_here; (with_reducible show wpAny _ _ (call (Value.ref 109) [Value.int _ _, Value.int _ _, Value.int _ _]) _ _ _); k_dflt (refine' Con.use (con_legal _ _ _ _ _ _ _) ?k1 ?k2 ?k3 ?k4 ?k5 ?kK ?kp ?kd ?ku ?k0 ?_; (case k1 => k_asm); (case k2 => k_asm); (case k3 => k_asm); (case k4 => k_asm); (case k5 => k_asm); (case kK => first | exact rfl | assumption); (case kp => first | assumption | omega); (case kd => ktr_room); (case ku => ktr_units); (case k0 => (dsimp only; omega))); intro v9 h9 tk9 new9 le9 F9 N9 p9; (try dsimp only at le9); obtain ⟨e9, e8⟩ := p9; subst e9 e8; (try simp only [List.nil_append, List.cons_append] at N9); (try dsimp only); (try k_sweep); (try k_fold)))
local macro_rules | `(tactic| kxt_pos) => `(tactic| (k_here; (with_reducible show wpAny _ _ (call (Value.ref 116) [Value.int _ _, Value.int _ _, Value.int _ _]) _ _ _); k_dflt (refine' Con.use (con_tojd _ _ _ _ _ _ _) ?k1 ?k2 ?k3 ?k4 ?k5 ?kK ?kp ?kd ?ku ?k0 ?_; (case k1 => k_asm); (case k2 => k_asm); (case k3 => k_asm); (case k4 => k_asm); (case k5 => k_asm); (case kK => first | exact rfl | assumption); (case kp => first | ((refine tojd_pre ?_ ?_ ?_) <;> omega) | omega); (case kd => ktr_room); (case ku => ktr_units); (case k0 => (dsimp only; omega))); intro v9 h9 tk9 new9 le9 F9 N9 p9; (try dsimp only at le9); obtain ⟨e9, b9, t9, n9, e8⟩ := p9; subst e9 e8; (try simp only [List.nil_append, List.cons_append] at N9); (try dsimp only); (try k_sweep); (try k_fold)))
local macro_rules | `(tactic| kxt_pos) => `(tactic| (k_here; (with_reducible show wpAny _ _ (call (Value.ref 123) [Value.float _ _]) _ _ _); k_dflt (refine' Con.use (con_fromjd' _ _ _ _ _ (by assumption) _ (by first | rfl | assumption | omega) _) ?k1 ?k2 ?k3 ?k4 ?k5 ?kK ?kp ?kd ?ku ?k0 ?_; (case k1 => k_asm); (case k2 => k_asm); (case k3 => k_asm); (case k4 => k_asm); (case k5 => k_asm); (case kK => first | exact rfl | assumption); (case kp => trivial); (case kd => ktr_room); (case ku => ktr_units); (case k0 => (dsimp only; omega))); intro v9 h9 tk9 new9 le9 F9 N9 p9; (try dsimp only at le9); obtain ⟨a9, t9, u9, v9, e9, e8⟩ := p9; subst e9 e8; (try simp only [List.nil_append, List.cons_append] at N9); (try dsimp only); (try k_sweep); (try k_fold)))
structure Ind (J gy gm gd r y m d : Int) : Prop where
  g : Greg J gy gm gd
  gb : 1700 ≤ gy ∧ gy < 19000
  hr : r = J - gJ gy 1 1
  rb : 0 ≤ r ∧ r ≤ 364 + lp gy
  k : (r < 80 ∧ Eqn (gy - 79) y ∧ Eqn ((r + 100) / 30 + 7) m ∧ Eqn ((r + 100) % 30 + 1) d) ∨ (80 ≤ r ∧ Eqn (gy - 78) y ∧
      ((r - 80 < 30 + lp gy ∧ Eqn 1 m ∧ Eqn (r - 80 + 1) d) ∨ ((30 + lp gy ≤ r - 80 ∧ r - 80 - (30 + lp gy) < 155) ∧ Eqn ((r - 80 - (30 + lp gy)) / 31 + 2) m ∧ Eqn ((r - 80 - (30 + lp gy)) % 31 + 1) d)
      ∨ (155 ≤ r - 80 - (30 + lp gy) ∧ Eqn ((r - 80 - (30 + lp gy) - 155) / 30 + 7) m ∧ Eqn ((r - 80 - (30 + lp gy) - 155) % 30 + 1) d)))
  bnd : (1 ≤ y ∧ y < 20000) ∧ (1 ≤ m ∧ m ≤ 12) ∧ 0 < d ∧ d ≤ 31
  back : nJ y m d = J
theorem ind_of {J gy gm gd : Int} (g : Greg J gy gm gd) (gb : 1700 ≤ gy ∧ gy < 19000) : ∃ r y m d, Ind J gy gm gd r y m d := by
  obtain ⟨r, hr⟩ : ∃ r, r = J - gJ gy 1 1 := ⟨_, rfl⟩
  have rb : 0 ≤ r ∧ r ≤ 364 + lp gy := by
    have h := doy_month g.m1 g.m2 g.d1 g.d2 rfl rfl
    have h11 : doy gy 1 1 = 0 := by unfold doy; simp
    have e : r = doy gy gm gd := by rw [hr, g.eq]; unfold gJ; omega
    rw [e]; exact ⟨h.1, h.2.1⟩
  have hl := lp_b gy
  have hl1 := lp_b (gy - 1)
  have hs := gY_succ gy
  have h1 : gJ gy 1 1 = gJ (gy - 1) 1 1 + 365 + lp (gy - 1) := by unfold gJ doy; simp; omega
  have hJ : J = gJ gy 1 1 + r := by omega
  have fin : ∀ y m d G, y + 78 = G → nJ y m d = nJg G m d := fun y m d G e => by rw [← e]; rfl
  by_cases c1 : r < 80
  · refine ⟨r, gy - 79, _, _, g, gb, hr, rb, .inl ⟨c1, rfl, rfl, rfl⟩, by omega, ?_⟩
    rw [fin _ _ _ (gy - 1) (by omega), hJ, h1]
    unfold nJg
    rw [if_neg (by omega), if_neg (by omega), if_pos (by omega)]; omega
  · by_cases c2 : r - 80 < 30 + lp gy
    · refine ⟨r, gy - 78, 1, _, g, gb, hr, rb, .inr ⟨by omega, rfl, .inl ⟨c2, rfl, rfl⟩⟩, by omega, ?_⟩
      rw [fin _ _ _ gy (by omega), hJ]
      unfold nJg
      rw [if_pos rfl]; omega
    · by_cases c3 : r - 80 - (30 + lp gy) < 155
      · refine ⟨r, gy - 78, _, _, g, gb, hr, rb, .inr ⟨by omega, rfl, .inr (.inl ⟨⟨by omega, c3⟩, rfl, rfl⟩)⟩, by omega, ?_⟩
        rw [fin _ _ _ gy (by omega), hJ]
        unfold nJg
        rw [if_neg (by omega), if_pos (by omega), if_neg (by omega)]; omega
      · refine ⟨r, gy - 78, _, _, g, gb, hr, rb, .inr ⟨by omega, rfl, .inr (.inr ⟨by omega, rfl, rfl⟩)⟩, by omega, ?_⟩
        rw [fin _ _ _ gy (by omega), hJ]
        unfold nJg
        rw [if_neg (by omega)]
        by_cases c4 : (r - 80 - (30 + lp gy) - 155) / 30 + 7 = 7
        · rw [if_pos (by omega), if_neg (by omega)]; omega
        · rw [if_neg (by omega), if_pos (by omega)]; omega
theorem con_fromjdn (w : World) (J gy gm gd r y m d : Int) (t : Tok) (G : Ind J gy gm gd r y m d) : Con w 341 5 40 [.float (H (2 * J + 1)) t] (fun _ => True) (fun new v => ∃ a t1 t2 t3 y' m' d', (new = [(a, { cls := .type "tuple", data := .seq #[.int y' t1, .int m' t2, .int d' t3] })] ∧ v = .ref a) ∧ y' = y ∧ m' = m ∧ d' = d) := Apart.get (by simp (disch := k_dflt (
  unfold Con
  k_fill
  intro p loose mean mg mb dp un gd' cn cs a ccd cl outer A₀ base h₀ L ma news s Q E B F X N T hk hpre hdp hun htk0 hret
  obtain ⟨G, gb, hr, rb, k, bnd, back⟩ := G
  obtain ⟨W, hW⟩ : ∃ W, W = 2 * J + 1 := ⟨_, rfl⟩
  have e0 : Eqn (2 * ((2 * J + 1) / 2) + 1) W := by unfold Eqn; omega
  obtain ⟨P, hP⟩ : ∃ P, P = 2 * gJ gy 1 1 + 1 := ⟨_, rfl⟩
  have ep : Eqn (2 * gJ gy 1 1 + 1) P := hP.symm
  have e1 : Eqn (W - P) (2 * r) := by unfold Eqn; omega
  have hJb : 1721425 ≤ J ∧ J < 400000000 := by rw [G.eq]; exact gJ_bound ⟨G.y1, by have := G.y2; omega⟩ ⟨G.m1, G.m2⟩ G.d1 G.d2
  have hgb := gJ_bound (y := gy) (m := 1) (d := 1) ⟨G.y1, by have := G.y2; omega⟩ ⟨by omega, by omega⟩ (by omega) (mlen_ge _ _ _ (by omega))
  have hPb : 0 < P ∧ P < 800000002 := by omega
  clear hr hpre bnd back hP hgb
  cases hl : leapB gy
  all_goals unfold lp at rb k
  all_goals rw [hl] at rb k
  all_goals simp only [Bool.false_eq_true, if_true, if_false] at rb k
  all_goals rcases k with ⟨c1, hy, hm, hd⟩ | ⟨c1, hy, ⟨c2, hm, hd⟩ | ⟨⟨c2, c3⟩, hm, hd⟩ | ⟨c3, hm, hd⟩⟩
  all_goals
    (refine wpAny_call ?_; refine' code_def (binds := [(Str.ofString "jd", Value.float (H (2 * J + 1)) t)]) B F X N T rfl rfl hk ?k6 ?k7 ?k8 ?k9 ?kB ?_ ?c2 ?c3 ?c4 ?c5; (case k6 => k_is); (case k7 => k_is); (case k8 => ktr_room); (case k9 => first | exact BindsTo.of_eq rfl | exact binds_K (by k_in) rfl (by k_is) rfl rfl rfl); (case kB => exact locs rfl); (case c2 => exact rfl); (case c3 => exact rfl); (case c4 => exact rfl); (case c5 => decide); intro g' L' h' FG' F' N' B' X' T'; dsimp only; k_fold)
  all_goals k_steps
  all_goals (refine hret _ _ _ [_] (by k_asm) (by first | k_asm | exact drop1 (by k_asm)) ⟨_, _, _, _, _, _, _, ⟨rfl, rfl⟩, ?_, ?_, ?_⟩ <;> (unfold Eqn at *; omega))
  )) only [↓apart])
local macro_rules | `(tactic| kxt_pos) => `(tactic| (k_here; (with_reducible show wpAny _ _ (call (Value.ref 341) [Value.float (H (2 * _ + 1)) _]) _ _ _); k_dflt (refine' Con.use (con_fromjdn _ _ _ _ _ _ _ _ _ _ (by assumption)) ?k1 ?k2 ?k3 ?k4 ?k5 ?kK ?kp ?kd ?ku ?k0 ?_; (case k1 => k_asm); (case k2 => k_asm); (case k3 => k_asm); (case k4 => k_asm); (case k5 => k_asm); (case kK => first | exact rfl | assumption); (case kp => trivial); (case kd => ktr_room); (case ku => ktr_units); (case k0 => (dsimp only; omega))); intro v9 h9 tk9 new9 le9 F9 N9 p9; (try dsimp only at le9); obtain ⟨a9, t9, u9, v9, y9, m9, d9, ⟨e9, e8⟩, e7, e6, e5⟩ := p9; subst e9 e8 e7 e6 e5; (try simp only [List.nil_append, List.cons_append] at N9); (try dsimp only); (try k_sweep); (try k_fold)))
end
section
local macro_rules | `(tactic| kxt_pos) => `(tactic| (k_here; (with_reducible show wpAny _ _ (call (Value.ref 102) [Value.int _ _]) _ _ _); k_dflt (refine' Con.use (con_isleap _ _ _ _) ?k1 ?k2 ?k3 ?k4 ?k5 ?kK ?kp ?kd ?ku ?k0 ?_; (case k1 => k_asm); (case k2 => k_asm); (case k3 => k_asm); (case k4 => k_asm); (case k5 => k_asm); (case kK => first | exact rfl | assumption); (case kp => first | assumption | exact rfl); (case kd => ktr_room); (case ku => ktr_units); (case k0 => (dsimp only; omega))); intro v9 h9 tk9 new9 le9 F9 N9 p9; (try dsimp only at le9); obtain ⟨e9, e8⟩ := p9; subst e9 e8; (try simp only [List.nil_append, List.cons_append] at N9); (try dsimp only); (try k_sweep); (try k_fold)))
local macro_rules | `(tactic| kxt_pos) => `(tactic| (k_here; (with_reducible show wpAny _ _ (call (Value.ref 109) [Value.int _ _, Value.int _ _, Value.int _ _]) _ _ _); k_dflt (refine' Con.use (con_legal _ _ _ _ _ _ _) ?k1 ?k2 ?k3 ?k4 ?k5 ?kK ?kp ?kd ?ku ?k0 ?_; (case k1 => k_asm); (case k2 => k_asm); (case k3 => k_asm); (case k4 => k_asm); (case k5 => k_asm); (case kK => first | exact rfl | assumption); (case kp => first | assumption | omega); (case kd => ktr_room); (case ku => ktr_units); (case k0 => (dsimp only; omega))); intro v9 h9 tk9 new9 le9 F9 N9 p9; (try dsimp only at le9); obtain ⟨e9, e8⟩ := p9; subst e9 e8; (try simp only [List.nil_append, List.cons_append] at N9); (try dsimp only); (try k_sweep); (try k_fold)))
local macro_rules | `(tactic| kxt_pos) => `(tactic| (k_here; (with_reducible show wpAny _ _ (call (Value.ref 116) [Value.int _ _, Value.int _ _, Value.int _ _]) _ _ _); k_dflt (refine' Con.use (con_tojd _ _ _ _ _ _ _) ?k1 ?k2 ?k3 ?k4 ?k5 ?kK ?kp ?kd ?ku ?k0 ?_; (case k1 => k_asm); (case k2 => k_asm); (case k3 => k_asm); (case k4 => k_asm); (case k5 => k_asm); (case kK => first | exact rfl | assumption); (case kp => first | ((refine tojd_pre ?_ ?_ ?_) <;> omega) | omega); (case kd => ktr_room); (case ku => ktr_units); (case k0 => (dsimp only; omega))); intro v9 h9 tk9 new9 le9 F9 N9 p9; (try dsimp only at le9); obtain ⟨e9, b9, t9, n9, e8⟩ := p9; subst e9 e8; (try simp only [List.nil_append, List.cons_append] at N9); (try dsimp only); (try k_sweep); (try k_fold)))
local macro_rules | `(tactic| kxt_pos) => `(tactic| (k_here; (with_reducible show wpAny _ _ (call (Value.ref 123) [Value.float _ _]) _ _ _); k_dflt (refine' Con.use (con_fromjd' _ _ _ _ _ (by assumption) _ (by first | rfl | assumption | omega) _) ?k1 ?k2 ?k3 ?k4 ?k5 ?kK ?kp ?kd ?ku ?k0 ?_; (case k1 => k_asm); (case k2 => k_asm); (case k3 => k_asm); (case k4 => k_asm); (case k5 => k_asm); (case kK => first | exact rfl | assumption); (case kp => trivial); (case kd => ktr_room); (case ku => ktr_units); (case k0 => (dsimp only; omega))); intro v9 h9 tk9 new9 le9 F9 N9 p9; (try dsimp only at le9); obtain ⟨a9, t9, u9, v9, e9, e8⟩ := p9; subst e9 e8; (try simp only [List.nil_append, List.cons_append] at N9); (try dsimp only); (try k_sweep); (try k_fold)))
theorem con_fromgo (w : World) (y m d : Int) (t u v : Tok) : Con w 488 2 16 [.int y t, .int m u, .int d v] (fun _ => (1 ≤ y ∧ y < 100000) ∧ (1 ≤ m ∧ m ≤ 12) ∧ (1 ≤ d ∧ d ≤ mlen y m)) (fun new v => ∃ a t1 t2, new = [(a, { cls := .type "tuple", data := .seq #[.int y t1, .int (doy y m d + 1) t2] })] ∧ v = .ref a) := Apart.get (by simp (disch := k_dflt (
  unfold Con
  k_fill
  intro p loose mean mg mb dp un gd cn cs a ccd cl outer A₀ base h₀ L ma news s Q E B F X N T hk hpre hdp hun htk0 hret
  obtain ⟨hy, hm, hd⟩ := hpre
  have hd31 : d ≤ 31 := by have := mlen_cases hd.2; omega
  cases hl : leapB y
  all_goals
    (refine wpAny_call ?_; refine' code_def (binds := [(Str.ofString "year", Value.int y t), (Str.ofString "month", Value.int m u), (Str.ofString "day", Value.int d v)]) B F X N T rfl rfl hk ?k6 ?k7 ?k8 ?k9 ?kB ?_ ?c2 ?c3 ?c4 ?c5; (case k6 => k_is); (case k7 => k_is); (case k8 => ktr_room); (case k9 => first | exact BindsTo.of_eq rfl | exact binds_K (by k_in) rfl (by k_is) rfl rfl rfl); (case kB => exact locs rfl); (case c2 => exact rfl); (case c3 => exact rfl); (case c4 => exact rfl); (case c5 => decide); intro g' L' h' FG' F' N' B' X' T'; dsimp only; k_fold)
  all_goals k_steps
  all_goals subst_vars
  · have e : doy y m d + 1 = 306 * (m + 1 + 12) / 10 + d - 122 + 59 + 0 - 365 - 0 := by unfold doy; rw [if_pos (by omega)]; omega
    rw [e] at hret
    refine hret _ _ _ [_] (by k_asm) (by k_asm) ⟨_, _, _, rfl, rfl⟩
  · have e : doy y m d + 1 = 306 * (m + 1) / 10 + d - 122 + 59 + 0 := by unfold doy; rw [if_neg (by omega), hl]; rcases months hm.1 hm.2 with h | h | h | h | h | h | h | h | h | h | h | h <;> subst h <;> simp only [Bool.false_eq_true, if_false] <;> omega
    rw [e] at hret
    refine hret _ _ _ [_] (by k_asm) (by k_asm) ⟨_, _, _, rfl, rfl⟩
  · have e : doy y m d + 1 = 306 * (m + 1 + 12) / 10 + d - 122 + 59 + 1 - 365 - 1 := by unfold doy; rw [if_pos (by omega)]; omega
    rw [e] at hret
    refine hret _ _ _ [_] (by k_asm) (by k_asm) ⟨_, _, _, rfl, rfl⟩
  · have e : doy y m d + 1 = 306 * (m + 1) / 10 + d - 122 + 59 + 1 := by unfold doy; rw [if_neg (by omega), hl]; rcases months hm.1 hm.2 with h | h | h | h | h | h | h | h | h | h | h | h <;> subst h <;> simp only [if_true] <;> omega
    rw [e] at hret
    refine hret _ _ _ [_] (by k_asm) (by k_asm) ⟨_, _, _, rfl, rfl⟩
  )) only [↓apart])
local macro_rules | `(tactic| kxt_pos) => `(tactic| (k_here; (with_reducible show wpAny _ _ (call (Value.ref 488) [Value.int _ _, Value.int _ _, Value.int _ _]) _ _ _); k_dflt (refine' Con.use (con_fromgo _ _ _ _ _ _ _) ?k1 ?k2 ?k3 ?k4 ?k5 ?kK ?kp ?kd ?ku ?k0 ?_; (case k1 => k_asm); (case k2 => k_asm); (case k3 => k_asm); (case k4 => k_asm); (case k5 => k_asm); (case kK => first | exact rfl | assumption); (case kp => first | ((refine ⟨?_, ?_, ?_, mlen_ge _ _ _ ?_⟩) <;> omega) | omega); (case kd => ktr_room); (case ku => ktr_units); (case k0 => (dsimp only; omega))); intro v9 h9 tk9 new9 le9 F9 N9 p9; (try dsimp only at le9); obtain ⟨a9, t9, u9, e9, e8⟩ := p9; subst e9 e8; (try simp only [List.nil_append, List.cons_append] at N9); (try dsimp only); (try k_sweep); (try k_fold)))
theorem con_fromjdo (w : World) (J y m d : Int) (t : Tok) (G : Greg J y m d) : Con w 481 6 48 [.float (H (2 * J + 1)) t] (fun _ => True) (fun new v => ∃ a t1 t2, new = [(a, { cls := .type "tuple", data := .seq #[.int y t1, .int (doy y m d + 1) t2] })] ∧ v = .ref a) := Apart.get (by simp (disch := k_dflt (
  unfold Con
  k_fill
  intro p loose mean mg mb dp un gd cn cs a ccd cl outer A₀ base h₀ L ma news s Q E B F X N T hk hpre hdp hun htk0 hret
  have hG : (1 ≤ y ∧ y < 20000) ∧ (1 ≤ m ∧ m ≤ 12) ∧ 0 < d ∧ d ≤ mlen y m := ⟨⟨G.y1, G.y2⟩, ⟨G.m1, G.m2⟩, G.d1, G.d2⟩
  obtain ⟨hr0, hr1, _⟩ := doy_month G.m1 G.m2 G.d1 G.d2 rfl rfl
  have hr2 : doy y m d ≤ 365 := by revert hr1; split <;> omega
  have h11 : doy y 1 1 = 0 := by unfold doy; simp
  have e1 : 2 * gJ y m d + 1 - (2 * gJ y 1 1 + 1) = 2 * doy y m d := by unfold gJ; omega
  have e : doy y m d + 1 = (2 * gJ y m d + 1 - (2 * gJ y 1 1 + 1)) / 2 + 1 := by omega
  rw [e] at hret
  clear hr1
  (refine wpAny_call ?_; refine' code_def (binds := [(Str.ofString "jd", Value.float (H (2 * J + 1)) t)]) B F X N T rfl rfl hk ?k6 ?k7 ?k8 ?k9 ?kB ?_ ?c2 ?c3 ?c4 ?c5; (case k6 => k_is); (case k7 => k_is); (case k8 => ktr_room); (case k9 => first | exact BindsTo.of_eq rfl | exact binds_K (by k_in) rfl (by k_is) rfl rfl rfl); (case kB => exact locs rfl); (case c2 => exact rfl); (case c3 => exact rfl); (case c4 => exact rfl); (case c5 => decide); intro g' L' h' FG' F' N' B' X' T'; dsimp only; k_fold)
  k_steps
  all_goals (refine hret _ _ _ [_] (by k_asm) (by first | k_asm | exact drop1 (by k_asm)) ⟨_, _, _, rfl, rfl⟩)
  )) only [↓apart])
local macro_rules | `(tactic| kxt_pos) => `(tactic| (k_here; (with_reducible show wpAny _ _ (call (Value.ref 481) [Value.float (H (2 * _ + 1)) _]) _ _ _); k_dflt (refine' Con.use (con_fromjdo _ _ _ _ _ _ (by assumption)) ?k1 ?k2 ?k3 ?k4 ?k5 ?kK ?kp ?kd ?ku ?k0 ?_; (case k1 => k_asm); (case k2 => k_asm); (case k3 => k_asm); (case k4 => k_asm); (case k5 => k_asm); (case kK => first | exact rfl | assumption); (case kp => trivial); (case kd => ktr_room); (case ku => ktr_units); (case k0 => (dsimp only; omega))); intro v9 h9 tk9 new9 le9 F9 N9 p9; (try dsimp only at le9); obtain ⟨a9, t9, u9, e9, e8⟩ := p9; subst e9 e8; (try simp only [List.nil_append, List.cons_append] at N9); (try dsimp only); (try k_sweep); (try k_fold)))
theorem con_tojdo (w : World) (y n : Int) (t u : Tok) : Con w 474 4 32 [.int y t, .int n u] (fun _ => (1 ≤ y ∧ y < 20000) ∧ (1 ≤ n ∧ n ≤ 400)) (fun new v => new = [] ∧ ∃ tk, tk ≠ 0 ∧ v = .float (H (2 * (gJ y 1 1 + n - 1) + 1)) tk) := Apart.get (by simp (disch := k_dflt (
  unfold Con
  k_fill
  intro p loose mean mg mb dp un gd cn cs a ccd cl outer A₀ base h₀ L ma news s Q E B F X N T hk hpre hdp hun htk0 hret
  (refine wpAny_call ?_; refine' code_def (binds := [(Str.ofString "year", Value.int y t), (Str.ofString "dayofyear", Value.int n u)]) B F X N T rfl rfl hk ?k6 ?k7 ?k8 ?k9 ?kB ?_ ?c2 ?c3 ?c4 ?c5; (case k6 => k_is); (case k7 => k_is); (case k8 => ktr_room); (case k9 => first | exact BindsTo.of_eq rfl | exact binds_K (by k_in) rfl (by k_is) rfl rfl rfl); (case kB => exact locs rfl); (case c2 => exact rfl); (case c3 => exact rfl); (case c4 => exact rfl); (case c5 => decide); intro g' L' h' FG' F' N' B' X' T'; dsimp only; k_fold)
  k_steps
  all_goals (refine hret _ _ _ [] (by k_asm) (by k_asm) ⟨rfl, _, Nat.succ_ne_zero _, fl_eq ?_⟩; omega)
  )) only [↓apart])
local macro_rules | `(tactic| kxt_pos) => `(tactic| (k_here; (with_reducible show wpAny _ _ (call (Value.ref 474) [Value.int _ _, Value.int _ _]) _ _ _); k_dflt (refine' Con.use (con_tojdo _ _ _ _ _) ?k1 ?k2 ?k3 ?k4 ?k5 ?kK ?kp ?kd ?ku ?k0 ?_; (case k1 => k_asm); (case k2 => k_asm); (case k3 => k_asm); (case k4 => k_asm); (case k5 => k_asm); (case kK => first | exact rfl | assumption); (case kp => first | assumption | omega); (case kd => ktr_room); (case ku => ktr_units); (case k0 => (dsimp only; omega))); intro v9 h9 tk9 new9 le9 F9 N9 p9; (try dsimp only at le9); obtain ⟨e9, t9, n9, e8⟩ := p9; subst e9 e8; (try simp only [List.nil_append, List.cons_append] at N9); (try dsimp only); (try k_sweep); (try k_fold)))
theorem mon2 {y m r adj lp : Int} (m1 : 1 ≤ m) (m2 : m ≤ 12) (d : Int) (d1 : 0 < d) (d2 : d ≤ mlen y m) (hr : r = doy y m d) (hl : lp = if leapB y = true then 1 else 0)
    (ha : adj = if r + 1 < 59 + lp then 0 else if leapB y = true then 1 else 2) : Eqn (((r + 1 - 1 + adj) * 12 + 373) / 367) m := by
  have h := (doy_month (adj := adj) m1 m2 d1 d2 hr (by
    rw [ha, hl]
    have e : (r + 1 < 59 + if leapB y = true then 1 else 0) = (r < 58 + if leapB y = true then 1 else 0) := by
      refine propext ⟨fun h => by omega, fun h => by omega⟩
    simp only [e])).2.2
  unfold Eqn
  rw [show r + 1 - 1 = r by omega]
  exact h
theorem con_togo (w : World) (J y m d : Int) (t u : Tok) (G : Greg J y m d) : Con w 495 4 32 [.int y t, .int (doy y m d + 1) u] (fun _ => True) (fun new v => ∃ a t1 t2 t3, new = [(a, { cls := .type "tuple", data := .seq #[.int y t1, .int m t2, .int d t3] })] ∧ v = .ref a) := Apart.get (by simp (disch := k_dflt (
  unfold Con
  k_fill
  intro p loose mean mg mb dp un gd cn cs a ccd cl outer A₀ base h₀ L ma news s Q E B F X N T hk hpre hdp hun htk0 hret
  have hG : (1 ≤ y ∧ y < 20000) ∧ (1 ≤ m ∧ m ≤ 12) ∧ 0 < d := ⟨⟨G.y1, G.y2⟩, ⟨G.m1, G.m2⟩, G.d1⟩
  obtain ⟨hr0, hr1, _⟩ := doy_month G.m1 G.m2 G.d1 G.d2 rfl rfl
  have e1 : d = doy y m d + 1 - (doy y m 1 + 1) + 1 := by unfold doy; omega
  have hmon := fun lp hl adj ha => mon2 (y := y) (adj := adj) (lp := lp) G.m1 G.m2 d G.d1 G.d2 rfl hl ha
  have hr2 : doy y m d ≤ 365 := by revert hr1; split <;> omega
  clear hr1
  generalize doy y m d = r at *
  have hd : r + 1 - (doy y m 1 + 1) + 1 = d := e1.symm
  clear G e1
  subst hd
  cases hl : leapB y
  · by_cases hlt : r + 1 < 59 + 0
    · have e4 := hmon 0 (by rw [hl]; rfl) 0 (by rw [if_pos hlt])
      clear hmon
      (refine wpAny_call ?_; refine' code_def (binds := [(Str.ofString "year", Value.int y t), (Str.ofString "dayofyear", Value.int (r + 1) u)]) B F X N T rfl rfl hk ?k6 ?k7 ?k8 ?k9 ?kB ?_ ?c2 ?c3 ?c4 ?c5; (case k6 => k_is); (case k7 => k_is); (case k8 => ktr_room); (case k9 => first | exact BindsTo.of_eq rfl | exact binds_K (by k_in) rfl (by k_is) rfl rfl rfl); (case kB => exact locs rfl); (case c2 => exact rfl); (case c3 => exact rfl); (case c4 => exact rfl); (case c5 => decide); intro g' L' h' FG' F' N' B' X' T'; dsimp only; k_fold)
      k_steps
      all_goals (refine hret _ _ _ [_] (by k_asm) (by first | k_asm | exact drop1 (by k_asm)) ⟨_, _, _, _, rfl, rfl⟩)
    · have e4 := hmon 0 (by rw [hl]; rfl) 2 (by rw [if_neg hlt, hl]; rfl)
      clear hmon
      (refine wpAny_call ?_; refine' code_def (binds := [(Str.ofString "year", Value.int y t), (Str.ofString "dayofyear", Value.int (r + 1) u)]) B F X N T rfl rfl hk ?k6 ?k7 ?k8 ?k9 ?kB ?_ ?c2 ?c3 ?c4 ?c5; (case k6 => k_is); (case k7 => k_is); (case k8 => ktr_room); (case k9 => first | exact BindsTo.of_eq rfl | exact binds_K (by k_in) rfl (by k_is) rfl rfl rfl); (case kB => exact locs rfl); (case c2 => exact rfl); (case c3 => exact rfl); (case c4 => exact rfl); (case c5 => decide); intro g' L' h' FG' F' N' B' X' T'; dsimp only; k_fold)
      k_steps
      all_goals (refine hret _ _ _ [_] (by k_asm) (by first | k_asm | exact drop1 (by k_asm)) ⟨_, _, _, _, rfl, rfl⟩)
  · by_cases hlt : r + 1 < 59 + 1
    · have e4 := hmon 1 (by rw [hl]; rfl) 0 (by rw [if_pos hlt])
      clear hmon
      (refine wpAny_call ?_; refine' code_def (binds := [(Str.ofString "year", Value.int y t), (Str.ofString "dayofyear", Value.int (r + 1) u)]) B F X N T rfl rfl hk ?k6 ?k7 ?k8 ?k9 ?kB ?_ ?c2 ?c3 ?c4 ?c5; (case k6 => k_is); (case k7 => k_is); (case k8 => ktr_room); (case k9 => first | exact BindsTo.of_eq rfl | exact binds_K (by k_in) rfl (by k_is) rfl rfl rfl); (case kB => exact locs rfl); (case c2 => exact rfl); (case c3 => exact rfl); (case c4 => exact rfl); (case c5 => decide); intro g' L' h' FG' F' N' B' X' T'; dsimp only; k_fold)
      k_steps
      all_goals (refine hret _ _ _ [_] (by k_asm) (by first | k_asm | exact drop1 (by k_asm)) ⟨_, _, _, _, rfl, rfl⟩)
    · have e4 := hmon 1 (by rw [hl]; rfl) 1 (by rw [if_neg hlt, hl]; rfl)
      clear hmon
      (refine wpAny_call ?_; refine' code_def (binds := [(Str.ofString "year", Value.int y t), (Str.ofString "dayofyear", Value.int (r + 1) u)]) B F X N T rfl rfl hk ?k6 ?k7 ?k8 ?k9 ?kB ?_ ?c2 ?c3 ?c4 ?c5; (case k6 => k_is); (case k7 => k_is); (case k8 => ktr_room); (case k9 => first | exact BindsTo.of_eq rfl | exact binds_K (by k_in) rfl (by k_is) rfl rfl rfl); (case kB => exact locs rfl); (case c2 => exact rfl); (case c3 => exact rfl); (case c4 => exact rfl); (case c5 => decide); intro g' L' h' FG' F' N' B' X' T'; dsimp only; k_fold)
      k_steps
      all_goals (refine hret _ _ _ [_] (by k_asm) (by first | k_asm | exact drop1 (by k_asm)) ⟨_, _, _, _, rfl, rfl⟩)
  )) only [↓apart])
local macro_rules | `(tactic| kxt_pos) => `(tactic| (k_here; (with_reducible show wpAny _ _ (call (Value.ref 495) [Value.int _ _, Value.int (doy _ _ _ + 1) _]) _ _ _); k_dflt (refine' Con.use (con_togo _ _ _ _ _ _ _ (by assumption)) ?k1 ?k2 ?k3 ?k4 ?k5 ?kK ?kp ?kd ?ku ?k0 ?_; (case k1 => k_asm); (case k2 => k_asm); (case k3 => k_asm); (case k4 => k_asm); (case k5 => k_asm); (case kK => first | exact rfl | assumption); (case kp => trivial); (case kd => ktr_room); (case ku => ktr_units); (case k0 => (dsimp only; omega))); intro v9 h9 tk9 new9 le9 F9 N9 p9; (try dsimp only at le9); obtain ⟨a9, t9, u9, v9, e9, e8⟩ := p9; subst e9 e8; (try simp only [List.nil_append, List.cons_append] at N9); (try dsimp only); (try k_sweep); (try k_fold)))
end
section
def mJ (b k t u n : Int) : Int := 584282 + b * 144000 + k * 7200 + t * 360 + u * 20 + n
abbrev MayB (b k t u n : Int) : Prop := (0 ≤ b ∧ b < 1000) ∧ (0 ≤ k ∧ k < 100) ∧ (0 ≤ t ∧ t < 100) ∧ (0 ≤ u ∧ u < 100) ∧ (0 ≤ n ∧ n < 100)
theorem con_tojdm (w : World) (b k t u n : Int) (t1 t2 t3 t4 t5 : Tok) : Con w 446 1 8 [.int b t1, .int k t2, .int t t3, .int u t4, .int n t5] (fun _ => MayB b k t u n) (fun new v => new = [] ∧ ∃ tk, tk ≠ 0 ∧ v = .float (H (2 * mJ b k t u n + 1)) tk) := Apart.get (by simp (disch := k_dflt (
  unfold Con
  k_fill
  intro p loose mean mg mb dp un gd cn cs a ccd cl outer A₀ base h₀ L ma news s Q E B F X N T hk hpre hdp hun htk0 hret
  (refine wpAny_call ?_; refine' code_def (binds := [(Str.ofString "baktun", Value.int b t1), (Str.ofString "katun", Value.int k t2), (Str.ofString "tun", Value.int t t3), (Str.ofString "uinal", Value.int u t4), (Str.ofString "kin", Value.int n t5)]) B F X N T rfl rfl hk ?k6 ?k7 ?k8 ?k9 ?kB ?_ ?c2 ?c3 ?c4 ?c5; (case k6 => k_is); (case k7 => k_is); (case k8 => ktr_room); (case k9 => first | exact BindsTo.of_eq rfl | exact binds_K (by k_in) rfl (by k_is) rfl rfl rfl); (case kB => exact locs rfl); (case c2 => exact rfl); (case c3 => exact rfl); (case c4 => exact rfl); (case c5 => decide); intro g' L' h' FG' F' N' B' X' T'; dsimp only; k_fold)
  k_steps
  all_goals (refine hret _ _ _ [] (by k_asm) (by k_asm) ⟨rfl, _, Nat.succ_ne_zero _, fl_eq ?_⟩; unfold mJ; omega)
  )) only [↓apart])
local macro_rules | `(tactic| kxt_pos) => `(tactic| (k_here; (with_reducible show wpAny _ _ (call (Value.ref 446) [Value.int _ _, Value.int _ _, Value.int _ _, Value.int _ _, Value.int _ _]) _ _ _); k_dflt (refine' Con.use (con_tojdm _ _ _ _ _ _ _ _ _ _ _) ?k1 ?k2 ?k3 ?k4 ?k5 ?kK ?kp ?kd ?ku ?k0 ?_; (case k1 => k_asm); (case k2 => k_asm); (case k3 => k_asm); (case k4 => k_asm); (case k5 => k_asm); (case kK => first | exact rfl | assumption); (case kp => first | assumption | omega); (case kd => ktr_room); (case ku => ktr_units); (case k0 => (dsimp only; omega))); intro v9 h9 tk9 new9 le9 F9 N9 p9; (try dsimp only at le9); obtain ⟨e9, t9, n9, e8⟩ := p9; subst e9 e8; (try simp only [List.nil_append, List.cons_append] at N9); (try dsimp only); (try k_sweep); (try k_fold)))
structure May (J b k t u n D0 D1 D2 D3 D4 : Int) : Prop where
  bJ : 600000 ≤ J ∧ J < 6000000
  bD : (0 ≤ D0 ∧ D0 < 12000000) ∧ (0 ≤ D1 ∧ D1 < 288000) ∧ (0 ≤ D2 ∧ D2 < 14400) ∧ (0 ≤ D3 ∧ D3 < 720)
  s0 : Eqn (2 * J + 1 - 1168565) D0
  s1 : Eqn (D0 / (2 * 144000)) b
  s2 : Eqn (D0 % (2 * 144000)) D1
  s3 : Eqn (D1 / (2 * 7200)) k
  s4 : Eqn (D1 % (2 * 7200)) D2
  s5 : Eqn (D2 / (2 * 360)) t
  s6 : Eqn (D2 % (2 * 360)) D3
  s7 : Eqn (D3 / (2 * 20)) u
  s8 : Eqn (D3 % (2 * 20) / 2) n
  bnd : MayB b k t u n
  back : mJ b k t u n = J
theorem may_of (J : Int) (hJ : 600000 ≤ J ∧ J < 6000000) : ∃ b k t u n D0 D1 D2 D3 D4, May J b k t u n D0 D1 D2 D3 D4 := by
  obtain ⟨D0, h0⟩ : ∃ x, x = 2 * J + 1 - 1168565 := ⟨_, rfl⟩
  obtain ⟨D1, h1⟩ : ∃ x, x = D0 % (2 * 144000) := ⟨_, rfl⟩
  obtain ⟨D2, h2⟩ : ∃ x, x = D1 % (2 * 7200) := ⟨_, rfl⟩
  obtain ⟨D3, h3⟩ : ∃ x, x = D2 % (2 * 360) := ⟨_, rfl⟩
  have b0 : D0 % 2 = 0 ∧ 0 ≤ D0 ∧ D0 < 12000000 := by omega
  have b1 : D1 % 2 = 0 ∧ 0 ≤ D1 ∧ D1 < 288000 := by omega
  have b2 : D2 % 2 = 0 ∧ 0 ≤ D2 ∧ D2 < 14400 := by omega
  have b3 : D3 % 2 = 0 ∧ 0 ≤ D3 ∧ D3 < 720 := by omega
  refine ⟨D0 / (2 * 144000), D1 / (2 * 7200), D2 / (2 * 360), D3 / (2 * 20), D3 % (2 * 20) / 2, D0, D1, D2, D3, 0, hJ, by omega, h0.symm, rfl, h1.symm, rfl, h2.symm, rfl, h3.symm, rfl, rfl, ?_, ?_⟩
  · refine ⟨?_, ?_, ?_, ?_, ?_⟩ <;> omega
  · have e1 : 2 * (D0 / (2 * 144000) * 144000) + D1 = D0 := by omega
    have e2 : 2 * (D1 / (2 * 7200) * 7200) + D2 = D1 := by omega
    have e3 : 2 * (D2 / (2 * 360) * 360) + D3 = D2 := by omega
    have e4 : 2 * (D3 / (2 * 20) * 20) + 2 * (D3 % (2 * 20) / 2) = D3 := by omega
    unfold mJ
    omega
theorem con_fromjdm (w : World) (J b k tt u n D0 D1 D2 D3 D4 : Int) (t : Tok) (G : May J b k tt u n D0 D1 D2 D3 D4) : Con w 453 2 16 [.float (H (2 * J + 1)) t] (fun _ => True) (fun new v => ∃ a t1 t2 t3 t4 t5, new = [(a, { cls := .type "tuple", data := .seq #[.int b t1, .int k t2, .int tt t3, .int u t4, .int n t5] })] ∧ v = .ref a) := Apart.get (by simp (disch := k_dflt (
  unfold Con
  k_fill
  intro p loose mean mg mb dp un gd cn cs a ccd cl outer A₀ base h₀ L ma news s Q E B F X N T hk hpre hdp hun htk0 hret
  obtain ⟨bJ, bD, s0, s1, s2, s3, s4, s5, s6, s7, s8, _, _⟩ := G
  (refine wpAny_call ?_; refine' code_def (binds := [(Str.ofString "jd", Value.float (H (2 * J + 1)) t)]) B F X N T rfl rfl hk ?k6 ?k7 ?k8 ?k9 ?kB ?_ ?c2 ?c3 ?c4 ?c5; (case k6 => k_is); (case k7 => k_is); (case k8 => ktr_room); (case k9 => first | exact BindsTo.of_eq rfl | exact binds_K (by k_in) rfl (by k_is) rfl rfl rfl); (case kB => exact locs rfl); (case c2 => exact rfl); (case c3 => exact rfl); (case c4 => exact rfl); (case c5 => decide); intro g' L' h' FG' F' N' B' X' T'; dsimp only; k_fold)
  k_steps
  all_goals (refine hret _ _ _ [_] (by k_asm) (by k_asm) ⟨_, _, _, _, _, _, rfl, rfl⟩)
  )) only [↓apart])
local macro_rules | `(tactic| kxt_pos) => `(tactic| (k_here; (with_reducible show wpAny _ _ (call (Value.ref 453) [Value.float (H (2 * _ + 1)) _]) _ _ _); k_dflt (refine' Con.use (con_fromjdm _ _ _ _ _ _ _ _ _ _ _ _ _ (by assumption)) ?k1 ?k2 ?k3 ?k4 ?k5 ?kK ?kp ?kd ?ku ?k0 ?_; (case k1 => k_asm); (case k2 => k_asm); (case k3 => k_asm); (case k4 => k_asm); (case k5 => k_asm); (case kK => first | exact rfl | assumption); (case kp => trivial); (case kd => ktr_room); (case ku => ktr_units); (case k0 => (dsimp only; omega))); intro v9 h9 tk9 new9 le9 F9 N9 p9; (try dsimp only at le9); obtain ⟨a9, t9, u9, v9, w9, x9, e9, e8⟩ := p9; subst e9 e8; (try simp only [List.nil_append, List.cons_append] at N9); (try dsimp only); (try k_sweep); (try k_fold)))
end
section
local macro_rules | `(tactic| kxt_pos) => `(tactic| (k_here; (with_reducible show wpAny _ _ (call (Value.ref 102) [Value.int _ _]) _ _ _); k_dflt (refine' Con.use (con_isleap _ _ _ _) ?k1 ?k2 ?k3 ?k4 ?k5 ?kK ?kp ?kd ?ku ?k0 ?_; (case k1 => k_asm); (case k2 => k_asm); (case k3 => k_asm); (case k4 => k_asm); (case k5 => k_asm); (case kK => first | exact rfl | assumption); (case kp => first | assumption | exact rfl); (case kd => ktr_room); (case ku => ktr_units); (case k0 => (dsimp only; omega))); intro v9 h9 tk9 new9 le9 F9 N9 p9; (try dsimp only at le9); obtain ⟨e9, e8⟩ := p9; subst e9 e8; (try simp only [List.nil_append, List.cons_append] at N9); (try dsimp only); (try k_sweep); (try k_fold)))
local macro_rules | `(tactic| kxt_pos) => `(tactic| (k_here; (with_reducible show wpAny _ _ (call (Value.ref 109) [Value.int _ _, Value.int _ _, Value.int _ _]) _ _ _); k_dflt (refine' Con.use (con_legal _ _ _ _ _ _ _) ?k1 ?k2 ?k3 ?k4 ?k5 ?kK ?kp ?kd ?ku ?k0 ?_; (case k1 => k_asm); (case k2 => k_asm); (case k3 => k_asm); (case k4 => k_asm); (case k5 => k_asm); (case kK => first | exact rfl | assumption); (case kp => first | assumption | omega); (case kd => ktr_room); (case ku => ktr_units); (case k0 => (dsimp only; omega))); intro v9 h9 tk9 new9 le9 F9 N9 p9; (try dsimp only at le9); obtain ⟨e9, e8⟩ := p9; subst e9 e8; (try simp only [List.nil_append, List.cons_append] at N9); (try dsimp only); (try k_sweep); (try k_fold)))
local macro_rules | `(tactic| kxt_pos) => `(tactic| (k_here; (with_reducible show wpAny _ _ (call (Value.ref 116) [Value.int _ _, Value.int _ _, Value.int _ _]) _ _ _); k_dflt (refine' Con.use (con_tojd _ _ _ _ _ _ _) ?k1 ?k2 ?k3 ?k4 ?k5 ?kK ?kp ?kd ?ku ?k0 ?_; (case k1 => k_asm); (case k2 => k_asm); (case k3 => k_asm); (case k4 => k_asm); (case k5 => k_asm); (case kK => first | exact rfl | assumption); (case kp => first | ((refine tojd_pre ?_ ?_ ?_) <;> omega) | omega); (case kd => ktr_room); (case ku => ktr_units); (case k0 => (dsimp only; omega))); intro v9 h9 tk9 new9 le9 F9 N9 p9; (try dsimp only at le9); obtain ⟨e9, b9, t9, n9, e8⟩ := p9; subst e9 e8; (try simp only [List.nil_append, List.cons_append] at N9); (try dsimp only); (try k_sweep); (try k_fold)))
abbrev PosB (y m d : Int) : Prop := (1 ≤ y ∧ y < 100000) ∧ (1 ≤ m ∧ m ≤ 14) ∧ (1 ≤ d ∧ d ≤ 28) ∧ (m ≠ 14 ∨ (leapB (y + 1789 - 1) = true ∧ d ≤ 2) ∨ (leapB (y + 1789 - 1) = false ∧ d = 1))
theorem con_legalp (w : World) (y m d : Int) (t u v : Tok) : Con w 502 2 16 [.int y t, .int m u, .int d v] (fun _ => PosB y m d) (fun new v => new = [] ∧ v = .bool true) := Apart.get (by simp (disch := k_dflt (
  unfold Con
  k_fill
  intro p loose mean mg mb dp un gd cn cs a ccd cl outer A₀ base h₀ L ma news s Q E B F X N T hk hpre hdp hun htk0 hret
  obtain ⟨hy, hm, hd, h | ⟨hl, hd2⟩ | ⟨hl, hd2⟩⟩ := hpre
  · (refine wpAny_call ?_; refine' code_def (binds := [(Str.ofString "year", Value.int y t), (Str.ofString "month", Value.int m u), (Str.ofString "day", Value.int d v)]) B F X N T rfl rfl hk ?k6 ?k7 ?k8 ?k9 ?kB ?_ ?c2 ?c3 ?c4 ?c5; (case k6 => k_is); (case k7 => k_is); (case k8 => ktr_room); (case k9 => first | exact BindsTo.of_eq rfl | exact binds_K (by k_in) rfl (by k_is) rfl rfl rfl); (case kB => exact locs rfl); (case c2 => exact rfl); (case c3 => exact rfl); (case c4 => exact rfl); (case c5 => decide); intro g' L' h' FG' F' N' B' X' T'; dsimp only; k_fold)
    k_steps
    all_goals (refine hret _ _ _ [] (by k_asm) (by k_asm) ⟨rfl, rfl⟩)
  · by_cases h14 : m = 14
    · (refine wpAny_call ?_; refine' code_def (binds := [(Str.ofString "year", Value.int y t), (Str.ofString "month", Value.int m u), (Str.ofString "day", Value.int d v)]) B F X N T rfl rfl hk ?k6 ?k7 ?k8 ?k9 ?kB ?_ ?c2 ?c3 ?c4 ?c5; (case k6 => k_is); (case k7 => k_is); (case k8 => ktr_room); (case k9 => first | exact BindsTo.of_eq rfl | exact binds_K (by k_in) rfl (by k_is) rfl rfl rfl); (case kB => exact locs rfl); (case c2 => exact rfl); (case c3 => exact rfl); (case c4 => exact rfl); (case c5 => decide); intro g' L' h' FG' F' N' B' X' T'; dsimp only; k_fold)
      k_steps
      all_goals (refine hret _ _ _ [] (by k_asm) (by k_asm) ⟨rfl, rfl⟩)
    · (refine wpAny_call ?_; refine' code_def (binds := [(Str.ofString "year", Value.int y t), (Str.ofString "month", Value.int m u), (Str.ofString "day", Value.int d v)]) B F X N T rfl rfl hk ?k6 ?k7 ?k8 ?k9 ?kB ?_ ?c2 ?c3 ?c4 ?c5; (case k6 => k_is); (case k7 => k_is); (case k8 => ktr_room); (case k9 => first | exact BindsTo.of_eq rfl | exact binds_K (by k_in) rfl (by k_is) rfl rfl rfl); (case kB => exact locs rfl); (case c2 => exact rfl); (case c3 => exact rfl); (case c4 => exact rfl); (case c5 => decide); intro g' L' h' FG' F' N' B' X' T'; dsimp only; k_fold)
      k_steps
      all_goals (refine hret _ _ _ [] (by k_asm) (by k_asm) ⟨rfl, rfl⟩)
  · by_cases h14 : m = 14
    · (refine wpAny_call ?_; refine' code_def (binds := [(Str.ofString "year", Value.int y t), (Str.ofString "month", Value.int m u), (Str.ofString "day", Value.int d v)]) B F X N T rfl rfl hk ?k6 ?k7 ?k8 ?k9 ?kB ?_ ?c2 ?c3 ?c4 ?c5; (case k6 => k_is); (case k7 => k_is); (case k8 => ktr_room); (case k9 => first | exact BindsTo.of_eq rfl | exact binds_K (by k_in) rfl (by k_is) rfl rfl rfl); (case kB => exact locs rfl); (case c2 => exact rfl); (case c3 => exact rfl); (case c4 => exact rfl); (case c5 => decide); intro g' L' h' FG' F' N' B' X' T'; dsimp only; k_fold)
      k_steps
      all_goals (refine hret _ _ _ [] (by k_asm) (by k_asm) ⟨rfl, rfl⟩)
    · (refine wpAny_call ?_; refine' code_def (binds := [(Str.ofString "year", Value.int y t), (Str.ofString "month", Value.int m u), (Str.ofString "day", Value.int d v)]) B F X N T rfl rfl hk ?k6 ?k7 ?k8 ?k9 ?kB ?_ ?c2 ?c3 ?c4 ?c5; (case k6 => k_is); (case k7 => k_is); (case k8 => ktr_room); (case k9 => first | exact BindsTo.of_eq rfl | exact binds_K (by k_in) rfl (by k_is) rfl rfl rfl); (case kB => exact locs rfl); (case c2 => exact rfl); (case c3 => exact rfl); (case c4 => exact rfl); (case c5 => decide); intro g' L' h' FG' F' N' B' X' T'; dsimp only; k_fold)
      k_steps
      all_goals (refine hret _ _ _ [] (by k_asm) (by k_asm) ⟨rfl, rfl⟩)
  )) only [↓apart])
local macro_rules | `(tactic| kxt_pos) => `(tactic| (k_here; (with_reducible show wpAny _ _ (call (Value.ref 502) [Value.int _ _, Value.int _ _, Value.int _ _]) _ _ _); k_dflt (refine' Con.use (con_legalp _ _ _ _ _ _ _) ?k1 ?k2 ?k3 ?k4 ?k5 ?kK ?kp ?kd ?ku ?k0 ?_; (case k1 => k_asm); (case k2 => k_asm); (case k3 => k_asm); (case k4 => k_asm); (case k5 => k_asm); (case kK => first | exact rfl | assumption); (case kp => first | assumption | omega); (case kd => ktr_room); (case ku => ktr_units); (case k0 => (dsimp only; omega))); intro v9 h9 tk9 new9 le9 F9 N9 p9; (try dsimp only at le9); obtain ⟨e9, e8⟩ := p9; subst e9 e8; (try simp only [List.nil_append, List.cons_append] at N9); (try dsimp only); (try k_sweep); (try k_fold)))
def pJ (y m d : Int) : Int := 1721424 + gY (y + 1788) + (m - 1) * 28 + d
theorem con_tojdp (w : World) (y m d : Int) (t u v : Tok) : Con w 509 3 24 [.int y t, .int m u, .int d v] (fun _ => PosB y m d) (fun new v => new = [] ∧ ∃ tk, tk ≠ 0 ∧ v = .float (H (2 * pJ y m d + 1)) tk) := Apart.get (by simp (disch := k_dflt (
  unfold Con
  k_fill
  intro p loose mean mg mb dp un gd cn cs a ccd cl outer A₀ base h₀ L ma news s Q E B F X N T hk hpre hdp hun htk0 hret
  have hb : (1 ≤ y ∧ y < 100000) ∧ (1 ≤ m ∧ m ≤ 14) ∧ (1 ≤ d ∧ d ≤ 28) := ⟨hpre.1, hpre.2.1, hpre.2.2.1⟩
  (refine wpAny_call ?_; refine' code_def (binds := [(Str.ofString "year", Value.int y t), (Str.ofString "month", Value.int m u), (Str.ofString "day", Value.int d v)]) B F X N T rfl rfl hk ?k6 ?k7 ?k8 ?k9 ?kB ?_ ?c2 ?c3 ?c4 ?c5; (case k6 => k_is); (case k7 => k_is); (case k8 => ktr_room); (case k9 => first | exact BindsTo.of_eq rfl | exact binds_K (by k_in) rfl (by k_is) rfl rfl rfl); (case kB => exact locs rfl); (case c2 => exact rfl); (case c3 => exact rfl); (case c4 => exact rfl); (case c5 => decide); intro g' L' h' FG' F' N' B' X' T'; dsimp only; k_fold)
  k_steps
  all_goals (refine hret _ _ _ [] (by k_asm) (by k_asm) ⟨rfl, _, Nat.succ_ne_zero _, fl_eq ?_⟩; subst_vars; unfold pJ gY; rw [show y + 1788 - 1 = y + 1789 - 1 - 1 by omega]; omega)
  )) only [↓apart])
local macro_rules | `(tactic| kxt_pos) => `(tactic| (k_here; (with_reducible show wpAny _ _ (call (Value.ref 509) [Value.int _ _, Value.int _ _, Value.int _ _]) _ _ _); k_dflt (refine' Con.use (con_tojdp _ _ _ _ _ _ _) ?k1 ?k2 ?k3 ?k4 ?k5 ?kK ?kp ?kd ?ku ?k0 ?_; (case k1 => k_asm); (case k2 => k_asm); (case k3 => k_asm); (case k4 => k_asm); (case k5 => k_asm); (case kK => first | exact rfl | assumption); (case kp => first | assumption | omega); (case kd => ktr_room); (case ku => ktr_units); (case k0 => (dsimp only; omega))); intro v9 h9 tk9 new9 le9 F9 N9 p9; (try dsimp only at le9); obtain ⟨e9, t9, n9, e8⟩ := p9; subst e9 e8; (try simp only [List.nil_append, List.cons_append] at N9); (try dsimp only); (try k_sweep); (try k_fold)))
/-- from_jd of the Positivist calendar -/
structure Pos (J y m d E0 E1 E2 E3 a c n yi y1 R : Int) : Prop where
  bJ : 2374479 ≤ J ∧ J < 6000000
  bD : (0 ≤ E0 ∧ E0 < 40000000) ∧ (0 ≤ E1 ∧ E1 < 400000) ∧ (0 ≤ E2 ∧ E2 < 400000) ∧ (0 ≤ E3 ∧ E3 < 400000) ∧ (0 ≤ R ∧ R < 740)
  bA : (0 ≤ a ∧ a < 1000) ∧ (0 ≤ c ∧ c < 10) ∧ (0 ≤ n ∧ n < 100) ∧ (0 ≤ yi ∧ yi < 10)
  s1 : Eqn (2 * ((2 * J + 1 - 1) / 2) + 1 - 3442851) E0
  s3 : Eqn (E0 / (2 * 146097)) a
  s4 : Eqn (E0 % (2 * 146097)) E1
  s5 : Eqn (E1 / (2 * 36524)) c
  s6 : Eqn (E1 % (2 * 36524)) E2
  s7 : Eqn (E2 / (2 * 1461)) n
  s8 : Eqn (E2 % (2 * 1461)) E3
  s9 : Eqn (E3 / (2 * 365)) yi
  s10 : Eqn (a * 400 + c * 100 + n * 4 + yi) y1
  s11 : (yi = 4 ∧ y = y1 - 1 - 1789 + 2 ∧ m = 365 / 28 + 1 ∧ d = 365 - 365 / 28 * 28 + 1) ∨ (yi ≠ 4 ∧ y = y1 - 1789 + 2 ∧ Eqn (E0 - 2 * (a * 146097) - 2 * (c * 36524) - 2 * (n * 1461) - 2 * (yi * 365)) R ∧ m = R / (2 * 28) + 1 ∧ d = (R - 2 * (R / (2 * 28) * 28)) / 2 + 1)
  bnd : PosB y m d
  back : pJ y m d = J
theorem pos_of {J y m d : Int} (G : Greg J y m d) (hJ : 2374479 ≤ J ∧ J < 6000000) (hn : ¬ (y % 400 = 0 ∧ m = 12 ∧ d = 31)) : ∃ y m d E0 E1 E2 E3 a c n yi y1 R, Pos J y m d E0 E1 E2 E3 a c n yi y1 R := by
  obtain ⟨a, b, e, f, P⟩ := G.parts
  have hne : ¬ (y % 400 = 0 ∧ doy y m d = 365) := by
    rintro ⟨q1, q2⟩
    refine hn ⟨q1, ?_⟩
    have h4 := mlen_cases G.d2
    have hd1 := G.d1
    have hl : leapB y = true := by rw [leap_iff]; omega
    unfold doy at q2
    rw [hl] at q2 h4
    have m1 := G.m1
    have m2 := G.m2
    simp only [if_true, Bool.true_eq_false, true_and, false_and, and_false, false_or] at q2 h4
    by_cases hm2 : m ≤ 2
    · rw [if_pos hm2] at q2; omega
    · rw [if_neg hm2] at q2; omega
  obtain ⟨h1, h2, h3, h4, h5, h6, h7⟩ := P
  have hg := gY_parts _ _ _ _ _ h1 h2 h3 h4
  have hy400 : y % 400 = 0 ↔ (b = 3 ∧ e = 24 ∧ f = 3) := by omega
  generalize doy y m d = r at *
  have hr : (leapB y = true ∧ r ≤ 365) ∨ (leapB y = false ∧ r ≤ 364) := by rcases h7 with h | h; exact .inl ⟨h.1, h.2.2.2⟩; exact .inr ⟨h.1, h.2.2⟩
  by_cases q : r = 365
  · have hl : leapB y = true := by rcases hr with h | h; exact h.1; omega
    have q1 : e ≠ 24 := by omega
    have q2 : f = 3 := by omega
    refine ⟨y - 1788, 365 / 28 + 1, 365 - 365 / 28 * 28 + 1, 2 * (J - 1721425), 2 * (36524 * b + 1461 * e + 365 * f + r), 2 * (1461 * e + 365 * f + r), 2 * 1460, a, b, e, 4, y, 0, hJ, by omega, by omega, ?_, ?_, ?_, ?_, ?_, ?_, ?_, ?_, ?_, .inl ⟨rfl, by omega, rfl, rfl⟩, ⟨by omega, by omega, by omega, .inr (.inl ⟨?_, by omega⟩)⟩, ?_⟩
    rotate_right 2
    · rw [show y - 1788 + 1789 - 1 = y by omega]; exact hl
    · unfold pJ; rw [show y - 1788 + 1788 = y by omega, hg]; omega
    all_goals (unfold Eqn; omega)
  · have hr4 : r ≤ 364 := by omega
    refine ⟨y - 1788, 2 * r / (2 * 28) + 1, (2 * r - 2 * (2 * r / (2 * 28) * 28)) / 2 + 1, 2 * (J - 1721425), 2 * (36524 * b + 1461 * e + 365 * f + r), 2 * (1461 * e + 365 * f + r), 2 * (365 * f + r), a, b, e, f, y - 1, 2 * r, hJ, by omega, by omega, ?_, ?_, ?_, ?_, ?_, ?_, ?_, ?_, ?_, .inr ⟨by omega, by omega, ?_, rfl, rfl⟩, ⟨by omega, by omega, by omega, ?_⟩, ?_⟩
    rotate_right 2
    · rw [show y - 1788 + 1789 - 1 = y by omega]
      rcases hr with h | h
      · by_cases q9 : 2 * r / (2 * 28) + 1 = 14
        · exact .inr (.inl ⟨h.1, by omega⟩)
        · exact .inl q9
      · by_cases q9 : 2 * r / (2 * 28) + 1 = 14
        · exact .inr (.inr ⟨h.1, by omega⟩)
        · exact .inl q9
    · unfold pJ; rw [show y - 1788 + 1788 = y by omega, hg]; omega
    all_goals (unfold Eqn; omega)
theorem con_fromjdp (w : World) (J y m d E0 E1 E2 E3 ca c n yi y1 R : Int) (t : Tok) (G : Pos J y m d E0 E1 E2 E3 ca c n yi y1 R) : Con w 516 2 16 [.float (H (2 * J + 1)) t] (fun _ => True) (fun new v => ∃ a t1 t2 t3, new = [(a, { cls := .type "tuple", data := .seq #[.int y t1, .int m t2, .int d t3] })] ∧ v = .ref a) := Apart.get (by simp (disch := k_dflt (
  unfold Con
  k_fill
  intro p loose mean mg mb dp un gd cn cs a ccd cl outer A₀ base h₀ L ma news s Q E B F X N T hk hpre hdp hun htk0 hret
  obtain ⟨bJ, bD, bA, s1, s3, s4, s5, s6, s7, s8, s9, s10, s11, _, _⟩ := G
  rcases s11 with ⟨h4, hy, hm, hd⟩ | ⟨h4, hy, hR, hm, hd⟩
  · subst hy hm hd
    (refine wpAny_call ?_; refine' code_def (binds := [(Str.ofString "jd", Value.float (H (2 * J + 1)) t)]) B F X N T rfl rfl hk ?k6 ?k7 ?k8 ?k9 ?kB ?_ ?c2 ?c3 ?c4 ?c5; (case k6 => k_is); (case k7 => k_is); (case k8 => ktr_room); (case k9 => first | exact BindsTo.of_eq rfl | exact binds_K (by k_in) rfl (by k_is) rfl rfl rfl); (case kB => exact locs rfl); (case c2 => exact rfl); (case c3 => exact rfl); (case c4 => exact rfl); (case c5 => decide); intro g' L' h' FG' F' N' B' X' T'; dsimp only; k_fold)
    k_steps
    all_goals subst_vars
    all_goals (refine hret _ _ _ [_] (by k_asm) (by k_asm) ⟨_, _, _, _, rfl, rfl⟩)
  · subst hy hm hd
    (refine wpAny_call ?_; refine' code_def (binds := [(Str.ofString "jd", Value.float (H (2 * J + 1)) t)]) B F X N T rfl rfl hk ?k6 ?k7 ?k8 ?k9 ?kB ?_ ?c2 ?c3 ?c4 ?c5; (case k6 => k_is); (case k7 => k_is); (case k8 => ktr_room); (case k9 => first | exact BindsTo.of_eq rfl | exact binds_K (by k_in) rfl (by k_is) rfl rfl rfl); (case kB => exact locs rfl); (case c2 => exact rfl); (case c3 => exact rfl); (case c4 => exact rfl); (case c5 => decide); intro g' L' h' FG' F' N' B' X' T'; dsimp only; k_fold)
    k_steps
    all_goals subst_vars
    all_goals (refine hret _ _ _ [_] (by k_asm) (by k_asm) ⟨_, _, _, _, rfl, rfl⟩)
  )) only [↓apart])
local macro_rules | `(tactic| kxt_pos) => `(tactic| (k_here; (with_reducible show wpAny _ _ (call (Value.ref 516) [Value.float (H (2 * _ + 1)) _]) _ _ _); k_dflt (refine' Con.use (con_fromjdp _ _ _ _ _ _ _ _ _ _ _ _ _ _ _ _ (by assumption)) ?k1 ?k2 ?k3 ?k4 ?k5 ?kK ?kp ?kd ?ku ?k0 ?_; (case k1 => k_asm); (case k2 => k_asm); (case k3 => k_asm); (case k4 => k_asm); (case k5 => k_asm); (case kK => first | exact rfl | assumption); (case kp => trivial); (case kd => ktr_room); (case ku => ktr_units); (case k0 => (dsimp only; omega))); intro v9 h9 tk9 new9 le9 F9 N9 p9; (try dsimp only at le9); obtain ⟨a9, t9, u9, v9, e9, e8⟩ := p9; subst e9 e8; (try simp only [List.nil_append, List.cons_append] at N9); (try dsimp only); (try k_sweep); (try k_fold)))
end
section
theorem con_valid (w : World) (y m d : Int) (t u v : Tok) : Con w 244 2 16 [.int y t, .int m u, .int d v, .none] (fun _ => (1 ≤ y ∧ y < 100000) ∧ (1 ≤ m ∧ m ≤ 13) ∧ (1 ≤ d ∧ d ≤ 30) ∧ (m = 13 → d ≤ 5)) (fun new v => new = [] ∧ v = .bool true) := Apart.get (by simp (disch := k_dflt (
  unfold Con
  k_fill
  intro p loose mean mg mb dp un gd cn cs a ccd cl outer A₀ base h₀ L ma news s Q E B F X N T hk hpre hdp hun htk0 hret
  obtain ⟨hy, hm, hd, h13⟩ := hpre
  by_cases q : m = 13
  · have h5 := h13 q
    (refine wpAny_call ?_; refine' code_def (binds := [(Str.ofString "year", Value.int y t), (Str.ofString "month", Value.int m u), (Str.ofString "day", Value.int d v), (Str.ofString "method", Value.none)]) B F X N T rfl rfl hk ?k6 ?k7 ?k8 ?k9 ?kB ?_ ?c2 ?c3 ?c4 ?c5; (case k6 => k_is); (case k7 => k_is); (case k8 => ktr_room); (case k9 => first | exact BindsTo.of_eq rfl | exact binds_K (by k_in) rfl (by k_is) rfl rfl rfl); (case kB => exact locs rfl); (case c2 => exact rfl); (case c3 => exact rfl); (case c4 => exact rfl); (case c5 => decide); intro g' L' h' FG' F' N' B' X' T'; dsimp only; k_fold)
    k_steps
    all_goals (refine hret _ _ _ [] (by k_asm) (by k_asm) ⟨rfl, rfl⟩)
  · (refine wpAny_call ?_; refine' code_def (binds := [(Str.ofString "year", Value.int y t), (Str.ofString "month", Value.int m u), (Str.ofString "day", Value.int d v), (Str.ofString "method", Value.none)]) B F X N T rfl rfl hk ?k6 ?k7 ?k8 ?k9 ?kB ?_ ?c2 ?c3 ?c4 ?c5; (case k6 => k_is); (case k7 => k_is); (case k8 => ktr_room); (case k9 => first | exact BindsTo.of_eq rfl | exact binds_K (by k_in) rfl (by k_is) rfl rfl rfl); (case kB => exact locs rfl); (case c2 => exact rfl); (case c3 => exact rfl); (case c4 => exact rfl); (case c5 => decide); intro g' L' h' FG' F' N' B' X' T'; dsimp only; k_fold)
    k_steps
    all_goals (refine hret _ _ _ [] (by k_asm) (by k_asm) ⟨rfl, rfl⟩)
  )) only [↓apart])
theorem con_leapa (w : World) (y : Int) (t : Tok) (b : Bool) : Con w 251 1 8 [.int y t] (fun _ => 533 ≤ y ∧ decide (y % 4 = 0) = b) (fun new v => new = [] ∧ v = .bool b) := Apart.get (by simp (disch := k_dflt (
  unfold Con
  k_fill
  intro p loose mean mg mb dp un gd cn cs a ccd cl outer A₀ base h₀ L m news s Q E B F X N T hk hpre hdp hun htk0 hret
  obtain ⟨hy, hb⟩ := hpre
  subst hb
  (refine wpAny_call ?_; refine' code_def (binds := [(Str.ofString "year", Value.int y t)]) B F X N T rfl rfl hk ?k6 ?k7 ?k8 ?k9 ?kB ?_ ?c2 ?c3 ?c4 ?c5; (case k6 => k_is); (case k7 => k_is); (case k8 => ktr_room); (case k9 => first | exact BindsTo.of_eq rfl | exact binds_K (by k_in) rfl (by k_is) rfl rfl rfl); (case kB => exact locs rfl); (case c2 => exact rfl); (case c3 => exact rfl); (case c4 => exact rfl); (case c5 => decide); intro g' L' h' FG' F' N' B' X' T'; dsimp only; k_fold)
  k_steps
  all_goals (refine hret _ _ _ [] (by k_asm) (by k_asm) ⟨rfl, ?_⟩)
  all_goals (congr 1)
  )) only [↓apart])
theorem con_leapt (w : World) (y : Int) (t : Tok) : Con w 251 1 8 [.int y t] (fun _ => 533 ≤ y ∧ y % 4 = 0) (fun new v => new = [] ∧ v = .bool true) := fun p loose mean mg mb dp un gd cn cs a ccd cl outer A₀ base h₀ L ma news s Q E B F X N T hk hpre hdp hun htk0 hret =>
  con_leapa w y t true p loose mean mg mb dp un gd cn cs a ccd cl outer A₀ base h₀ L ma news s Q E B F X N T hk ⟨hpre.1, decide_eq_true hpre.2⟩ hdp hun htk0 hret
theorem con_leapf (w : World) (y : Int) (t : Tok) : Con w 251 1 8 [.int y t] (fun _ => 533 ≤ y ∧ ¬ y % 4 = 0) (fun new v => new = [] ∧ v = .bool false) := fun p loose mean mg mb dp un gd cn cs a ccd cl outer A₀ base h₀ L ma news s Q E B F X N T hk hpre hdp hun htk0 hret =>
  con_leapa w y t false p loose mean mg mb dp un gd cn cs a ccd cl outer A₀ base h₀ L ma news s Q E B F X N T hk ⟨hpre.1, decide_eq_false hpre.2⟩ hdp hun htk0 hret
local macro_rules | `(tactic| kxt_pos) => `(tactic| (k_here; (with_reducible show wpAny _ _ (call (Value.ref 251) [Value.int _ _]) _ _ _); k_dflt (refine' Con.use (con_leapt _ _ _) ?k1 ?k2 ?k3 ?k4 ?k5 ?kK ?kp ?kd ?ku ?k0 ?_; (case k1 => k_asm); (case k2 => k_asm); (case k3 => k_asm); (case k4 => k_asm); (case k5 => k_asm); (case kK => first | exact rfl | assumption); (case kp => omega); (case kd => ktr_room); (case ku => ktr_units); (case k0 => (dsimp only; omega))); intro v9 h9 tk9 new9 le9 F9 N9 p9; (try dsimp only at le9); obtain ⟨e9, e8⟩ := p9; subst e9 e8; (try simp only [List.nil_append, List.cons_append] at N9); (try dsimp only); (try k_sweep); (try k_fold)))
local macro_rules | `(tactic| kxt_pos) => `(tactic| (k_here; (with_reducible show wpAny _ _ (call (Value.ref 251) [Value.int _ _]) _ _ _); k_dflt (refine' Con.use (con_leapf _ _ _) ?k1 ?k2 ?k3 ?k4 ?k5 ?kK ?kp ?kd ?ku ?k0 ?_; (case k1 => k_asm); (case k2 => k_asm); (case k3 => k_asm); (case k4 => k_asm); (case k5 => k_asm); (case kK => first | exact rfl | assumption); (case kp => omega); (case kd => ktr_room); (case ku => ktr_units); (case k0 => (dsimp only; omega))); intro v9 h9 tk9 new9 le9 F9 N9 p9; (try dsimp only at le9); obtain ⟨e9, e8⟩ := p9; subst e9 e8; (try simp only [List.nil_append, List.cons_append] at N9); (try dsimp only); (try k_sweep); (try k_fold)))
local macro_rules | `(tactic| kxt_pos) => `(tactic| (k_here; (with_reducible show wpAny _ _ (call (Value.ref 244) [Value.int _ _, Value.int _ _, Value.int _ _, Value.none]) _ _ _); k_dflt (refine' Con.use (con_valid _ _ _ _ _ _ _) ?k1 ?k2 ?k3 ?k4 ?k5 ?kK ?kp ?kd ?ku ?k0 ?_; (case k1 => k_asm); (case k2 => k_asm); (case k3 => k_asm); (case k4 => k_asm); (case k5 => k_asm); (case kK => first | exact rfl | assumption); (case kp => first | assumption | omega); (case kd => ktr_room); (case ku => ktr_units); (case k0 => (dsimp only; omega))); intro v9 h9 tk9 new9 le9 F9 N9 p9; (try dsimp only at le9); obtain ⟨e9, e8⟩ := p9; subst e9 e8; (try simp only [List.nil_append, List.cons_append] at N9); (try dsimp only); (try k_sweep); (try k_fold)))
theorem con_valids (w : World) (y m d : Int) (t u v tk : Tok) : Con w 244 3 24 [.int y t, .int m u, .int d v, .str (Str.ofString "sarkawag") tk] (fun _ => (533 ≤ y ∧ y < 100000) ∧ (1 ≤ m ∧ m ≤ 13) ∧ (1 ≤ d ∧ d ≤ 30) ∧ (m = 13 → d ≤ 6 ∧ (y % 4 = 0 ∨ d ≤ 5))) (fun new v => new = [] ∧ v = .bool true) := Apart.get (by simp (disch := k_dflt (
  unfold Con
  k_fill
  intro p loose mean mg mb dp un gd cn cs a ccd cl outer A₀ base h₀ L ma news s Q E B F X N T hk hpre hdp hun htk0 hret
  obtain ⟨hy, hm, hd, h13⟩ := hpre
  by_cases q : m = 13
  · have h5 := h13 q
    clear h13
    by_cases q4 : y % 4 = 0
    · (refine wpAny_call ?_; refine' code_def (binds := [(Str.ofString "year", Value.int y t), (Str.ofString "month", Value.int m u), (Str.ofString "day", Value.int d v), (Str.ofString "method", Value.str (Str.ofString "sarkawag") tk)]) B F X N T rfl rfl hk ?k6 ?k7 ?k8 ?k9 ?kB ?_ ?c2 ?c3 ?c4 ?c5; (case k6 => k_is); (case k7 => k_is); (case k8 => ktr_room); (case k9 => first | exact BindsTo.of_eq rfl | exact binds_K (by k_in) rfl (by k_is) rfl rfl rfl); (case kB => exact locs rfl); (case c2 => exact rfl); (case c3 => exact rfl); (case c4 => exact rfl); (case c5 => decide); intro g' L' h' FG' F' N' B' X' T'; dsimp only; k_fold)
      k_steps
      all_goals (refine hret _ _ _ [] (by k_asm) (by k_asm) ⟨rfl, rfl⟩)
    · (refine wpAny_call ?_; refine' code_def (binds := [(Str.ofString "year", Value.int y t), (Str.ofString "month", Value.int m u), (Str.ofString "day", Value.int d v), (Str.ofString "method", Value.str (Str.ofString "sarkawag") tk)]) B F X N T rfl rfl hk ?k6 ?k7 ?k8 ?k9 ?kB ?_ ?c2 ?c3 ?c4 ?c5; (case k6 => k_is); (case k7 => k_is); (case k8 => ktr_room); (case k9 => first | exact BindsTo.of_eq rfl | exact binds_K (by k_in) rfl (by k_is) rfl rfl rfl); (case kB => exact locs rfl); (case c2 => exact rfl); (case c3 => exact rfl); (case c4 => exact rfl); (case c5 => decide); intro g' L' h' FG' F' N' B' X' T'; dsimp only; k_fold)
      k_steps
      all_goals (refine hret _ _ _ [] (by k_asm) (by k_asm) ⟨rfl, rfl⟩)
  · clear h13
    (refine wpAny_call ?_; refine' code_def (binds := [(Str.ofString "year", Value.int y t), (Str.ofString "month", Value.int m u), (Str.ofString "day", Value.int d v), (Str.ofString "method", Value.str (Str.ofString "sarkawag") tk)]) B F X N T rfl rfl hk ?k6 ?k7 ?k8 ?k9 ?kB ?_ ?c2 ?c3 ?c4 ?c5; (case k6 => k_is); (case k7 => k_is); (case k8 => ktr_room); (case k9 => first | exact BindsTo.of_eq rfl | exact binds_K (by k_in) rfl (by k_is) rfl rfl rfl); (case kB => exact locs rfl); (case c2 => exact rfl); (case c3 => exact rfl); (case c4 => exact rfl); (case c5 => decide); intro g' L' h' FG' F' N' B' X' T'; dsimp only; k_fold)
    k_steps
    all_goals (refine hret _ _ _ [] (by k_asm) (by k_asm) ⟨rfl, rfl⟩)
  )) only [↓apart])
local macro_rules | `(tactic| kxt_pos) => `(tactic| (k_here; (with_reducible show wpAny _ _ (call (Value.ref 244) [Value.int _ _, Value.int _ _, Value.int _ _, Value.str _ _]) _ _ _); k_dflt (refine' Con.use (con_valids _ _ _ _ _ _ _ _) ?k1 ?k2 ?k3 ?k4 ?k5 ?kK ?kp ?kd ?ku ?k0 ?_; (case k1 => k_asm); (case k2 => k_asm); (case k3 => k_asm); (case k4 => k_asm); (case k5 => k_asm); (case kK => first | exact rfl | assumption); (case kp => first | assumption | omega); (case kd => ktr_room); (case ku => ktr_units); (case k0 => (dsimp only; omega))); intro v9 h9 tk9 new9 le9 F9 N9 p9; (try dsimp only at le9); obtain ⟨e9, e8⟩ := p9; subst e9 e8; (try simp only [List.nil_append, List.cons_append] at N9); (try dsimp only); (try k_sweep); (try k_fold)))
def aJ (y m d : Int) : Int := 1922501 + 365 * y + (m - 1) * 30 + d
abbrev ArmB (y m d : Int) : Prop := (1 ≤ y ∧ y < 100000) ∧ (1 ≤ m ∧ m ≤ 13) ∧ (1 ≤ d ∧ d ≤ 30) ∧ (m = 13 → d ≤ 5)
theorem con_tojda (w : World) (y m d : Int) (t u v : Tok) : Con w 259 3 24 [.int y t, .int m u, .int d v, .none] (fun _ => ArmB y m d) (fun new v => new = [] ∧ ∃ tk, tk ≠ 0 ∧ v = .float (H (2 * aJ y m d + 1)) tk) := Apart.get (by simp (disch := k_dflt (
  unfold Con
  k_fill
  intro p loose mean mg mb dp un gd cn cs a ccd cl outer A₀ base h₀ L ma news s Q E B F X N T hk hpre hdp hun htk0 hret
  (refine wpAny_call ?_; refine' code_def (binds := [(Str.ofString "year", Value.int y t), (Str.ofString "month", Value.int m u), (Str.ofString "day", Value.int d v), (Str.ofString "method", Value.none)]) B F X N T rfl rfl hk ?k6 ?k7 ?k8 ?k9 ?kB ?_ ?c2 ?c3 ?c4 ?c5; (case k6 => k_is); (case k7 => k_is); (case k8 => ktr_room); (case k9 => first | exact BindsTo.of_eq rfl | exact binds_K (by k_in) rfl (by k_is) rfl rfl rfl); (case kB => exact locs rfl); (case c2 => exact rfl); (case c3 => exact rfl); (case c4 => exact rfl); (case c5 => decide); intro g' L' h' FG' F' N' B' X' T'; dsimp only; k_fold)
  k_steps
  all_goals (refine hret _ _ _ [] (by k_asm) (by k_asm) ⟨rfl, _, Nat.succ_ne_zero _, fl_eq ?_⟩; subst_vars; unfold aJ; omega)
  )) only [↓apart])
theorem con_tojda3 (w : World) (y m d : Int) (t u v : Tok) : Con w 259 3 24 [.int y t, .int m u, .int d v] (fun _ => ArmB y m d) (fun new v => new = [] ∧ ∃ tk, tk ≠ 0 ∧ v = .float (H (2 * aJ y m d + 1)) tk) := Apart.get (by simp (disch := k_dflt (
  unfold Con
  k_fill
  intro p loose mean mg mb dp un gd cn cs a ccd cl outer A₀ base h₀ L ma news s Q E B F X N T hk hpre hdp hun htk0 hret
  (refine wpAny_call ?_; refine' code_def (binds := [(Str.ofString "year", Value.int y t), (Str.ofString "month", Value.int m u), (Str.ofString "day", Value.int d v), (Str.ofString "method", Value.none)]) B F X N T rfl rfl hk ?k6 ?k7 ?k8 ?k9 ?kB ?_ ?c2 ?c3 ?c4 ?c5; (case k6 => k_is); (case k7 => k_is); (case k8 => ktr_room); (case k9 => first | exact BindsTo.of_eq rfl | exact binds_K (by k_in) rfl (by k_is) rfl rfl rfl); (case kB => exact locs rfl); (case c2 => exact rfl); (case c3 => exact rfl); (case c4 => exact rfl); (case c5 => decide); intro g' L' h' FG' F' N' B' X' T'; dsimp only; k_fold)
  k_steps
  all_goals (refine hret _ _ _ [] (by k_asm) (by k_asm) ⟨rfl, _, Nat.succ_ne_zero _, fl_eq ?_⟩; subst_vars; unfold aJ; omega)
  )) only [↓apart])
def sJ (y m d : Int) : Int := 2117210 + 365 * (y - 533) + (y - 533) / 4 + (m - 1) * 30 + d
abbrev SarB (y m d : Int) : Prop := (533 ≤ y ∧ y < 100000) ∧ (1 ≤ m ∧ m ≤ 13) ∧ (1 ≤ d ∧ d ≤ 30) ∧ (m = 13 → d ≤ 6 ∧ (y % 4 = 0 ∨ d ≤ 5))
theorem con_tojds (w : World) (y m d : Int) (t u v tk : Tok) : Con w 259 4 32 [.int y t, .int m u, .int d v, .str (Str.ofString "sarkawag") tk] (fun _ => SarB y m d) (fun new v => new = [] ∧ ∃ tk, tk ≠ 0 ∧ v = .float (H (2 * sJ y m d + 1)) tk) := Apart.get (by simp (disch := k_dflt (
  unfold Con
  k_fill
  intro p loose mean mg mb dp un gd cn cs a ccd cl outer A₀ base h₀ L ma news s Q E B F X N T hk hpre hdp hun htk0 hret
  (refine wpAny_call ?_; refine' code_def (binds := [(Str.ofString "year", Value.int y t), (Str.ofString "month", Value.int m u), (Str.ofString "day", Value.int d v), (Str.ofString "method", Value.str (Str.ofString "sarkawag") tk)]) B F X N T rfl rfl hk ?k6 ?k7 ?k8 ?k9 ?kB ?_ ?c2 ?c3 ?c4 ?c5; (case k6 => k_is); (case k7 => k_is); (case k8 => ktr_room); (case k9 => first | exact BindsTo.of_eq rfl | exact binds_K (by k_in) rfl (by k_is) rfl rfl rfl); (case kB => exact locs rfl); (case c2 => exact rfl); (case c3 => exact rfl); (case c4 => exact rfl); (case c5 => decide); intro g' L' h' FG' F' N' B' X' T'; dsimp only; k_fold)
  k_steps
  all_goals (refine hret _ _ _ [] (by k_asm) (by k_asm) ⟨rfl, _, Nat.succ_ne_zero _, fl_eq ?_⟩; subst_vars; unfold sJ; omega)
  )) only [↓apart])
local macro_rules | `(tactic| kxt_pos) => `(tactic| (k_here; (with_reducible show wpAny _ _ (call (Value.ref 259) [Value.int _ _, Value.int _ _, Value.int _ _, Value.none]) _ _ _); k_dflt (refine' Con.use (con_tojda _ _ _ _ _ _ _) ?k1 ?k2 ?k3 ?k4 ?k5 ?kK ?kp ?kd ?ku ?k0 ?_; (case k1 => k_asm); (case k2 => k_asm); (case k3 => k_asm); (case k4 => k_asm); (case k5 => k_asm); (case kK => first | exact rfl | assumption); (case kp => first | assumption | omega); (case kd => ktr_room); (case ku => ktr_units); (case k0 => (dsimp only; omega))); intro v9 h9 tk9 new9 le9 F9 N9 p9; (try dsimp only at le9); obtain ⟨e9, t9, n9, e8⟩ := p9; subst e9 e8; (try simp only [List.nil_append, List.cons_append] at N9); (try dsimp only); (try k_sweep); (try k_fold)))
local macro_rules | `(tactic| kxt_pos) => `(tactic| (k_here; (with_reducible show wpAny _ _ (call (Value.ref 259) [Value.int _ _, Value.int _ _, Value.int _ _]) _ _ _); k_dflt (refine' Con.use (con_tojda3 _ _ _ _ _ _ _) ?k1 ?k2 ?k3 ?k4 ?k5 ?kK ?kp ?kd ?ku ?k0 ?_; (case k1 => k_asm); (case k2 => k_asm); (case k3 => k_asm); (case k4 => k_asm); (case k5 => k_asm); (case kK => first | exact rfl | assumption); (case kp => first | assumption | omega); (case kd => ktr_room); (case ku => ktr_units); (case k0 => (dsimp only; omega))); intro v9 h9 tk9 new9 le9 F9 N9 p9; (try dsimp only at le9); obtain ⟨e9, t9, n9, e8⟩ := p9; subst e9 e8; (try simp only [List.nil_append, List.cons_append] at N9); (try dsimp only); (try k_sweep); (try k_fold)))
local macro_rules | `(tactic| kxt_pos) => `(tactic| (k_here; (with_reducible show wpAny _ _ (call (Value.ref 259) [Value.int _ _, Value.int _ _, Value.int _ _, Value.str _ _]) _ _ _); k_dflt (refine' Con.use (con_tojds _ _ _ _ _ _ _ _) ?k1 ?k2 ?k3 ?k4 ?k5 ?kK ?kp ?kd ?ku ?k0 ?_; (case k1 => k_asm); (case k2 => k_asm); (case k3 => k_asm); (case k4 => k_asm); (case k5 => k_asm); (case kK => first | exact rfl | assumption); (case kp => first | assumption | omega); (case kd => ktr_room); (case ku => ktr_units); (case k0 => (dsimp only; omega))); intro v9 h9 tk9 new9 le9 F9 N9 p9; (try dsimp only at le9); obtain ⟨e9, t9, n9, e8⟩ := p9; subst e9 e8; (try simp only [List.nil_append, List.cons_append] at N9); (try dsimp only); (try k_sweep); (try k_fold)))
structure Arm (J y m d D y0 m0 D2 : Int) : Prop where
  bJ : 1930000 ≤ J ∧ J < 6000000
  bD : (4 ≤ D ∧ D < 12000000) ∧ (0 ≤ y0 ∧ y0 < 20000) ∧ (0 ≤ m0 ∧ m0 < 20) ∧ (0 ≤ D2 ∧ D2 < 100)
  s0 : Eqn (2 * J + 1 - 3845003) D
  s1 : Eqn ((D - 2 * 1) / (2 * 365)) y0
  s2 : Eqn ((D - 2 * 1) % (2 * 365) / (2 * 30)) m0
  s3 : Eqn (D - 2 * (365 * y0) - 2 * (30 * m0)) D2
  hy : y = y0
  hm : m = m0 + 1
  hd : d = D2 / 2
  bnd : ArmB y m d
  back : aJ y m d = J
theorem arm_of (J : Int) (hJ : 1930000 ≤ J ∧ J < 6000000) : ∃ y m d D y0 m0 D2, Arm J y m d D y0 m0 D2 := by
  refine ⟨_, _, _, 2 * J + 1 - 3845003, (2 * J + 1 - 3845003 - 2 * 1) / (2 * 365), (2 * J + 1 - 3845003 - 2 * 1) % (2 * 365) / (2 * 30), _, hJ, ?_, rfl, rfl, rfl, rfl, rfl, rfl, rfl, ?_, ?_⟩
  · omega
  · refine ⟨?_, ?_, ?_, ?_⟩ <;> omega
  · unfold aJ; omega
structure Sar (J y m d D y0 R m0 D2 yd : Int) : Prop where
  bJ : 2374479 ≤ J ∧ J < 6000000
  bD : (4 ≤ D ∧ D < 12000000) ∧ (1 ≤ y0 ∧ y0 < 20000) ∧ (0 ≤ m0 ∧ m0 < 20) ∧ (0 ≤ R ∧ R < 740) ∧ (0 ≤ D2 ∧ D2 < 100)
  s0 : Eqn (2 * J + 1 - 4234421) D
  s1 : Eqn (2 * D / 1461) y0
  s2 : Eqn (D - 2 * (365 * y0 + y0 / 4)) R
  hm : m = m0 + 1
  k : ((R ≠ 0 ∧ 2 ≤ R) ∧ Eqn ((R - 2 * 1) / (2 * 30)) m0 ∧ Eqn (R - 2 * (30 * m0)) D2 ∧ d = D2 / 2 ∧ y = y0 + 533) ∨ (R = 0 ∧ ((y0 % 4 = 0 ∧ yd = 366) ∨ (y0 % 4 ≠ 0 ∧ yd = 365)) ∧ Eqn ((yd - 1) / 30) m0 ∧ d = yd - 30 * m0 ∧ y = y0 - 1 + 533)
  bnd : SarB y m d
  back : sJ y m d = J
theorem sar_of (J : Int) (hJ : 2374479 ≤ J ∧ J < 6000000) : ∃ y m d D y0 R m0 D2 yd, Sar J y m d D y0 R m0 D2 yd := by
  obtain ⟨D, hD⟩ : ∃ D, D = 2 * J + 1 - 4234421 := ⟨_, rfl⟩
  obtain ⟨y0, hy0⟩ : ∃ y0, y0 = 2 * D / 1461 := ⟨_, rfl⟩
  obtain ⟨R, hR⟩ : ∃ R, R = D - 2 * (365 * y0 + y0 / 4) := ⟨_, rfl⟩
  have hR2 : R % 2 = 0 := by omega
  have hRb : 0 ≤ R ∧ R ≤ 730 := by omega
  by_cases h0 : R = 0
  · by_cases h4 : y0 % 4 = 0
    · refine ⟨y0 - 1 + 533, 12 + 1, 6, D, y0, R, 12, 0, 366, hJ, by omega, hD.symm, hy0.symm, hR.symm, rfl, .inr ⟨h0, .inl ⟨h4, rfl⟩, rfl, rfl, rfl⟩, ?_, ?_⟩
      · refine ⟨?_, ?_, ?_, ?_⟩ <;> omega
      · unfold sJ; omega
    · refine ⟨y0 - 1 + 533, 12 + 1, 5, D, y0, R, 12, 0, 365, hJ, by omega, hD.symm, hy0.symm, hR.symm, rfl, .inr ⟨h0, .inr ⟨h4, rfl⟩, rfl, rfl, rfl⟩, ?_, ?_⟩
      · refine ⟨?_, ?_, ?_, ?_⟩ <;> omega
      · unfold sJ; omega
  · refine ⟨y0 + 533, (R - 2 * 1) / (2 * 30) + 1, (R - 2 * (30 * ((R - 2 * 1) / (2 * 30)))) / 2, D, y0, R, (R - 2 * 1) / (2 * 30), R - 2 * (30 * ((R - 2 * 1) / (2 * 30))), 0, hJ, by omega, hD.symm, hy0.symm, hR.symm, rfl, .inl ⟨⟨h0, by omega⟩, rfl, rfl, rfl, rfl⟩, ?_, ?_⟩
    · refine ⟨?_, ?_, ?_, ?_⟩ <;> omega
    · unfold sJ; omega
theorem con_fromjda (w : World) (J y m d D y0 m0 D2 : Int) (t : Tok) (G : Arm J y m d D y0 m0 D2) : Con w 267 2 16 [.float (H (2 * J + 1)) t, .none] (fun _ => True) (fun new v => ∃ a t1 t2 t3, new = [(a, { cls := .type "tuple", data := .seq #[.int y t1, .int m t2, .int d t3] })] ∧ v = .ref a) := Apart.get (by simp (disch := k_dflt (
  unfold Con
  k_fill
  intro p loose mean mg mb dp un gd cn cs a ccd cl outer A₀ base h₀ L ma news s Q E B F X N T hk hpre hdp hun htk0 hret
  obtain ⟨bJ, bD, s0, s1, s2, s3, hy, hm, hd, _, _⟩ := G
  subst hy hm hd
  (refine wpAny_call ?_; refine' code_def (binds := [(Str.ofString "jd", Value.float (H (2 * J + 1)) t), (Str.ofString "method", Value.none)]) B F X N T rfl rfl hk ?k6 ?k7 ?k8 ?k9 ?kB ?_ ?c2 ?c3 ?c4 ?c5; (case k6 => k_is); (case k7 => k_is); (case k8 => ktr_room); (case k9 => first | exact BindsTo.of_eq rfl | exact binds_K (by k_in) rfl (by k_is) rfl rfl rfl); (case kB => exact locs rfl); (case c2 => exact rfl); (case c3 => exact rfl); (case c4 => exact rfl); (case c5 => decide); intro g' L' h' FG' F' N' B' X' T'; dsimp only; k_fold)
  k_steps
  all_goals (refine hret _ _ _ [_] (by k_asm) (by k_asm) ⟨_, _, _, _, rfl, rfl⟩)
  )) only [↓apart])
theorem con_fromjda1 (w : World) (J y m d D y0 m0 D2 : Int) (t : Tok) (G : Arm J y m d D y0 m0 D2) : Con w 267 2 16 [.float (H (2 * J + 1)) t] (fun _ => True) (fun new v => ∃ a t1 t2 t3, new = [(a, { cls := .type "tuple", data := .seq #[.int y t1, .int m t2, .int d t3] })] ∧ v = .ref a) := Apart.get (by simp (disch := k_dflt (
  unfold Con
  k_fill
  intro p loose mean mg mb dp un gd cn cs a ccd cl outer A₀ base h₀ L ma news s Q E B F X N T hk hpre hdp hun htk0 hret
  obtain ⟨bJ, bD, s0, s1, s2, s3, hy, hm, hd, _, _⟩ := G
  subst hy hm hd
  (refine wpAny_call ?_; refine' code_def (binds := [(Str.ofString "jd", Value.float (H (2 * J + 1)) t), (Str.ofString "method", Value.none)]) B F X N T rfl rfl hk ?k6 ?k7 ?k8 ?k9 ?kB ?_ ?c2 ?c3 ?c4 ?c5; (case k6 => k_is); (case k7 => k_is); (case k8 => ktr_room); (case k9 => first | exact BindsTo.of_eq rfl | exact binds_K (by k_in) rfl (by k_is) rfl rfl rfl); (case kB => exact locs rfl); (case c2 => exact rfl); (case c3 => exact rfl); (case c4 => exact rfl); (case c5 => decide); intro g' L' h' FG' F' N' B' X' T'; dsimp only; k_fold)
  k_steps
  all_goals (refine hret _ _ _ [_] (by k_asm) (by k_asm) ⟨_, _, _, _, rfl, rfl⟩)
  )) only [↓apart])
theorem con_fromjds (w : World) (J y m d D y0 R m0 D2 yd : Int) (t tk : Tok) (G : Sar J y m d D y0 R m0 D2 yd) : Con w 267 2 16 [.float (H (2 * J + 1)) t, .str (Str.ofString "sarkawag") tk] (fun _ => True) (fun new v => ∃ a t1 t2 t3, new = [(a, { cls := .type "tuple", data := .seq #[.int y t1, .int m t2, .int d t3] })] ∧ v = .ref a) := Apart.get (by simp (disch := k_dflt (
  unfold Con
  k_fill
  intro p loose mean mg mb dp un gd cn cs a ccd cl outer A₀ base h₀ L ma news s Q E B F X N T hk hpre hdp hun htk0 hret
  obtain ⟨bJ, bD, s0, s1, s2, hm, hk', _, _⟩ := G
  subst hm
  rcases hk' with ⟨h0, e1, e2, hd, hy⟩ | ⟨h0, ⟨h4, hyd⟩ | ⟨h4, hyd⟩, e1, hd, hy⟩
  · subst hd hy
    (refine wpAny_call ?_; refine' code_def (binds := [(Str.ofString "jd", Value.float (H (2 * J + 1)) t), (Str.ofString "method", Value.str (Str.ofString "sarkawag") tk)]) B F X N T rfl rfl hk ?k6 ?k7 ?k8 ?k9 ?kB ?_ ?c2 ?c3 ?c4 ?c5; (case k6 => k_is); (case k7 => k_is); (case k8 => ktr_room); (case k9 => first | exact BindsTo.of_eq rfl | exact binds_K (by k_in) rfl (by k_is) rfl rfl rfl); (case kB => exact locs rfl); (case c2 => exact rfl); (case c3 => exact rfl); (case c4 => exact rfl); (case c5 => decide); intro g' L' h' FG' F' N' B' X' T'; dsimp only; k_fold)
    k_steps
    all_goals (refine hret _ _ _ [_] (by k_asm) (by k_asm) ⟨_, _, _, _, rfl, rfl⟩)
  · subst hd hy hyd
    (refine wpAny_call ?_; refine' code_def (binds := [(Str.ofString "jd", Value.float (H (2 * J + 1)) t), (Str.ofString "method", Value.str (Str.ofString "sarkawag") tk)]) B F X N T rfl rfl hk ?k6 ?k7 ?k8 ?k9 ?kB ?_ ?c2 ?c3 ?c4 ?c5; (case k6 => k_is); (case k7 => k_is); (case k8 => ktr_room); (case k9 => first | exact BindsTo.of_eq rfl | exact binds_K (by k_in) rfl (by k_is) rfl rfl rfl); (case kB => exact locs rfl); (case c2 => exact rfl); (case c3 => exact rfl); (case c4 => exact rfl); (case c5 => decide); intro g' L' h' FG' F' N' B' X' T'; dsimp only; k_fold)
    k_steps
    all_goals subst_vars
    all_goals (refine hret _ _ _ [_] (by k_asm) (by k_asm) ⟨_, _, _, _, rfl, rfl⟩)
  · subst hd hy hyd
    (refine wpAny_call ?_; refine' code_def (binds := [(Str.ofString "jd", Value.float (H (2 * J + 1)) t), (Str.ofString "method", Value.str (Str.ofString "sarkawag") tk)]) B F X N T rfl rfl hk ?k6 ?k7 ?k8 ?k9 ?kB ?_ ?c2 ?c3 ?c4 ?c5; (case k6 => k_is); (case k7 => k_is); (case k8 => ktr_room); (case k9 => first | exact BindsTo.of_eq rfl | exact binds_K (by k_in) rfl (by k_is) rfl rfl rfl); (case kB => exact locs rfl); (case c2 => exact rfl); (case c3 => exact rfl); (case c4 => exact rfl); (case c5 => decide); intro g' L' h' FG' F' N' B' X' T'; dsimp only; k_fold)
    k_steps
    all_goals subst_vars
    all_goals (refine hret _ _ _ [_] (by k_asm) (by k_asm) ⟨_, _, _, _, rfl, rfl⟩)
  )) only [↓apart])
local macro_rules | `(tactic| kxt_pos) => `(tactic| (k_here; (with_reducible show wpAny _ _ (call (Value.ref 267) [Value.float (H (2 * _ + 1)) _, Value.none]) _ _ _); k_dflt (refine' Con.use (con_fromjda _ _ _ _ _ _ _ _ _ _ (by assumption)) ?k1 ?k2 ?k3 ?k4 ?k5 ?kK ?kp ?kd ?ku ?k0 ?_; (case k1 => k_asm); (case k2 => k_asm); (case k3 => k_asm); (case k4 => k_asm); (case k5 => k_asm); (case kK => first | exact rfl | assumption); (case kp => trivial); (case kd => ktr_room); (case ku => ktr_units); (case k0 => (dsimp only; omega))); intro v9 h9 tk9 new9 le9 F9 N9 p9; (try dsimp only at le9); obtain ⟨a9, t9, u9, v9, e9, e8⟩ := p9; subst e9 e8; (try simp only [List.nil_append, List.cons_append] at N9); (try dsimp only); (try k_sweep); (try k_fold)))
local macro_rules | `(tactic| kxt_pos) => `(tactic| (k_here; (with_reducible show wpAny _ _ (call (Value.ref 267) [Value.float (H (2 * _ + 1)) _]) _ _ _); k_dflt (refine' Con.use (con_fromjda1 _ _ _ _ _ _ _ _ _ _ (by assumption)) ?k1 ?k2 ?k3 ?k4 ?k5 ?kK ?kp ?kd ?ku ?k0 ?_; (case k1 => k_asm); (case k2 => k_asm); (case k3 => k_asm); (case k4 => k_asm); (case k5 => k_asm); (case kK => first | exact rfl | assumption); (case kp => trivial); (case kd => ktr_room); (case ku => ktr_units); (case k0 => (dsimp only; omega))); intro v9 h9 tk9 new9 le9 F9 N9 p9; (try dsimp only at le9); obtain ⟨a9, t9, u9, v9, e9, e8⟩ := p9; subst e9 e8; (try simp only [List.nil_append, List.cons_append] at N9); (try dsimp only); (try k_sweep); (try k_fold)))
local macro_rules | `(tactic| kxt_pos) => `(tactic| (k_here; (with_reducible show wpAny _ _ (call (Value.ref 267) [Value.float (H (2 * _ + 1)) _, Value.str _ _]) _ _ _); k_dflt (refine' Con.use (con_fromjds _ _ _ _ _ _ _ _ _ _ _ _ _ (by assumption)) ?k1 ?k2 ?k3 ?k4 ?k5 ?kK ?kp ?kd ?ku ?k0 ?_; (case k1 => k_asm); (case k2 => k_asm); (case k3 => k_asm); (case k4 => k_asm); (case k5 => k_asm); (case kK => first | exact rfl | assumption); (case kp => trivial); (case kd => ktr_room); (case ku => ktr_units); (case k0 => (dsimp only; omega))); intro v9 h9 tk9 new9 le9 F9 N9 p9; (try dsimp only at le9); obtain ⟨a9, t9, u9, v9, e9, e8⟩ := p9; subst e9 e8; (try simp only [List.nil_append, List.cons_append] at N9); (try dsimp only); (try k_sweep); (try k_fold)))
end
section
local macro_rules | `(tactic| kxt_pos) => `(tactic| (k_here; (with_reducible show wpAny _ _ (call (Value.ref 102) [Value.int _ _]) _ _ _); k_dflt (refine' Con.use (con_isleap _ _ _ _) ?k1 ?k2 ?k3 ?k4 ?k5 ?kK ?kp ?kd ?ku ?k0 ?_; (case k1 => k_asm); (case k2 => k_asm); (case k3 => k_asm); (case k4 => k_asm); (case k5 => k_asm); (case kK => first | exact rfl | assumption); (case kp => first | assumption | exact rfl); (case kd => ktr_room); (case ku => ktr_units); (case k0 => (dsimp only; omega))); intro v9 h9 tk9 new9 le9 F9 N9 p9; (try dsimp only at le9); obtain ⟨e9, e8⟩ := p9; subst e9 e8; (try simp only [List.nil_append, List.cons_append] at N9); (try dsimp only); (try k_sweep); (try k_fold)))
local macro_rules | `(tactic| kxt_pos) => `(tactic| (k_here; (with_reducible show wpAny _ _ (call (Value.ref 109) [Value.int _ _, Value.int _ _, Value.int _ _]) _ _ _); k_dflt (refine' Con.use (con_legal _ _ _ _ _ _ _) ?k1 ?k2 ?k3 ?k4 ?k5 ?kK ?kp ?kd ?ku ?k0 ?_; (case k1 => k_asm); (case k2 => k_asm); (case k3 => k_asm); (case k4 => k_asm); (case k5 => k_asm); (case kK => first | exact rfl | assumption); (case kp => first | assumption | omega); (case kd => ktr_room); (case ku => ktr_units); (case k0 => (dsimp only; omega))); intro v9 h9 tk9 new9 le9 F9 N9 p9; (try dsimp only at le9); obtain ⟨e9, e8⟩ := p9; subst e9 e8; (try simp only [List.nil_append, List.cons_append] at N9); (try dsimp only); (try k_sweep); (try k_fold)))
local macro_rules | `(tactic| kxt_pos) => `(tactic| (k_here; (with_reducible show wpAny _ _ (call (Value.ref 116) [Value.int _ _, Value.int _ _, Value.int _ _]) _ _ _); k_dflt (refine' Con.use (con_tojd _ _ _ _ _ _ _) ?k1 ?k2 ?k3 ?k4 ?k5 ?kK ?kp ?kd ?ku ?k0 ?_; (case k1 => k_asm); (case k2 => k_asm); (case k3 => k_asm); (case k4 => k_asm); (case k5 => k_asm); (case kK => first | exact rfl | assumption); (case kp => first | ((refine tojd_pre ?_ ?_ ?_) <;> omega) | omega); (case kd => ktr_room); (case ku => ktr_units); (case k0 => (dsimp only; omega))); intro v9 h9 tk9 new9 le9 F9 N9 p9; (try dsimp only at le9); obtain ⟨e9, b9, t9, n9, e8⟩ := p9; subst e9 e8; (try simp only [List.nil_append, List.cons_append] at N9); (try dsimp only); (try k_sweep); (try k_fold)))
def wJ (y n d : Int) : Int := gJ (y - 1) 12 28 - 1 - (gJ (y - 1) 12 28 - 6) % 7 + 7 * n + d
theorem con_jwday (w : World) (a : Int) (t : Tok) : Con w 59 1 8 [.float (H a) t] (fun _ => 1 ≤ a ∧ a < 1000000000) (fun new v => new = [] ∧ ∃ tk, v = .int ((a + 1) / 2 % 7) tk) := Apart.get (by simp (disch := k_dflt (
  unfold Con
  k_fill
  intro p loose mean mg mb dp un gd cn cs a' ccd cl outer A₀ base h₀ L ma news s Q E B F X N T hk hpre hdp hun htk0 hret
  (refine wpAny_call ?_; refine' code_def (binds := [(Str.ofString "j", Value.float (H a) t)]) B F X N T rfl rfl hk ?k6 ?k7 ?k8 ?k9 ?kB ?_ ?c2 ?c3 ?c4 ?c5; (case k6 => k_is); (case k7 => k_is); (case k8 => ktr_room); (case k9 => first | exact BindsTo.of_eq rfl | exact binds_K (by k_in) rfl (by k_is) rfl rfl rfl); (case kB => exact locs rfl); (case c2 => exact rfl); (case c3 => exact rfl); (case c4 => exact rfl); (case c5 => decide); intro g' L' h' FG' F' N' B' X' T'; dsimp only; k_fold)
  k_steps
  all_goals (refine hret _ _ _ [] (by k_asm) (by k_asm) ⟨rfl, _, rfl⟩)
  )) only [↓apart])
local macro_rules | `(tactic| kxt_pos) => `(tactic| (k_here; (with_reducible show wpAny _ _ (call (Value.ref 59) [Value.float _ _]) _ _ _); k_dflt (refine' Con.use (con_jwday _ _ _) ?k1 ?k2 ?k3 ?k4 ?k5 ?kK ?kp ?kd ?ku ?k0 ?_; (case k1 => k_asm); (case k2 => k_asm); (case k3 => k_asm); (case k4 => k_asm); (case k5 => k_asm); (case kK => first | exact rfl | assumption); (case kp => first | assumption | omega); (case kd => ktr_room); (case ku => ktr_units); (case k0 => (dsimp only; omega))); intro v9 h9 tk9 new9 le9 F9 N9 p9; (try dsimp only at le9); obtain ⟨e9, t9, e8⟩ := p9; subst e9 e8; (try simp only [List.nil_append, List.cons_append] at N9); (try dsimp only); (try k_sweep); (try k_fold)))
theorem con_wb (w : World) (a : Int) (t u : Tok) : Con w 66 2 16 [.int 6 t, .float (H a) u] (fun _ => 100 ≤ a ∧ a < 1000000000) (fun new v => new = [] ∧ ∃ tk, tk ≠ 0 ∧ v = .float (H (a - 2 * ((a - 11) / 2 % 7))) tk) := Apart.get (by simp (disch := k_dflt (
  unfold Con
  k_fill
  intro p loose mean mg mb dp un gd cn cs a' ccd cl outer A₀ base h₀ L ma news s Q E B F X N T hk hpre hdp hun htk0 hret
  (refine wpAny_call ?_; refine' code_def (binds := [(Str.ofString "weekday", Value.int 6 t), (Str.ofString "jd", Value.float (H a) u)]) B F X N T rfl rfl hk ?k6 ?k7 ?k8 ?k9 ?kB ?_ ?c2 ?c3 ?c4 ?c5; (case k6 => k_is); (case k7 => k_is); (case k8 => ktr_room); (case k9 => first | exact BindsTo.of_eq rfl | exact binds_K (by k_in) rfl (by k_is) rfl rfl rfl); (case kB => exact locs rfl); (case c2 => exact rfl); (case c3 => exact rfl); (case c4 => exact rfl); (case c5 => decide); intro g' L' h' FG' F' N' B' X' T'; dsimp only; k_fold)
  k_steps
  all_goals (refine hret _ _ _ [] (by k_asm) (by k_asm) ⟨rfl, _, ?h1, fl_eq ?h2⟩; (case h2 => omega); (case h1 => first | exact Nat.succ_ne_zero _ | exact Nat.ne_of_gt (by omega) | assumption))
  )) only [↓apart])
local macro_rules | `(tactic| kxt_pos) => `(tactic| (k_here; (with_reducible show wpAny _ _ (call (Value.ref 66) [Value.int 6 _, Value.float _ _]) _ _ _); k_dflt (refine' Con.use (con_wb _ _ _ _) ?k1 ?k2 ?k3 ?k4 ?k5 ?kK ?kp ?kd ?ku ?k0 ?_; (case k1 => k_asm); (case k2 => k_asm); (case k3 => k_asm); (case k4 => k_asm); (case k5 => k_asm); (case kK => first | exact rfl | assumption); (case kp => first | assumption | omega); (case kd => ktr_room); (case ku => ktr_units); (case k0 => (dsimp only; omega))); intro v9 h9 tk9 new9 le9 F9 N9 p9; (try dsimp only at le9); obtain ⟨e9, t9, n9, e8⟩ := p9; subst e9 e8; (try simp only [List.nil_append, List.cons_append] at N9); (try dsimp only); (try k_sweep); (try k_fold)))
theorem con_sw (w : World) (a : Int) (t u v x : Tok) : Con w 73 3 24 [.int 6 t, .float (H a) u, .int (-1) v, .int 1 x] (fun _ => 200 ≤ a ∧ a < 100000000) (fun new v => new = [] ∧ ∃ tk, tk ≠ 0 ∧ v = .float (H (a - 2 - 2 * ((a - 13) / 2 % 7))) tk) := Apart.get (by simp (disch := k_dflt (
  unfold Con
  k_fill
  intro p loose mean mg mb dp un gd cn cs a' ccd cl outer A₀ base h₀ L ma news s Q E B F X N T hk hpre hdp hun htk0 hret
  (refine wpAny_call ?_; refine' code_def (binds := [(Str.ofString "weekday", Value.int 6 t), (Str.ofString "jd", Value.float (H a) u), (Str.ofString "direction", Value.int (-1) v), (Str.ofString "offset", Value.int 1 x)]) B F X N T rfl rfl hk ?k6 ?k7 ?k8 ?k9 ?kB ?_ ?c2 ?c3 ?c4 ?c5; (case k6 => k_is); (case k7 => k_is); (case k8 => ktr_room); (case k9 => first | exact BindsTo.of_eq rfl | exact binds_K (by k_in) rfl (by k_is) rfl rfl rfl); (case kB => exact locs rfl); (case c2 => exact rfl); (case c3 => exact rfl); (case c4 => exact rfl); (case c5 => decide); intro g' L' h' FG' F' N' B' X' T'; dsimp only; k_fold)
  k_steps
  all_goals (refine hret _ _ _ [] (by k_asm) (by k_asm) ⟨rfl, _, (by assumption), fl_eq ?_⟩; omega)
  )) only [↓apart])
local macro_rules | `(tactic| kxt_pos) => `(tactic| (k_here; (with_reducible show wpAny _ _ (call (Value.ref 73) [Value.int 6 _, Value.float _ _, Value.int _ _, Value.int 1 _]) _ _ _); k_dflt (refine' Con.use (con_sw _ _ _ _ _ _) ?k1 ?k2 ?k3 ?k4 ?k5 ?kK ?kp ?kd ?ku ?k0 ?_; (case k1 => k_asm); (case k2 => k_asm); (case k3 => k_asm); (case k4 => k_asm); (case k5 => k_asm); (case kK => first | exact rfl | assumption); (case kp => first | assumption | omega); (case kd => ktr_room); (case ku => ktr_units); (case k0 => (dsimp only; omega))); intro v9 h9 tk9 new9 le9 F9 N9 p9; (try dsimp only at le9); obtain ⟨e9, t9, n9, e8⟩ := p9; subst e9 e8; (try simp only [List.nil_append, List.cons_append] at N9); (try dsimp only); (try k_sweep); (try k_fold)))
theorem con_pw (w : World) (a : Int) (t u : Tok) : Con w 87 4 32 [.int 6 t, .float (H a) u] (fun _ => 200 ≤ a ∧ a < 100000000) (fun new v => new = [] ∧ ∃ tk, tk ≠ 0 ∧ v = .float (H (a - 2 - 2 * ((a - 13) / 2 % 7))) tk) := Apart.get (by simp (disch := k_dflt (
  unfold Con
  k_fill
  intro p loose mean mg mb dp un gd cn cs a' ccd cl outer A₀ base h₀ L ma news s Q E B F X N T hk hpre hdp hun htk0 hret
  (refine wpAny_call ?_; refine' code_def (binds := [(Str.ofString "weekday", Value.int 6 t), (Str.ofString "jd", Value.float (H a) u)]) B F X N T rfl rfl hk ?k6 ?k7 ?k8 ?k9 ?kB ?_ ?c2 ?c3 ?c4 ?c5; (case k6 => k_is); (case k7 => k_is); (case k8 => ktr_room); (case k9 => first | exact BindsTo.of_eq rfl | exact binds_K (by k_in) rfl (by k_is) rfl rfl rfl); (case kB => exact locs rfl); (case c2 => exact rfl); (case c3 => exact rfl); (case c4 => exact rfl); (case c5 => decide); intro g' L' h' FG' F' N' B' X' T'; dsimp only; k_fold)
  k_steps
  all_goals (refine hret _ _ _ [] (by k_asm) (by k_asm) ⟨rfl, _, (by assumption), fl_eq ?_⟩; omega)
  )) only [↓apart])
local macro_rules | `(tactic| kxt_pos) => `(tactic| (k_here; (with_reducible show wpAny _ _ (call (Value.ref 87) [Value.int 6 _, Value.float _ _]) _ _ _); k_dflt (refine' Con.use (con_pw _ _ _ _) ?k1 ?k2 ?k3 ?k4 ?k5 ?kK ?kp ?kd ?ku ?k0 ?_; (case k1 => k_asm); (case k2 => k_asm); (case k3 => k_asm); (case k4 => k_asm); (case k5 => k_asm); (case kK => first | exact rfl | assumption); (case kp => first | assumption | omega); (case kd => ktr_room); (case ku => ktr_units); (case k0 => (dsimp only; omega))); intro v9 h9 tk9 new9 le9 F9 N9 p9; (try dsimp only at le9); obtain ⟨e9, t9, n9, e8⟩ := p9; subst e9 e8; (try simp only [List.nil_append, List.cons_append] at N9); (try dsimp only); (try k_sweep); (try k_fold)))
theorem con_nw (w : World) (a n : Int) (t u v : Tok) : Con w 94 5 40 [.int 6 t, .float (H a) u, .int n v] (fun _ => (200 ≤ a ∧ a < 100000000) ∧ 1 ≤ n ∧ n ≤ 100) (fun new v => new = [] ∧ ∃ tk, tk ≠ 0 ∧ v = .float (H (2 * (7 * n) + (a - 2 - 2 * ((a - 13) / 2 % 7)))) tk) := Apart.get (by simp (disch := k_dflt (
  unfold Con
  k_fill
  intro p loose mean mg mb dp un gd cn cs a' ccd cl outer A₀ base h₀ L ma news s Q E B F X N T hk hpre hdp hun htk0 hret
  obtain ⟨ha, hn⟩ := hpre
  (refine wpAny_call ?_; refine' code_def (binds := [(Str.ofString "weekday", Value.int 6 t), (Str.ofString "jd", Value.float (H a) u), (Str.ofString "nthweek", Value.int n v)]) B F X N T rfl rfl hk ?k6 ?k7 ?k8 ?k9 ?kB ?_ ?c2 ?c3 ?c4 ?c5; (case k6 => k_is); (case k7 => k_is); (case k8 => ktr_room); (case k9 => first | exact BindsTo.of_eq rfl | exact binds_K (by k_in) rfl (by k_is) rfl rfl rfl); (case kB => exact locs rfl); (case c2 => exact rfl); (case c3 => exact rfl); (case c4 => exact rfl); (case c5 => decide); intro g' L' h' FG' F' N' B' X' T'; dsimp only; k_fold)
  k_steps
  all_goals (refine hret _ _ _ [] (by k_asm) (by k_asm) ⟨rfl, _, ?h1, fl_eq ?h2⟩; (case h2 => omega); (case h1 => first | exact Nat.succ_ne_zero _ | exact Nat.ne_of_gt (by omega) | assumption))
  )) only [↓apart])
local macro_rules | `(tactic| kxt_pos) => `(tactic| (k_here; (with_reducible show wpAny _ _ (call (Value.ref 94) [Value.int 6 _, Value.float _ _, Value.int _ _]) _ _ _); k_dflt (refine' Con.use (con_nw _ _ _ _ _ _) ?k1 ?k2 ?k3 ?k4 ?k5 ?kK ?kp ?kd ?ku ?k0 ?_; (case k1 => k_asm); (case k2 => k_asm); (case k3 => k_asm); (case k4 => k_asm); (case k5 => k_asm); (case kK => first | exact rfl | assumption); (case kp => first | assumption | omega); (case kd => ktr_room); (case ku => ktr_units); (case k0 => (dsimp only; omega))); intro v9 h9 tk9 new9 le9 F9 N9 p9; (try dsimp only at le9); obtain ⟨e9, t9, n9, e8⟩ := p9; subst e9 e8; (try simp only [List.nil_append, List.cons_append] at N9); (try dsimp only); (try k_sweep); (try k_fold)))
theorem con_tojdw (w : World) (y n d : Int) (t u v : Tok) : Con w 390 6 48 [.int y t, .int n u, .int d v] (fun _ => (2 ≤ y ∧ y < 50000) ∧ (1 ≤ n ∧ n ≤ 100) ∧ (1 ≤ d ∧ d ≤ 7)) (fun new v => new = [] ∧ ∃ tk, tk ≠ 0 ∧ v = .float (H (2 * wJ y n d + 1)) tk) := Apart.get (by simp (disch := k_dflt (
  unfold Con
  k_fill
  intro p loose mean mg mb dp un gd cn cs a' ccd cl outer A₀ base h₀ L ma news s Q E B F X N T hk hpre hdp hun htk0 hret
  obtain ⟨hy, hn, hd⟩ := hpre
  have hb : gJ (y - 1) 12 28 < 30000000 := by unfold gJ gY doy; simp; omega
  (refine wpAny_call ?_; refine' code_def (binds := [(Str.ofString "year", Value.int y t), (Str.ofString "week", Value.int n u), (Str.ofString "day", Value.int d v)]) B F X N T rfl rfl hk ?k6 ?k7 ?k8 ?k9 ?kB ?_ ?c2 ?c3 ?c4 ?c5; (case k6 => k_is); (case k7 => k_is); (case k8 => ktr_room); (case k9 => first | exact BindsTo.of_eq rfl | exact binds_K (by k_in) rfl (by k_is) rfl rfl rfl); (case kB => exact locs rfl); (case c2 => exact rfl); (case c3 => exact rfl); (case c4 => exact rfl); (case c5 => decide); intro g' L' h' FG' F' N' B' X' T'; dsimp only; k_fold)
  k_steps
  all_goals (refine hret _ _ _ [] (by k_asm) (by k_asm) ⟨rfl, _, ?h1, fl_eq ?h2⟩; (case h2 => (unfold wJ; omega)); (case h1 => first | exact Nat.succ_ne_zero _ | exact Nat.ne_of_gt (by omega) | assumption))
  )) only [↓apart])
local macro_rules | `(tactic| kxt_pos) => `(tactic| (k_here; (with_reducible show wpAny _ _ (call (Value.ref 390) [Value.int _ _, Value.int _ _, Value.int _ _]) _ _ _); k_dflt (refine' Con.use (con_tojdw _ _ _ _ _ _ _) ?k1 ?k2 ?k3 ?k4 ?k5 ?kK ?kp ?kd ?ku ?k0 ?_; (case k1 => k_asm); (case k2 => k_asm); (case k3 => k_asm); (case k4 => k_asm); (case k5 => k_asm); (case kK => first | exact rfl | assumption); (case kp => first | assumption | omega); (case kd => ktr_room); (case ku => ktr_units); (case k0 => (dsimp only; omega))); intro v9 h9 tk9 new9 le9 F9 N9 p9; (try dsimp only at le9); obtain ⟨e9, t9, n9, e8⟩ := p9; subst e9 e8; (try simp only [List.nil_append, List.cons_append] at N9); (try dsimp only); (try k_sweep); (try k_fold)))
end
section
theorem con_fromgw (w : World) (y m d : Int) (t u v : Tok) : Con w 404 3 24 [.int y t, .int m u, .int d v] (fun _ => (1 ≤ y ∧ y ≤ 9999) ∧ (1 ≤ m ∧ m ≤ 12) ∧ (1 ≤ d ∧ d ≤ Builtin._datetime.daysInMonth y m) ∧ d ≤ 31) (fun new v => ∃ a tk, new = [(a, isoObj (Builtin._datetime.isoCalendarOf y m d) tk)] ∧ v = .ref a) := Apart.get (by simp (disch := k_dflt (
  unfold Con
  k_fill
  intro p loose mean mg mb dp un gd cn cs a' ccd cl outer A₀ base h₀ L ma news s Q E B F X N T hk hpre hdp hun htk0 hret
  obtain ⟨hy, hm, hd, hd31⟩ := hpre
  (refine wpAny_call ?_; refine' code_def (binds := [(Str.ofString "year", Value.int y t), (Str.ofString "month", Value.int m u), (Str.ofString "day", Value.int d v)]) B F X N T rfl rfl hk ?k6 ?k7 ?k8 ?k9 ?kB ?_ ?c2 ?c3 ?c4 ?c5; (case k6 => k_is); (case k7 => k_is); (case k8 => ktr_room); (case k9 => first | exact BindsTo.of_eq rfl | exact binds_K (by k_in) rfl (by k_is) rfl rfl rfl); (case kB => exact locs rfl); (case c2 => exact rfl); (case c3 => exact rfl); (case c4 => exact rfl); (case c5 => decide); intro g' L' h' FG' F' N' B' X' T'; dsimp only; k_fold)
  k_steps
  all_goals (refine hret _ _ _ [_] (by k_asm) (by first | k_asm | exact drop1 (by k_asm)) ⟨_, _, rfl, rfl⟩)
  )) only [↓apart])
local macro_rules | `(tactic| kxt_pos) => `(tactic| (k_here; (with_reducible show wpAny _ _ (call (Value.ref 404) [Value.int _ _, Value.int _ _, Value.int _ _]) _ _ _); k_dflt (refine' Con.use (con_fromgw _ _ _ _ _ _ _) ?k1 ?k2 ?k3 ?k4 ?k5 ?kK ?kp ?kd ?ku ?k0 ?_; (case k1 => k_asm); (case k2 => k_asm); (case k3 => k_asm); (case k4 => k_asm); (case k5 => k_asm); (case kK => first | exact rfl | assumption); (case kp => first | assumption | omega); (case kd => ktr_room); (case ku => ktr_units); (case k0 => (dsimp only; omega))); intro v9 h9 tk9 new9 le9 F9 N9 p9; (try dsimp only at le9); obtain ⟨a9, t9, e9, e8⟩ := p9; subst e9 e8; (try simp only [List.nil_append, List.cons_append] at N9); (try dsimp only); (try k_sweep); (try k_fold)))
end
section
local macro_rules | `(tactic| kxt_pos) => `(tactic| (k_here; (with_reducible show wpAny _ _ (call (Value.ref 123) [Value.float _ _]) _ _ _); k_dflt (refine' Con.use (con_fromjd' _ _ _ _ _ (by assumption) _ (by first | rfl | assumption | omega) _) ?k1 ?k2 ?k3 ?k4 ?k5 ?kK ?kp ?kd ?ku ?k0 ?_; (case k1 => k_asm); (case k2 => k_asm); (case k3 => k_asm); (case k4 => k_asm); (case k5 => k_asm); (case kK => first | exact rfl | assumption); (case kp => trivial); (case kd => ktr_room); (case ku => ktr_units); (case k0 => (dsimp only; omega))); intro v9 h9 tk9 new9 le9 F9 N9 p9; (try dsimp only at le9); obtain ⟨a9, t9, u9, v9, e9, e8⟩ := p9; subst e9 e8; (try simp only [List.nil_append, List.cons_append] at N9); (try dsimp only); (try k_sweep); (try k_fold)))
local macro_rules | `(tactic| kxt_pos) => `(tactic| (k_here; (with_reducible show wpAny _ _ (call (Value.ref 404) [Value.int _ _, Value.int _ _, Value.int _ _]) _ _ _); k_dflt (refine' Con.use (con_fromgw _ _ _ _ _ _ _) ?k1 ?k2 ?k3 ?k4 ?k5 ?kK ?kp ?kd ?ku ?k0 ?_; (case k1 => k_asm); (case k2 => k_asm); (case k3 => k_asm); (case k4 => k_asm); (case k5 => k_asm); (case kK => first | exact rfl | assumption); (case kp => first | assumption | omega); (case kd => ktr_room); (case ku => ktr_units); (case k0 => (dsimp only; omega))); intro v9 h9 tk9 new9 le9 F9 N9 p9; (try dsimp only at le9); obtain ⟨a9, t9, e9, e8⟩ := p9; subst e9 e8; (try simp only [List.nil_append, List.cons_append] at N9); (try dsimp only); (try k_sweep); (try k_fold)))
theorem dim_eq {y m : Int} (h1 : 1 ≤ m) (h2 : m ≤ 12) : Builtin._datetime.daysInMonth y m = mlen y m := by
  have e : Builtin.Time.timeIsLeap y = leapB y := by unfold Builtin.Time.timeIsLeap leapB; by_cases a : y % 4 = 0 <;> by_cases b : y % 100 = 0 <;> by_cases c : y % 400 = 0 <;> simp [a, b, c]
  unfold Builtin._datetime.daysInMonth mlen
  rw [e]
  rcases months h1 h2 with h | h | h | h | h | h | h | h | h | h | h | h <;> subst h <;> cases leapB y <;> rfl
theorem con_fromjdw (w : World) (J y m d : Int) (t : Tok) (G : Greg J y m d) (hy9 : y ≤ 9999) : Con w 397 5 48 [.float (H (2 * J + 1)) t] (fun _ => True) (fun new v => ∃ a tk, new = [(a, isoObj (Builtin._datetime.isoCalendarOf y m d) tk)] ∧ v = .ref a) := Apart.get (by simp (disch := k_dflt (
  unfold Con
  k_fill
  intro p loose mean mg mb dp un gd cn cs a' ccd cl outer A₀ base h₀ L ma news s Q E B F X N T hk hpre hdp hun htk0 hret
  have hG : (1 ≤ y ∧ y ≤ 9999) ∧ (1 ≤ m ∧ m ≤ 12) := ⟨⟨G.y1, hy9⟩, G.m1, G.m2⟩
  have hdm : 1 ≤ d ∧ d ≤ Builtin._datetime.daysInMonth y m := ⟨G.d1, by rw [dim_eq G.m1 G.m2]; exact G.d2⟩
  have hd31 : d ≤ 31 := by have := mlen_cases G.d2; omega
  (refine wpAny_call ?_; refine' code_def (binds := [(Str.ofString "jd", Value.float (H (2 * J + 1)) t)]) B F X N T rfl rfl hk ?k6 ?k7 ?k8 ?k9 ?kB ?_ ?c2 ?c3 ?c4 ?c5; (case k6 => k_is); (case k7 => k_is); (case k8 => ktr_room); (case k9 => first | exact BindsTo.of_eq rfl | exact binds_K (by k_in) rfl (by k_is) rfl rfl rfl); (case kB => exact locs rfl); (case c2 => exact rfl); (case c3 => exact rfl); (case c4 => exact rfl); (case c5 => decide); intro g' L' h' FG' F' N' B' X' T'; dsimp only; k_fold)
  k_steps
  all_goals (refine hret _ _ _ [_] (by k_asm) (by first | k_asm | exact drop1 (by k_asm)) ⟨_, _, rfl, rfl⟩)
  )) only [↓apart])
local macro_rules | `(tactic| kxt_pos) => `(tactic| (k_here; (with_reducible show wpAny _ _ (call (Value.ref 397) [Value.float (H (2 * _ + 1)) _]) _ _ _); k_dflt (refine' Con.use (con_fromjdw _ _ _ _ _ _ (by assumption) (by assumption)) ?k1 ?k2 ?k3 ?k4 ?k5 ?kK ?kp ?kd ?ku ?k0 ?_; (case k1 => k_asm); (case k2 => k_asm); (case k3 => k_asm); (case k4 => k_asm); (case k5 => k_asm); (case kK => first | exact rfl | assumption); (case kp => trivial); (case kd => ktr_room); (case ku => ktr_units); (case k0 => (dsimp only; omega))); intro v9 h9 tk9 new9 le9 F9 N9 p9; (try dsimp only at le9); obtain ⟨a9, t9, e9, e8⟩ := p9; subst e9 e8; (try simp only [List.nil_append, List.cons_append] at N9); (try dsimp only); (try k_sweep); (try k_fold)))
end
section
local macro_rules | `(tactic| kxt_pos) => `(tactic| (k_here; (with_reducible show wpAny _ _ (call (Value.ref 102) [Value.int _ _]) _ _ _); k_dflt (refine' Con.use (con_isleap _ _ _ _) ?k1 ?k2 ?k3 ?k4 ?k5 ?kK ?kp ?kd ?ku ?k0 ?_; (case k1 => k_asm); (case k2 => k_asm); (case k3 => k_asm); (case k4 => k_asm); (case k5 => k_asm); (case kK => first | exact rfl | assumption); (case kp => first | assumption | exact rfl); (case kd => ktr_room); (case ku => ktr_units); (case k0 => (dsimp only; omega))); intro v9 h9 tk9 new9 le9 F9 N9 p9; (try dsimp only at le9); obtain ⟨e9, e8⟩ := p9; subst e9 e8; (try simp only [List.nil_append, List.cons_append] at N9); (try dsimp only); (try k_sweep); (try k_fold)))
local macro_rules | `(tactic| kxt_pos) => `(tactic| (k_here; (with_reducible show wpAny _ _ (call (Value.ref 109) [Value.int _ _, Value.int _ _, Value.int _ _]) _ _ _); k_dflt (refine' Con.use (con_legal _ _ _ _ _ _ _) ?k1 ?k2 ?k3 ?k4 ?k5 ?kK ?kp ?kd ?ku ?k0 ?_; (case k1 => k_asm); (case k2 => k_asm); (case k3 => k_asm); (case k4 => k_asm); (case k5 => k_asm); (case kK => first | exact rfl | assumption); (case kp => first | assumption | omega); (case kd => ktr_room); (case ku => ktr_units); (case k0 => (dsimp only; omega))); intro v9 h9 tk9 new9 le9 F9 N9 p9; (try dsimp only at le9); obtain ⟨e9, e8⟩ := p9; subst e9 e8; (try simp only [List.nil_append, List.cons_append] at N9); (try dsimp only); (try k_sweep); (try k_fold)))
local macro_rules | `(tactic| kxt_pos) => `(tactic| (k_here; (with_reducible show wpAny _ _ (call (Value.ref 116) [Value.int _ _, Value.int _ _, Value.int _ _]) _ _ _); k_dflt (refine' Con.use (con_tojd _ _ _ _ _ _ _) ?k1 ?k2 ?k3 ?k4 ?k5 ?kK ?kp ?kd ?ku ?k0 ?_; (case k1 => k_asm); (case k2 => k_asm); (case k3 => k_asm); (case k4 => k_asm); (case k5 => k_asm); (case kK => first | exact rfl | assumption); (case kp => first | ((refine tojd_pre ?_ ?_ ?_) <;> omega) | omega); (case kd => ktr_room); (case ku => ktr_units); (case k0 => (dsimp only; omega))); intro v9 h9 tk9 new9 le9 F9 N9 p9; (try dsimp only at le9); obtain ⟨e9, b9, t9, n9, e8⟩ := p9; subst e9 e8; (try simp only [List.nil_append, List.cons_append] at N9); (try dsimp only); (try k_sweep); (try k_fold)))
local macro_rules | `(tactic| kxt_pos) => `(tactic| (k_here; (with_reducible show wpAny _ _ (call (Value.ref 131) [Value.int _ _]) _ _ _); k_dflt (refine' Con.use (con_leapj _ _ _ _) ?k1 ?k2 ?k3 ?k4 ?k5 ?kK ?kp ?kd ?ku ?k0 ?_; (case k1 => k_asm); (case k2 => k_asm); (case k3 => k_asm); (case k4 => k_asm); (case k5 => k_asm); (case kK => first | exact rfl | assumption); (case kp => first | assumption | exact rfl); (case kd => ktr_room); (case ku => ktr_units); (case k0 => (dsimp only; omega))); intro v9 h9 tk9 new9 le9 F9 N9 p9; (try dsimp only at le9); obtain ⟨e9, e8⟩ := p9; subst e9 e8; (try simp only [List.nil_append, List.cons_append] at N9); (try dsimp only); (try k_sweep); (try k_fold)))
local macro_rules | `(tactic| kxt_pos) => `(tactic| (k_here; (with_reducible show wpAny _ _ (call (Value.ref 138) [Value.int _ _, Value.int _ _]) _ _ _); k_dflt (refine' Con.use (con_mlenj _ _ _ _ _) ?k1 ?k2 ?k3 ?k4 ?k5 ?kK ?kp ?kd ?ku ?k0 ?_; (case k1 => k_asm); (case k2 => k_asm); (case k3 => k_asm); (case k4 => k_asm); (case k5 => k_asm); (case kK => first | exact rfl | assumption); (case kp => trivial); (case kd => ktr_room); (case ku => ktr_units); (case k0 => (dsimp only; omega))); intro v9 h9 tk9 new9 le9 F9 N9 p9; (try dsimp only at le9); obtain ⟨e9, t9, e8⟩ := p9; subst e9 e8; (try simp only [List.nil_append, List.cons_append] at N9); (try dsimp only); (try k_sweep); (try k_fold)))
local macro_rules | `(tactic| kxt_pos) => `(tactic| (k_here; (with_reducible show wpAny _ _ (call (Value.ref 145) [Value.int _ _, Value.int _ _, Value.int _ _]) _ _ _); k_dflt (refine' Con.use (con_legalj _ _ _ _ _ _ _) ?k1 ?k2 ?k3 ?k4 ?k5 ?kK ?kp ?kd ?ku ?k0 ?_; (case k1 => k_asm); (case k2 => k_asm); (case k3 => k_asm); (case k4 => k_asm); (case k5 => k_asm); (case kK => first | exact rfl | assumption); (case kp => first | assumption | omega); (case kd => ktr_room); (case ku => ktr_units); (case k0 => (dsimp only; omega))); intro v9 h9 tk9 new9 le9 F9 N9 p9; (try dsimp only at le9); obtain ⟨e9, e8⟩ := p9; subst e9 e8; (try simp only [List.nil_append, List.cons_append] at N9); (try dsimp only); (try k_sweep); (try k_fold)))
local macro_rules | `(tactic| kxt_pos) => `(tactic| (k_here; (with_reducible show wpAny _ _ (call (Value.ref 159) [Value.int _ _, Value.int _ _, Value.int _ _]) _ _ _); k_dflt (refine' Con.use (con_tojdj _ _ _ _ _ _ _) ?k1 ?k2 ?k3 ?k4 ?k5 ?kK ?kp ?kd ?ku ?k0 ?_; (case k1 => k_asm); (case k2 => k_asm); (case k3 => k_asm); (case k4 => k_asm); (case k5 => k_asm); (case kK => first | exact rfl | assumption); (case kp => first | assumption | omega); (case kd => ktr_room); (case ku => ktr_units); (case k0 => (dsimp only; omega))); intro v9 h9 tk9 new9 le9 F9 N9 p9; (try dsimp only at le9); obtain ⟨e9, t9, n9, e8⟩ := p9; subst e9 e8; (try simp only [List.nil_append, List.cons_append] at N9); (try dsimp only); (try k_sweep); (try k_fold)))
local macro_rules | `(tactic| kxt_pos) => `(tactic| (k_here; (with_reducible show wpAny _ _ (call (Value.ref 306) [Value.int _ _, Value.int _ _, Value.int _ _]) _ _ _); k_dflt (refine' Con.use (con_tojdc _ _ _ _ _ _ _) ?k1 ?k2 ?k3 ?k4 ?k5 ?kK ?kp ?kd ?ku ?k0 ?_; (case k1 => k_asm); (case k2 => k_asm); (case k3 => k_asm); (case k4 => k_asm); (case k5 => k_asm); (case kK => first | exact rfl | assumption); (case kp => first | assumption | omega); (case kd => ktr_room); (case ku => ktr_units); (case k0 => (dsimp only; omega))); intro v9 h9 tk9 new9 le9 F9 N9 p9; (try dsimp only at le9); obtain ⟨e9, b9, t9, n9, e8⟩ := p9; subst e9 e8; (try simp only [List.nil_append, List.cons_append] at N9); (try dsimp only); (try k_sweep); (try k_fold)))
local macro_rules | `(tactic| kxt_pos) => `(tactic| (k_here; (with_reducible show wpAny _ _ (call (Value.ref 313) [Value.float (H (2 * _ + 1)) _]) _ _ _); k_dflt (refine' Con.use (con_fromjdc _ _ _ _ _ _ _ _ (by assumption)) ?k1 ?k2 ?k3 ?k4 ?k5 ?kK ?kp ?kd ?ku ?k0 ?_; (case k1 => k_asm); (case k2 => k_asm); (case k3 => k_asm); (case k4 => k_asm); (case k5 => k_asm); (case kK => first | exact rfl | assumption); (case kp => trivial); (case kd => ktr_room); (case ku => ktr_units); (case k0 => (dsimp only; omega))); intro v9 h9 tk9 new9 le9 F9 N9 p9; (try dsimp only at le9); obtain ⟨a9, t9, u9, v9, e9, e8⟩ := p9; subst e9 e8; (try simp only [List.nil_append, List.cons_append] at N9); (try dsimp only); (try k_sweep); (try k_fold)))
local macro_rules | `(tactic| kxt_pos) => `(tactic| (k_here; (with_reducible show wpAny _ _ (call (Value.ref 362) [Value.int _ _, Value.int _ _, Value.int _ _]) _ _ _); k_dflt (refine' Con.use (con_tojdi _ _ _ _ _ _ _) ?k1 ?k2 ?k3 ?k4 ?k5 ?kK ?kp ?kd ?ku ?k0 ?_; (case k1 => k_asm); (case k2 => k_asm); (case k3 => k_asm); (case k4 => k_asm); (case k5 => k_asm); (case kK => first | exact rfl | assumption); (case kp => first | assumption | omega); (case kd => ktr_room); (case ku => ktr_units); (case k0 => (dsimp only; omega))); intro v9 h9 tk9 new9 le9 F9 N9 p9; (try dsimp only at le9); obtain ⟨e9, b9, t9, n9, e8⟩ := p9; subst e9 e8; (try simp only [List.nil_append, List.cons_append] at N9); (try dsimp only); (try k_sweep); (try k_fold)))
local macro_rules | `(tactic| kxt_pos) => `(tactic| (k_here; (with_reducible show wpAny _ _ (call (Value.ref 334) [Value.int _ _, Value.int _ _, Value.int _ _]) _ _ _); k_dflt (refine' Con.use (con_tojdn _ _ _ _ _ _ _) ?k1 ?k2 ?k3 ?k4 ?k5 ?kK ?kp ?kd ?ku ?k0 ?_; (case k1 => k_asm); (case k2 => k_asm); (case k3 => k_asm); (case k4 => k_asm); (case k5 => k_asm); (case kK => first | exact rfl | assumption); (case kp => first | assumption | omega); (case kd => ktr_room); (case ku => ktr_units); (case k0 => (dsimp only; omega))); intro v9 h9 tk9 new9 le9 F9 N9 p9; (try dsimp only at le9); obtain ⟨e9, t9, n9, e8⟩ := p9; subst e9 e8; (try simp only [List.nil_append, List.cons_append] at N9); (try dsimp only); (try k_sweep); (try k_fold)))
local macro_rules | `(tactic| kxt_pos) => `(tactic| (k_here; (with_reducible show wpAny _ _ (call (Value.ref 488) [Value.int _ _, Value.int _ _, Value.int _ _]) _ _ _); k_dflt (refine' Con.use (con_fromgo _ _ _ _ _ _ _) ?k1 ?k2 ?k3 ?k4 ?k5 ?kK ?kp ?kd ?ku ?k0 ?_; (case k1 => k_asm); (case k2 => k_asm); (case k3 => k_asm); (case k4 => k_asm); (case k5 => k_asm); (case kK => first | exact rfl | assumption); (case kp => first | ((refine ⟨?_, ?_, ?_, mlen_ge _ _ _ ?_⟩) <;> omega) | omega); (case kd => ktr_room); (case ku => ktr_units); (case k0 => (dsimp only; omega))); intro v9 h9 tk9 new9 le9 F9 N9 p9; (try dsimp only at le9); obtain ⟨a9, t9, u9, e9, e8⟩ := p9; subst e9 e8; (try simp only [List.nil_append, List.cons_append] at N9); (try dsimp only); (try k_sweep); (try k_fold)))
local macro_rules | `(tactic| kxt_pos) => `(tactic| (k_here; (with_reducible show wpAny _ _ (call (Value.ref 481) [Value.float (H (2 * _ + 1)) _]) _ _ _); k_dflt (refine' Con.use (con_fromjdo _ _ _ _ _ _ (by assumption)) ?k1 ?k2 ?k3 ?k4 ?k5 ?kK ?kp ?kd ?ku ?k0 ?_; (case k1 => k_asm); (case k2 => k_asm); (case k3 => k_asm); (case k4 => k_asm); (case k5 => k_asm); (case kK => first | exact rfl | assumption); (case kp => trivial); (case kd => ktr_room); (case ku => ktr_units); (case k0 => (dsimp only; omega))); intro v9 h9 tk9 new9 le9 F9 N9 p9; (try dsimp only at le9); obtain ⟨a9, t9, u9, e9, e8⟩ := p9; subst e9 e8; (try simp only [List.nil_append, List.cons_append] at N9); (try dsimp only); (try k_sweep); (try k_fold)))
local macro_rules | `(tactic| kxt_pos) => `(tactic| (k_here; (with_reducible show wpAny _ _ (call (Value.ref 474) [Value.int _ _, Value.int _ _]) _ _ _); k_dflt (refine' Con.use (con_tojdo _ _ _ _ _) ?k1 ?k2 ?k3 ?k4 ?k5 ?kK ?kp ?kd ?ku ?k0 ?_; (case k1 => k_asm); (case k2 => k_asm); (case k3 => k_asm); (case k4 => k_asm); (case k5 => k_asm); (case kK => first | exact rfl | assumption); (case kp => first | assumption | omega); (case kd => ktr_room); (case ku => ktr_units); (case k0 => (dsimp only; omega))); intro v9 h9 tk9 new9 le9 F9 N9 p9; (try dsimp only at le9); obtain ⟨e9, t9, n9, e8⟩ := p9; subst e9 e8; (try simp only [List.nil_append, List.cons_append] at N9); (try dsimp only); (try k_sweep); (try k_fold)))
local macro_rules | `(tactic| kxt_pos) => `(tactic| (k_here; (with_reducible show wpAny _ _ (call (Value.ref 495) [Value.int _ _, Value.int (doy _ _ _ + 1) _]) _ _ _); k_dflt (refine' Con.use (con_togo _ _ _ _ _ _ _ (by assumption)) ?k1 ?k2 ?k3 ?k4 ?k5 ?kK ?kp ?kd ?ku ?k0 ?_; (case k1 => k_asm); (case k2 => k_asm); (case k3 => k_asm); (case k4 => k_asm); (case k5 => k_asm); (case kK => first | exact rfl | assumption); (case kp => trivial); (case kd => ktr_room); (case ku => ktr_units); (case k0 => (dsimp only; omega))); intro v9 h9 tk9 new9 le9 F9 N9 p9; (try dsimp only at le9); obtain ⟨a9, t9, u9, v9, e9, e8⟩ := p9; subst e9 e8; (try simp only [List.nil_append, List.cons_append] at N9); (try dsimp only); (try k_sweep); (try k_fold)))
local macro_rules | `(tactic| kxt_pos) => `(tactic| (k_here; (with_reducible show wpAny _ _ (call (Value.ref 446) [Value.int _ _, Value.int _ _, Value.int _ _, Value.int _ _, Value.int _ _]) _ _ _); k_dflt (refine' Con.use (con_tojdm _ _ _ _ _ _ _ _ _ _ _) ?k1 ?k2 ?k3 ?k4 ?k5 ?kK ?kp ?kd ?ku ?k0 ?_; (case k1 => k_asm); (case k2 => k_asm); (case k3 => k_asm); (case k4 => k_asm); (case k5 => k_asm); (case kK => first | exact rfl | assumption); (case kp => first | assumption | omega); (case kd => ktr_room); (case ku => ktr_units); (case k0 => (dsimp only; omega))); intro v9 h9 tk9 new9 le9 F9 N9 p9; (try dsimp only at le9); obtain ⟨e9, t9, n9, e8⟩ := p9; subst e9 e8; (try simp only [List.nil_append, List.cons_append] at N9); (try dsimp only); (try k_sweep); (try k_fold)))
local macro_rules | `(tactic| kxt_pos) => `(tactic| (k_here; (with_reducible show wpAny _ _ (call (Value.ref 453) [Value.float (H (2 * _ + 1)) _]) _ _ _); k_dflt (refine' Con.use (con_fromjdm _ _ _ _ _ _ _ _ _ _ _ _ _ (by assumption)) ?k1 ?k2 ?k3 ?k4 ?k5 ?kK ?kp ?kd ?ku ?k0 ?_; (case k1 => k_asm); (case k2 => k_asm); (case k3 => k_asm); (case k4 => k_asm); (case k5 => k_asm); (case kK => first | exact rfl | assumption); (case kp => trivial); (case kd => ktr_room); (case ku => ktr_units); (case k0 => (dsimp only; omega))); intro v9 h9 tk9 new9 le9 F9 N9 p9; (try dsimp only at le9); obtain ⟨a9, t9, u9, v9, w9, x9, e9, e8⟩ := p9; subst e9 e8; (try simp only [List.nil_append, List.cons_append] at N9); (try dsimp only); (try k_sweep); (try k_fold)))
local macro_rules | `(tactic| kxt_pos) => `(tactic| (k_here; (with_reducible show wpAny _ _ (call (Value.ref 502) [Value.int _ _, Value.int _ _, Value.int _ _]) _ _ _); k_dflt (refine' Con.use (con_legalp _ _ _ _ _ _ _) ?k1 ?k2 ?k3 ?k4 ?k5 ?kK ?kp ?kd ?ku ?k0 ?_; (case k1 => k_asm); (case k2 => k_asm); (case k3 => k_asm); (case k4 => k_asm); (case k5 => k_asm); (case kK => first | exact rfl | assumption); (case kp => first | assumption | omega); (case kd => ktr_room); (case ku => ktr_units); (case k0 => (dsimp only; omega))); intro v9 h9 tk9 new9 le9 F9 N9 p9; (try dsimp only at le9); obtain ⟨e9, e8⟩ := p9; subst e9 e8; (try simp only [List.nil_append, List.cons_append] at N9); (try dsimp only); (try k_sweep); (try k_fold)))
local macro_rules | `(tactic| kxt_pos) => `(tactic| (k_here; (with_reducible show wpAny _ _ (call (Value.ref 509) [Value.int _ _, Value.int _ _, Value.int _ _]) _ _ _); k_dflt (refine' Con.use (con_tojdp _ _ _ _ _ _ _) ?k1 ?k2 ?k3 ?k4 ?k5 ?kK ?kp ?kd ?ku ?k0 ?_; (case k1 => k_asm); (case k2 => k_asm); (case k3 => k_asm); (case k4 => k_asm); (case k5 => k_asm); (case kK => first | exact rfl | assumption); (case kp => first | assumption | omega); (case kd => ktr_room); (case ku => ktr_units); (case k0 => (dsimp only; omega))); intro v9 h9 tk9 new9 le9 F9 N9 p9; (try dsimp only at le9); obtain ⟨e9, t9, n9, e8⟩ := p9; subst e9 e8; (try simp only [List.nil_append, List.cons_append] at N9); (try dsimp only); (try k_sweep); (try k_fold)))
local macro_rules | `(tactic| kxt_pos) => `(tactic| (k_here; (with_reducible show wpAny _ _ (call (Value.ref 516) [Value.float (H (2 * _ + 1)) _]) _ _ _); k_dflt (refine' Con.use (con_fromjdp _ _ _ _ _ _ _ _ _ _ _ _ _ _ _ _ (by assumption)) ?k1 ?k2 ?k3 ?k4 ?k5 ?kK ?kp ?kd ?ku ?k0 ?_; (case k1 => k_asm); (case k2 => k_asm); (case k3 => k_asm); (case k4 => k_asm); (case k5 => k_asm); (case kK => first | exact rfl | assumption); (case kp => trivial); (case kd => ktr_room); (case ku => ktr_units); (case k0 => (dsimp only; omega))); intro v9 h9 tk9 new9 le9 F9 N9 p9; (try dsimp only at le9); obtain ⟨a9, t9, u9, v9, e9, e8⟩ := p9; subst e9 e8; (try simp only [List.nil_append, List.cons_append] at N9); (try dsimp only); (try k_sweep); (try k_fold)))
local macro_rules | `(tactic| kxt_pos) => `(tactic| (k_here; (with_reducible show wpAny _ _ (call (Value.ref 251) [Value.int _ _]) _ _ _); k_dflt (refine' Con.use (con_leapt _ _ _) ?k1 ?k2 ?k3 ?k4 ?k5 ?kK ?kp ?kd ?ku ?k0 ?_; (case k1 => k_asm); (case k2 => k_asm); (case k3 => k_asm); (case k4 => k_asm); (case k5 => k_asm); (case kK => first | exact rfl | assumption); (case kp => omega); (case kd => ktr_room); (case ku => ktr_units); (case k0 => (dsimp only; omega))); intro v9 h9 tk9 new9 le9 F9 N9 p9; (try dsimp only at le9); obtain ⟨e9, e8⟩ := p9; subst e9 e8; (try simp only [List.nil_append, List.cons_append] at N9); (try dsimp only); (try k_sweep); (try k_fold)))
local macro_rules | `(tactic| kxt_pos) => `(tactic| (k_here; (with_reducible show wpAny _ _ (call (Value.ref 251) [Value.int _ _]) _ _ _); k_dflt (refine' Con.use (con_leapf _ _ _) ?k1 ?k2 ?k3 ?k4 ?k5 ?kK ?kp ?kd ?ku ?k0 ?_; (case k1 => k_asm); (case k2 => k_asm); (case k3 => k_asm); (case k4 => k_asm); (case k5 => k_asm); (case kK => first | exact rfl | assumption); (case kp => omega); (case kd => ktr_room); (case ku => ktr_units); (case k0 => (dsimp only; omega))); intro v9 h9 tk9 new9 le9 F9 N9 p9; (try dsimp only at le9); obtain ⟨e9, e8⟩ := p9; subst e9 e8; (try simp only [List.nil_append, List.cons_append] at N9); (try dsimp only); (try k_sweep); (try k_fold)))
local macro_rules | `(tactic| kxt_pos) => `(tactic| (k_here; (with_reducible show wpAny _ _ (call (Value.ref 244) [Value.int _ _, Value.int _ _, Value.int _ _, Value.none]) _ _ _); k_dflt (refine' Con.use (con_valid _ _ _ _ _ _ _) ?k1 ?k2 ?k3 ?k4 ?k5 ?kK ?kp ?kd ?ku ?k0 ?_; (case k1 => k_asm); (case k2 => k_asm); (case k3 => k_asm); (case k4 => k_asm); (case k5 => k_asm); (case kK => first | exact rfl | assumption); (case kp => first | assumption | omega); (case kd => ktr_room); (case ku => ktr_units); (case k0 => (dsimp only; omega))); intro v9 h9 tk9 new9 le9 F9 N9 p9; (try dsimp only at le9); obtain ⟨e9, e8⟩ := p9; subst e9 e8; (try simp only [List.nil_append, List.cons_append] at N9); (try dsimp only); (try k_sweep); (try k_fold)))
local macro_rules | `(tactic| kxt_pos) => `(tactic| (k_here; (with_reducible show wpAny _ _ (call (Value.ref 244) [Value.int _ _, Value.int _ _, Value.int _ _, Value.str _ _]) _ _ _); k_dflt (refine' Con.use (con_valids _ _ _ _ _ _ _ _) ?k1 ?k2 ?k3 ?k4 ?k5 ?kK ?kp ?kd ?ku ?k0 ?_; (case k1 => k_asm); (case k2 => k_asm); (case k3 => k_asm); (case k4 => k_asm); (case k5 => k_asm); (case kK => first | exact rfl | assumption); (case kp => first | assumption | omega); (case kd => ktr_room); (case ku => ktr_units); (case k0 => (dsimp only; omega))); intro v9 h9 tk9 new9 le9 F9 N9 p9; (try dsimp only at le9); obtain ⟨e9, e8⟩ := p9; subst e9 e8; (try simp only [List.nil_append, List.cons_append] at N9); (try dsimp only); (try k_sweep); (try k_fold)))
local macro_rules | `(tactic| kxt_pos) => `(tactic| (k_here; (with_reducible show wpAny _ _ (call (Value.ref 259) [Value.int _ _, Value.int _ _, Value.int _ _, Value.none]) _ _ _); k_dflt (refine' Con.use (con_tojda _ _ _ _ _ _ _) ?k1 ?k2 ?k3 ?k4 ?k5 ?kK ?kp ?kd ?ku ?k0 ?_; (case k1 => k_asm); (case k2 => k_asm); (case k3 => k_asm); (case k4 => k_asm); (case k5 => k_asm); (case kK => first | exact rfl | assumption); (case kp => first | assumption | omega); (case kd => ktr_room); (case ku => ktr_units); (case k0 => (dsimp only; omega))); intro v9 h9 tk9 new9 le9 F9 N9 p9; (try dsimp only at le9); obtain ⟨e9, t9, n9, e8⟩ := p9; subst e9 e8; (try simp only [List.nil_append, List.cons_append] at N9); (try dsimp only); (try k_sweep); (try k_fold)))
local macro_rules | `(tactic| kxt_pos) => `(tactic| (k_here; (with_reducible show wpAny _ _ (call (Value.ref 259) [Value.int _ _, Value.int _ _, Value.int _ _]) _ _ _); k_dflt (refine' Con.use (con_tojda3 _ _ _ _ _ _ _) ?k1 ?k2 ?k3 ?k4 ?k5 ?kK ?kp ?kd ?ku ?k0 ?_; (case k1 => k_asm); (case k2 => k_asm); (case k3 => k_asm); (case k4 => k_asm); (case k5 => k_asm); (case kK => first | exact rfl | assumption); (case kp => first | assumption | omega); (case kd => ktr_room); (case ku => ktr_units); (case k0 => (dsimp only; omega))); intro v9 h9 tk9 new9 le9 F9 N9 p9; (try dsimp only at le9); obtain ⟨e9, t9, n9, e8⟩ := p9; subst e9 e8; (try simp only [List.nil_append, List.cons_append] at N9); (try dsimp only); (try k_sweep); (try k_fold)))
local macro_rules | `(tactic| kxt_pos) => `(tactic| (k_here; (with_reducible show wpAny _ _ (call (Value.ref 259) [Value.int _ _, Value.int _ _, Value.int _ _, Value.str _ _]) _ _ _); k_dflt (refine' Con.use (con_tojds _ _ _ _ _ _ _ _) ?k1 ?k2 ?k3 ?k4 ?k5 ?kK ?kp ?kd ?ku ?k0 ?_; (case k1 => k_asm); (case k2 => k_asm); (case k3 => k_asm); (case k4 => k_asm); (case k5 => k_asm); (case kK => first | exact rfl | assumption); (case kp => first | assumption | omega); (case kd => ktr_room); (case ku => ktr_units); (case k0 => (dsimp only; omega))); intro v9 h9 tk9 new9 le9 F9 N9 p9; (try dsimp only at le9); obtain ⟨e9, t9, n9, e8⟩ := p9; subst e9 e8; (try simp only [List.nil_append, List.cons_append] at N9); (try dsimp only); (try k_sweep); (try k_fold)))
local macro_rules | `(tactic| kxt_pos) => `(tactic| (k_here; (with_reducible show wpAny _ _ (call (Value.ref 267) [Value.float (H (2 * _ + 1)) _, Value.none]) _ _ _); k_dflt (refine' Con.use (con_fromjda _ _ _ _ _ _ _ _ _ _ (by assumption)) ?k1 ?k2 ?k3 ?k4 ?k5 ?kK ?kp ?kd ?ku ?k0 ?_; (case k1 => k_asm); (case k2 => k_asm); (case k3 => k_asm); (case k4 => k_asm); (case k5 => k_asm); (case kK => first | exact rfl | assumption); (case kp => trivial); (case kd => ktr_room); (case ku => ktr_units); (case k0 => (dsimp only; omega))); intro v9 h9 tk9 new9 le9 F9 N9 p9; (try dsimp only at le9); obtain ⟨a9, t9, u9, v9, e9, e8⟩ := p9; subst e9 e8; (try simp only [List.nil_append, List.cons_append] at N9); (try dsimp only); (try k_sweep); (try k_fold)))
local macro_rules | `(tactic| kxt_pos) => `(tactic| (k_here; (with_reducible show wpAny _ _ (call (Value.ref 267) [Value.float (H (2 * _ + 1)) _]) _ _ _); k_dflt (refine' Con.use (con_fromjda1 _ _ _ _ _ _ _ _ _ _ (by assumption)) ?k1 ?k2 ?k3 ?k4 ?k5 ?kK ?kp ?kd ?ku ?k0 ?_; (case k1 => k_asm); (case k2 => k_asm); (case k3 => k_asm); (case k4 => k_asm); (case k5 => k_asm); (case kK => first | exact rfl | assumption); (case kp => trivial); (case kd => ktr_room); (case ku => ktr_units); (case k0 => (dsimp only; omega))); intro v9 h9 tk9 new9 le9 F9 N9 p9; (try dsimp only at le9); obtain ⟨a9, t9, u9, v9, e9, e8⟩ := p9; subst e9 e8; (try simp only [List.nil_append, List.cons_append] at N9); (try dsimp only); (try k_sweep); (try k_fold)))
local macro_rules | `(tactic| kxt_pos) => `(tactic| (k_here; (with_reducible show wpAny _ _ (call (Value.ref 267) [Value.float (H (2 * _ + 1)) _, Value.str _ _]) _ _ _); k_dflt (refine' Con.use (con_fromjds _ _ _ _ _ _ _ _ _ _ _ _ _ (by assumption)) ?k1 ?k2 ?k3 ?k4 ?k5 ?kK ?kp ?kd ?ku ?k0 ?_; (case k1 => k_asm); (case k2 => k_asm); (case k3 => k_asm); (case k4 => k_asm); (case k5 => k_asm); (case kK => first | exact rfl | assumption); (case kp => trivial); (case kd => ktr_room); (case ku => ktr_units); (case k0 => (dsimp only; omega))); intro v9 h9 tk9 new9 le9 F9 N9 p9; (try dsimp only at le9); obtain ⟨a9, t9, u9, v9, e9, e8⟩ := p9; subst e9 e8; (try simp only [List.nil_append, List.cons_append] at N9); (try dsimp only); (try k_sweep); (try k_fold)))
theorem con_num1 (w : World) (y m d ep : Int) (t1 t2 t3 : Tok) (a : Addr) (t u : Tok) : Con w 537 8 64 [.int 1 t, .ref a, .int ep u] (fun ns => (a, { cls := .type "tuple", data := .seq #[.int y t1, .int m t2, .int d t3] }) ∈ ns ∧ (1 ≤ y ∧ y < 1000000) ∧ (1 ≤ m ∧ m ≤ 12) ∧ 0 < d ∧ d ≤ mlen y m) (fun new v => new = [] ∧ ∃ tk, tk ≠ 0 ∧ v = .float (H (2 * gJ y m d + 1)) tk) := Apart.get (by simp (disch := k_dflt (
  unfold Con
  k_fill
  intro p loose mean mg mb dp un gd cn cs a' ccd cl outer A₀ base h₀ L ma news s Q E B F X N T hk hpre hdp hun htk0 hret
  obtain ⟨hin, hb⟩ := hpre
  have hb2 := hb; obtain ⟨hb3, hb4, hb5⟩ := hb2
  (refine wpAny_call ?_; refine' code_def (binds := [(Str.ofString "way", Value.int 1 t), (Str.ofString "date_v", Value.ref a), (Str.ofString "epoch", Value.int ep u)]) B F X N T rfl rfl hk ?k6 ?k7 ?k8 ?k9 ?kB ?_ ?c2 ?c3 ?c4 ?c5; (case k6 => k_is); (case k7 => k_is); (case k8 => ktr_room); (case k9 => first | exact BindsTo.of_eq rfl | exact binds_K (by k_in) rfl (by k_is) rfl rfl rfl); (case kB => exact locs rfl); (case c2 => exact rfl); (case c3 => exact rfl); (case c4 => exact rfl); (case c5 => decide); intro g' L' h' FG' F' N' B' X' T'; dsimp only; k_fold)
  k_steps
  all_goals (refine hret _ _ _ [] (by k_asm) (by k_asm) ⟨rfl, _, by assumption, rfl⟩)
  )) only [↓apart])
theorem con_num2 (w : World) (y m d ep : Int) (t1 t2 t3 : Tok) (a : Addr) (t u : Tok) : Con w 537 8 64 [.int 2 t, .ref a, .int ep u] (fun ns => (a, { cls := .type "tuple", data := .seq #[.int y t1, .int m t2, .int d t3] }) ∈ ns ∧ (1 ≤ y ∧ y < 100000) ∧ (1 ≤ m ∧ m ≤ 12) ∧ 0 < d ∧ d ≤ jlen y m) (fun new v => new = [] ∧ ∃ tk, tk ≠ 0 ∧ v = .float (H (2 * jJ y m d + 1)) tk) := Apart.get (by simp (disch := k_dflt (
  unfold Con
  k_fill
  intro p loose mean mg mb dp un gd cn cs a' ccd cl outer A₀ base h₀ L ma news s Q E B F X N T hk hpre hdp hun htk0 hret
  obtain ⟨hin, hb⟩ := hpre
  have hb2 := hb; obtain ⟨hb3, hb4, hb5⟩ := hb2
  (refine wpAny_call ?_; refine' code_def (binds := [(Str.ofString "way", Value.int 2 t), (Str.ofString "date_v", Value.ref a), (Str.ofString "epoch", Value.int ep u)]) B F X N T rfl rfl hk ?k6 ?k7 ?k8 ?k9 ?kB ?_ ?c2 ?c3 ?c4 ?c5; (case k6 => k_is); (case k7 => k_is); (case k8 => ktr_room); (case k9 => first | exact BindsTo.of_eq rfl | exact binds_K (by k_in) rfl (by k_is) rfl rfl rfl); (case kB => exact locs rfl); (case c2 => exact rfl); (case c3 => exact rfl); (case c4 => exact rfl); (case c5 => decide); intro g' L' h' FG' F' N' B' X' T'; dsimp only; k_fold)
  k_steps
  all_goals (refine hret _ _ _ [] (by k_asm) (by k_asm) ⟨rfl, _, by assumption, rfl⟩)
  )) only [↓apart])
theorem con_num3 (w : World) (y m d ep : Int) (t1 t2 t3 : Tok) (a : Addr) (t u : Tok) : Con w 537 8 64 [.int 3 t, .ref a, .int ep u] (fun ns => (a, { cls := .type "tuple", data := .seq #[.int y t1, .int m t2, .int d t3] }) ∈ ns ∧ (0 ≤ y ∧ y < 100000) ∧ (1 ≤ m ∧ m ≤ 13) ∧ 0 < d ∧ d ≤ 40) (fun new v => new = [] ∧ ∃ tk, tk ≠ 0 ∧ v = .float (H (2 * iJ y m d + 1)) tk) := Apart.get (by simp (disch := k_dflt (
  unfold Con
  k_fill
  intro p loose mean mg mb dp un gd cn cs a' ccd cl outer A₀ base h₀ L ma news s Q E B F X N T hk hpre hdp hun htk0 hret
  obtain ⟨hin, hb⟩ := hpre
  have hb2 := hb; obtain ⟨hb3, hb4, hb5⟩ := hb2
  (refine wpAny_call ?_; refine' code_def (binds := [(Str.ofString "way", Value.int 3 t), (Str.ofString "date_v", Value.ref a), (Str.ofString "epoch", Value.int ep u)]) B F X N T rfl rfl hk ?k6 ?k7 ?k8 ?k9 ?kB ?_ ?c2 ?c3 ?c4 ?c5; (case k6 => k_is); (case k7 => k_is); (case k8 => ktr_room); (case k9 => first | exact BindsTo.of_eq rfl | exact binds_K (by k_in) rfl (by k_is) rfl rfl rfl); (case kB => exact locs rfl); (case c2 => exact rfl); (case c3 => exact rfl); (case c4 => exact rfl); (case c5 => decide); intro g' L' h' FG' F' N' B' X' T'; dsimp only; k_fold)
  k_steps
  all_goals (refine hret _ _ _ [] (by k_asm) (by k_asm) ⟨rfl, _, by assumption, rfl⟩)
  )) only [↓apart])
theorem con_num4 (w : World) (y m d ep : Int) (t1 t2 t3 : Tok) (a : Addr) (t u : Tok) : Con w 537 8 64 [.int 4 t, .ref a, .int ep u] (fun ns => (a, { cls := .type "tuple", data := .seq #[.int y t1, .int m t2, .int d t3] }) ∈ ns ∧ (0 ≤ y ∧ y < 100000) ∧ (1 ≤ m ∧ m ≤ 13) ∧ 0 < d ∧ d ≤ 40) (fun new v => new = [] ∧ ∃ tk, tk ≠ 0 ∧ v = .float (H (2 * cJ y m d + 1)) tk) := Apart.get (by simp (disch := k_dflt (
  unfold Con
  k_fill
  intro p loose mean mg mb dp un gd cn cs a' ccd cl outer A₀ base h₀ L ma news s Q E B F X N T hk hpre hdp hun htk0 hret
  obtain ⟨hin, hb⟩ := hpre
  have hb2 := hb; obtain ⟨hb3, hb4, hb5⟩ := hb2
  (refine wpAny_call ?_; refine' code_def (binds := [(Str.ofString "way", Value.int 4 t), (Str.ofString "date_v", Value.ref a), (Str.ofString "epoch", Value.int ep u)]) B F X N T rfl rfl hk ?k6 ?k7 ?k8 ?k9 ?kB ?_ ?c2 ?c3 ?c4 ?c5; (case k6 => k_is); (case k7 => k_is); (case k8 => ktr_room); (case k9 => first | exact BindsTo.of_eq rfl | exact binds_K (by k_in) rfl (by k_is) rfl rfl rfl); (case kB => exact locs rfl); (case c2 => exact rfl); (case c3 => exact rfl); (case c4 => exact rfl); (case c5 => decide); intro g' L' h' FG' F' N' B' X' T'; dsimp only; k_fold)
  k_steps
  all_goals (refine hret _ _ _ [] (by k_asm) (by k_asm) ⟨rfl, _, by assumption, rfl⟩)
  )) only [↓apart])
theorem con_num5 (w : World) (y m d ep : Int) (t1 t2 t3 : Tok) (a : Addr) (t u : Tok) : Con w 537 8 64 [.int 5 t, .ref a, .int ep u] (fun ns => (a, { cls := .type "tuple", data := .seq #[.int y t1, .int m t2, .int d t3] }) ∈ ns ∧ (1 ≤ y ∧ y < 20000) ∧ (1 ≤ m ∧ m ≤ 12) ∧ 0 < d ∧ d ≤ 31) (fun new v => new = [] ∧ ∃ tk, tk ≠ 0 ∧ v = .float (H (2 * nJ y m d + 1)) tk) := Apart.get (by simp (disch := k_dflt (
  unfold Con
  k_fill
  intro p loose mean mg mb dp un gd cn cs a' ccd cl outer A₀ base h₀ L ma news s Q E B F X N T hk hpre hdp hun htk0 hret
  obtain ⟨hin, hb⟩ := hpre
  have hb2 := hb; obtain ⟨hb3, hb4, hb5⟩ := hb2
  (refine wpAny_call ?_; refine' code_def (binds := [(Str.ofString "way", Value.int 5 t), (Str.ofString "date_v", Value.ref a), (Str.ofString "epoch", Value.int ep u)]) B F X N T rfl rfl hk ?k6 ?k7 ?k8 ?k9 ?kB ?_ ?c2 ?c3 ?c4 ?c5; (case k6 => k_is); (case k7 => k_is); (case k8 => ktr_room); (case k9 => first | exact BindsTo.of_eq rfl | exact binds_K (by k_in) rfl (by k_is) rfl rfl rfl); (case kB => exact locs rfl); (case c2 => exact rfl); (case c3 => exact rfl); (case c4 => exact rfl); (case c5 => decide); intro g' L' h' FG' F' N' B' X' T'; dsimp only; k_fold)
  k_steps
  all_goals (refine hret _ _ _ [] (by k_asm) (by k_asm) ⟨rfl, _, by assumption, rfl⟩)
  )) only [↓apart])
theorem con_num8 (w : World) (y m d ep : Int) (t1 t2 t3 : Tok) (a : Addr) (t u : Tok) : Con w 537 8 64 [.int 8 t, .ref a, .int ep u] (fun ns => (a, { cls := .type "tuple", data := .seq #[.int y t1, .int m t2, .int d t3] }) ∈ ns ∧ PosB y m d) (fun new v => new = [] ∧ ∃ tk, tk ≠ 0 ∧ v = .float (H (2 * pJ y m d + 1)) tk) := Apart.get (by simp (disch := k_dflt (
  unfold Con
  k_fill
  intro p loose mean mg mb dp un gd cn cs a' ccd cl outer A₀ base h₀ L ma news s Q E B F X N T hk hpre hdp hun htk0 hret
  obtain ⟨hin, hb⟩ := hpre
  have hb2 := hb; obtain ⟨hb3, hb4, hb5⟩ := hb2
  (refine wpAny_call ?_; refine' code_def (binds := [(Str.ofString "way", Value.int 8 t), (Str.ofString "date_v", Value.ref a), (Str.ofString "epoch", Value.int ep u)]) B F X N T rfl rfl hk ?k6 ?k7 ?k8 ?k9 ?kB ?_ ?c2 ?c3 ?c4 ?c5; (case k6 => k_is); (case k7 => k_is); (case k8 => ktr_room); (case k9 => first | exact BindsTo.of_eq rfl | exact binds_K (by k_in) rfl (by k_is) rfl rfl rfl); (case kB => exact locs rfl); (case c2 => exact rfl); (case c3 => exact rfl); (case c4 => exact rfl); (case c5 => decide); intro g' L' h' FG' F' N' B' X' T'; dsimp only; k_fold)
  k_steps
  all_goals (refine hret _ _ _ [] (by k_asm) (by k_asm) ⟨rfl, _, by assumption, rfl⟩)
  )) only [↓apart])
theorem con_num10 (w : World) (y m d ep : Int) (t1 t2 t3 : Tok) (a : Addr) (t u : Tok) : Con w 537 8 64 [.int 10 t, .ref a, .int ep u] (fun ns => (a, { cls := .type "tuple", data := .seq #[.int y t1, .int m t2, .int d t3] }) ∈ ns ∧ ArmB y m d) (fun new v => new = [] ∧ ∃ tk, tk ≠ 0 ∧ v = .float (H (2 * aJ y m d + 1)) tk) := Apart.get (by simp (disch := k_dflt (
  unfold Con
  k_fill
  intro p loose mean mg mb dp un gd cn cs a' ccd cl outer A₀ base h₀ L ma news s Q E B F X N T hk hpre hdp hun htk0 hret
  obtain ⟨hin, hb⟩ := hpre
  have hb2 := hb; obtain ⟨hb3, hb4, hb5⟩ := hb2
  (refine wpAny_call ?_; refine' code_def (binds := [(Str.ofString "way", Value.int 10 t), (Str.ofString "date_v", Value.ref a), (Str.ofString "epoch", Value.int ep u)]) B F X N T rfl rfl hk ?k6 ?k7 ?k8 ?k9 ?kB ?_ ?c2 ?c3 ?c4 ?c5; (case k6 => k_is); (case k7 => k_is); (case k8 => ktr_room); (case k9 => first | exact BindsTo.of_eq rfl | exact binds_K (by k_in) rfl (by k_is) rfl rfl rfl); (case kB => exact locs rfl); (case c2 => exact rfl); (case c3 => exact rfl); (case c4 => exact rfl); (case c5 => decide); intro g' L' h' FG' F' N' B' X' T'; dsimp only; k_fold)
  k_steps
  all_goals (refine hret _ _ _ [] (by k_asm) (by k_asm) ⟨rfl, _, by assumption, rfl⟩)
  )) only [↓apart])
theorem con_num11 (w : World) (y m d ep : Int) (t1 t2 t3 : Tok) (a : Addr) (t u : Tok) : Con w 537 8 64 [.int 11 t, .ref a, .int ep u] (fun ns => (a, { cls := .type "tuple", data := .seq #[.int y t1, .int m t2, .int d t3] }) ∈ ns ∧ SarB y m d) (fun new v => new = [] ∧ ∃ tk, tk ≠ 0 ∧ v = .float (H (2 * sJ y m d + 1)) tk) := Apart.get (by simp (disch := k_dflt (
  unfold Con
  k_fill
  intro p loose mean mg mb dp un gd cn cs a' ccd cl outer A₀ base h₀ L ma news s Q E B F X N T hk hpre hdp hun htk0 hret
  obtain ⟨hin, hb⟩ := hpre
  have hb2 := hb; obtain ⟨hb3, hb4, hb5⟩ := hb2
  (refine wpAny_call ?_; refine' code_def (binds := [(Str.ofString "way", Value.int 11 t), (Str.ofString "date_v", Value.ref a), (Str.ofString "epoch", Value.int ep u)]) B F X N T rfl rfl hk ?k6 ?k7 ?k8 ?k9 ?kB ?_ ?c2 ?c3 ?c4 ?c5; (case k6 => k_is); (case k7 => k_is); (case k8 => ktr_room); (case k9 => first | exact BindsTo.of_eq rfl | exact binds_K (by k_in) rfl (by k_is) rfl rfl rfl); (case kB => exact locs rfl); (case c2 => exact rfl); (case c3 => exact rfl); (case c4 => exact rfl); (case c5 => decide); intro g' L' h' FG' F' N' B' X' T'; dsimp only; k_fold)
  k_steps
  all_goals (refine hret _ _ _ [] (by k_asm) (by k_asm) ⟨rfl, _, by assumption, rfl⟩)
  )) only [↓apart])
theorem con_num6 (w : World) (y n ep : Int) (t1 t2 : Tok) (a : Addr) (t u : Tok) : Con w 537 8 64 [.int 6 t, .ref a, .int ep u] (fun ns => (a, { cls := .type "tuple", data := .seq #[.int y t1, .int n t2] }) ∈ ns ∧ (1 ≤ y ∧ y < 20000) ∧ (1 ≤ n ∧ n ≤ 400)) (fun new v => new = [] ∧ ∃ tk, tk ≠ 0 ∧ v = .float (H (2 * (gJ y 1 1 + n - 1) + 1)) tk) := Apart.get (by simp (disch := k_dflt (
  unfold Con
  k_fill
  intro p loose mean mg mb dp un gd cn cs a' ccd cl outer A₀ base h₀ L ma news s Q E B F X N T hk hpre hdp hun htk0 hret
  obtain ⟨hin, hb⟩ := hpre
  obtain ⟨hb3, hb4⟩ := hb
  (refine wpAny_call ?_; refine' code_def (binds := [(Str.ofString "way", Value.int 6 t), (Str.ofString "date_v", Value.ref a), (Str.ofString "epoch", Value.int ep u)]) B F X N T rfl rfl hk ?k6 ?k7 ?k8 ?k9 ?kB ?_ ?c2 ?c3 ?c4 ?c5; (case k6 => k_is); (case k7 => k_is); (case k8 => ktr_room); (case k9 => first | exact BindsTo.of_eq rfl | exact binds_K (by k_in) rfl (by k_is) rfl rfl rfl); (case kB => exact locs rfl); (case c2 => exact rfl); (case c3 => exact rfl); (case c4 => exact rfl); (case c5 => decide); intro g' L' h' FG' F' N' B' X' T'; dsimp only; k_fold)
  k_steps
  all_goals (refine hret _ _ _ [] (by k_asm) (by k_asm) ⟨rfl, _, by assumption, rfl⟩)
  )) only [↓apart])
theorem con_num9 (w : World) (b k c x n ep : Int) (t1 t2 t3 t4 t5 : Tok) (a : Addr) (t u : Tok) : Con w 537 8 64 [.int 9 t, .ref a, .int ep u] (fun ns => (a, { cls := .type "tuple", data := .seq #[.int b t1, .int k t2, .int c t3, .int x t4, .int n t5] }) ∈ ns ∧ MayB b k c x n) (fun new v => new = [] ∧ ∃ tk, tk ≠ 0 ∧ v = .float (H (2 * mJ b k c x n + 1)) tk) := Apart.get (by simp (disch := k_dflt (
  unfold Con
  k_fill
  intro p loose mean mg mb dp un gd cn cs a' ccd cl outer A₀ base h₀ L ma news s Q E B F X N T hk hpre hdp hun htk0 hret
  obtain ⟨hin, hb⟩ := hpre
  have hb2 := hb; obtain ⟨hb3, hb4, hb5⟩ := hb2
  (refine wpAny_call ?_; refine' code_def (binds := [(Str.ofString "way", Value.int 9 t), (Str.ofString "date_v", Value.ref a), (Str.ofString "epoch", Value.int ep u)]) B F X N T rfl rfl hk ?k6 ?k7 ?k8 ?k9 ?kB ?_ ?c2 ?c3 ?c4 ?c5; (case k6 => k_is); (case k7 => k_is); (case k8 => ktr_room); (case k9 => first | exact BindsTo.of_eq rfl | exact binds_K (by k_in) rfl (by k_is) rfl rfl rfl); (case kB => exact locs rfl); (case c2 => exact rfl); (case c3 => exact rfl); (case c4 => exact rfl); (case c5 => decide); intro g' L' h' FG' F' N' B' X' T'; dsimp only; k_fold)
  k_steps
  all_goals (refine hret _ _ _ [] (by k_asm) (by k_asm) ⟨rfl, _, by assumption, rfl⟩)
  )) only [↓apart])
end
section
local macro_rules | `(tactic| kxt_pos) => `(tactic| (k_here; (with_reducible show wpAny _ _ (call (Value.ref 59) [Value.float _ _]) _ _ _); k_dflt (refine' Con.use (con_jwday _ _ _) ?k1 ?k2 ?k3 ?k4 ?k5 ?kK ?kp ?kd ?ku ?k0 ?_; (case k1 => k_asm); (case k2 => k_asm); (case k3 => k_asm); (case k4 => k_asm); (case k5 => k_asm); (case kK => first | exact rfl | assumption); (case kp => first | assumption | omega); (case kd => ktr_room); (case ku => ktr_units); (case k0 => (dsimp only; omega))); intro v9 h9 tk9 new9 le9 F9 N9 p9; (try dsimp only at le9); obtain ⟨e9, t9, e8⟩ := p9; subst e9 e8; (try simp only [List.nil_append, List.cons_append] at N9); (try dsimp only); (try k_sweep); (try k_fold)))
local macro_rules | `(tactic| kxt_pos) => `(tactic| (k_here; (with_reducible show wpAny _ _ (call (Value.ref 66) [Value.int 6 _, Value.float _ _]) _ _ _); k_dflt (refine' Con.use (con_wb _ _ _ _) ?k1 ?k2 ?k3 ?k4 ?k5 ?kK ?kp ?kd ?ku ?k0 ?_; (case k1 => k_asm); (case k2 => k_asm); (case k3 => k_asm); (case k4 => k_asm); (case k5 => k_asm); (case kK => first | exact rfl | assumption); (case kp => first | assumption | omega); (case kd => ktr_room); (case ku => ktr_units); (case k0 => (dsimp only; omega))); intro v9 h9 tk9 new9 le9 F9 N9 p9; (try dsimp only at le9); obtain ⟨e9, t9, n9, e8⟩ := p9; subst e9 e8; (try simp only [List.nil_append, List.cons_append] at N9); (try dsimp only); (try k_sweep); (try k_fold)))
local macro_rules | `(tactic| kxt_pos) => `(tactic| (k_here; (with_reducible show wpAny _ _ (call (Value.ref 73) [Value.int 6 _, Value.float _ _, Value.int _ _, Value.int 1 _]) _ _ _); k_dflt (refine' Con.use (con_sw _ _ _ _ _ _) ?k1 ?k2 ?k3 ?k4 ?k5 ?kK ?kp ?kd ?ku ?k0 ?_; (case k1 => k_asm); (case k2 => k_asm); (case k3 => k_asm); (case k4 => k_asm); (case k5 => k_asm); (case kK => first | exact rfl | assumption); (case kp => first | assumption | omega); (case kd => ktr_room); (case ku => ktr_units); (case k0 => (dsimp only; omega))); intro v9 h9 tk9 new9 le9 F9 N9 p9; (try dsimp only at le9); obtain ⟨e9, t9, n9, e8⟩ := p9; subst e9 e8; (try simp only [List.nil_append, List.cons_append] at N9); (try dsimp only); (try k_sweep); (try k_fold)))
local macro_rules | `(tactic| kxt_pos) => `(tactic| (k_here; (with_reducible show wpAny _ _ (call (Value.ref 87) [Value.int 6 _, Value.float _ _]) _ _ _); k_dflt (refine' Con.use (con_pw _ _ _ _) ?k1 ?k2 ?k3 ?k4 ?k5 ?kK ?kp ?kd ?ku ?k0 ?_; (case k1 => k_asm); (case k2 => k_asm); (case k3 => k_asm); (case k4 => k_asm); (case k5 => k_asm); (case kK => first | exact rfl | assumption); (case kp => first | assumption | omega); (case kd => ktr_room); (case ku => ktr_units); (case k0 => (dsimp only; omega))); intro v9 h9 tk9 new9 le9 F9 N9 p9; (try dsimp only at le9); obtain ⟨e9, t9, n9, e8⟩ := p9; subst e9 e8; (try simp only [List.nil_append, List.cons_append] at N9); (try dsimp only); (try k_sweep); (try k_fold)))
local macro_rules | `(tactic| kxt_pos) => `(tactic| (k_here; (with_reducible show wpAny _ _ (call (Value.ref 94) [Value.int 6 _, Value.float _ _, Value.int _ _]) _ _ _); k_dflt (refine' Con.use (con_nw _ _ _ _ _ _) ?k1 ?k2 ?k3 ?k4 ?k5 ?kK ?kp ?kd ?ku ?k0 ?_; (case k1 => k_asm); (case k2 => k_asm); (case k3 => k_asm); (case k4 => k_asm); (case k5 => k_asm); (case kK => first | exact rfl | assumption); (case kp => first | assumption | omega); (case kd => ktr_room); (case ku => ktr_units); (case k0 => (dsimp only; omega))); intro v9 h9 tk9 new9 le9 F9 N9 p9; (try dsimp only at le9); obtain ⟨e9, t9, n9, e8⟩ := p9; subst e9 e8; (try simp only [List.nil_append, List.cons_append] at N9); (try dsimp only); (try k_sweep); (try k_fold)))
local macro_rules | `(tactic| kxt_pos) => `(tactic| (k_here; (with_reducible show wpAny _ _ (call (Value.ref 390) [Value.int _ _, Value.int _ _, Value.int _ _]) _ _ _); k_dflt (refine' Con.use (con_tojdw _ _ _ _ _ _ _) ?k1 ?k2 ?k3 ?k4 ?k5 ?kK ?kp ?kd ?ku ?k0 ?_; (case k1 => k_asm); (case k2 => k_asm); (case k3 => k_asm); (case k4 => k_asm); (case k5 => k_asm); (case kK => first | exact rfl | assumption); (case kp => first | assumption | omega); (case kd => ktr_room); (case ku => ktr_units); (case k0 => (dsimp only; omega))); intro v9 h9 tk9 new9 le9 F9 N9 p9; (try dsimp only at le9); obtain ⟨e9, t9, n9, e8⟩ := p9; subst e9 e8; (try simp only [List.nil_append, List.cons_append] at N9); (try dsimp only); (try k_sweep); (try k_fold)))
theorem con_num7 (w : World) (y n d ep : Int) (tk0 : Nat) (a : Addr) (t u : Tok) : Con w 537 8 64 [.int 7 t, .ref a, .int ep u] (fun ns => (a, isoObj (y, n, d) tk0) ∈ ns ∧ (2 ≤ y ∧ y < 50000) ∧ (1 ≤ n ∧ n ≤ 100) ∧ (1 ≤ d ∧ d ≤ 7)) (fun new v => new = [] ∧ ∃ tk, tk ≠ 0 ∧ v = .float (H (2 * wJ y n d + 1)) tk) := Apart.get (by simp (disch := k_dflt (
  unfold Con
  k_fill
  intro p loose mean mg mb dp un gd cn cs a' ccd cl outer A₀ base h₀ L ma news s Q E B F X N T hk hpre hdp hun htk0 hret
  obtain ⟨hin, hb⟩ := hpre
  have hb2 := hb; obtain ⟨hb3, hb4, hb5⟩ := hb2
  (refine wpAny_call ?_; refine' code_def (binds := [(Str.ofString "way", Value.int 7 t), (Str.ofString "date_v", Value.ref a), (Str.ofString "epoch", Value.int ep u)]) B F X N T rfl rfl hk ?k6 ?k7 ?k8 ?k9 ?kB ?_ ?c2 ?c3 ?c4 ?c5; (case k6 => k_is); (case k7 => k_is); (case k8 => ktr_room); (case k9 => first | exact BindsTo.of_eq rfl | exact binds_K (by k_in) rfl (by k_is) rfl rfl rfl); (case kB => exact locs rfl); (case c2 => exact rfl); (case c3 => exact rfl); (case c4 => exact rfl); (case c5 => decide); intro g' L' h' FG' F' N' B' X' T'; dsimp only; k_fold)
  k_steps
  all_goals (refine hret _ _ _ [] (by k_asm) (by k_asm) ⟨rfl, _, by assumption, rfl⟩)
  )) only [↓apart])
end
section
open PySem PySem.W PySem.Spec PySem.Calls PyProof.Rows
set_option maxHeartbeats 4000000
theorem gYs (g : Int) : gY (g + 1) = gY g + 365 + (if leapB g = true then 1 else 0) := by
  unfold gY
  split
  · next h => rw [leap_iff] at h; omega
  · next h => rw [leap_iff] at h; omega
theorem year_of (n : Nat) : ∃ y : Int, 1 ≤ y ∧ gY y ≤ n ∧ (n : Int) < gY (y + 1) := by
  induction n with
  | zero => exact ⟨1, by decide, by decide, by decide⟩
  | succ n ih =>
    obtain ⟨y, h1, h2, h3⟩ := ih
    by_cases c : ((n + 1 : Nat) : Int) < gY (y + 1)
    · exact ⟨y, h1, by omega, c⟩
    · refine ⟨y + 1, by omega, by omega, ?_⟩
      have h4 := gYs (y + 1)
      split at h4 <;> omega
theorem day_of (y r : Int) (h0 : 0 ≤ r) (h1 : r ≤ 364 + (if leapB y = true then 1 else 0)) : ∃ m d, (1 ≤ m ∧ m ≤ 12) ∧ 0 < d ∧ d ≤ mlen y m ∧ doy y m d = r := by
  cases hl : leapB y
  · rw [hl] at h1
    simp only [Bool.false_eq_true, if_false] at h1
    by_cases c1 : r < 31
    · exact ⟨1, r + 1, ⟨by decide, by decide⟩, by omega, by unfold mlen; rw [hl]; simp; omega, by unfold doy; rw [hl]; simp⟩
    by_cases c2 : r < 59
    · exact ⟨2, r - 30, ⟨by decide, by decide⟩, by omega, by unfold mlen; rw [hl]; simp; omega, by unfold doy; rw [hl]; simp; omega⟩
    by_cases c3 : r < 90
    · exact ⟨3, r - 58, ⟨by decide, by decide⟩, by omega, by unfold mlen; rw [hl]; simp; omega, by unfold doy; rw [hl]; simp; omega⟩
    by_cases c4 : r < 120
    · exact ⟨4, r - 89, ⟨by decide, by decide⟩, by omega, by unfold mlen; rw [hl]; simp; omega, by unfold doy; rw [hl]; simp; omega⟩
    by_cases c5 : r < 151
    · exact ⟨5, r - 119, ⟨by decide, by decide⟩, by omega, by unfold mlen; rw [hl]; simp; omega, by unfold doy; rw [hl]; simp; omega⟩
    by_cases c6 : r < 181
    · exact ⟨6, r - 150, ⟨by decide, by decide⟩, by omega, by unfold mlen; rw [hl]; simp; omega, by unfold doy; rw [hl]; simp; omega⟩
    by_cases c7 : r < 212
    · exact ⟨7, r - 180, ⟨by decide, by decide⟩, by omega, by unfold mlen; rw [hl]; simp; omega, by unfold doy; rw [hl]; simp; omega⟩
    by_cases c8 : r < 243
    · exact ⟨8, r - 211, ⟨by decide, by decide⟩, by omega, by unfold mlen; rw [hl]; simp; omega, by unfold doy; rw [hl]; simp; omega⟩
    by_cases c9 : r < 273
    · exact ⟨9, r - 242, ⟨by decide, by decide⟩, by omega, by unfold mlen; rw [hl]; simp; omega, by unfold doy; rw [hl]; simp; omega⟩
    by_cases c10 : r < 304
    · exact ⟨10, r - 272, ⟨by decide, by decide⟩, by omega, by unfold mlen; rw [hl]; simp; omega, by unfold doy; rw [hl]; simp; omega⟩
    by_cases c11 : r < 334
    · exact ⟨11, r - 303, ⟨by decide, by decide⟩, by omega, by unfold mlen; rw [hl]; simp; omega, by unfold doy; rw [hl]; simp; omega⟩
    exact ⟨12, r - 333, ⟨by decide, by decide⟩, by omega, by unfold mlen; rw [hl]; simp; omega, by unfold doy; rw [hl]; simp; omega⟩
  · rw [hl] at h1
    simp only [if_true] at h1
    by_cases c1 : r < 31
    · exact ⟨1, r + 1, ⟨by decide, by decide⟩, by omega, by unfold mlen; rw [hl]; simp; omega, by unfold doy; rw [hl]; simp⟩
    by_cases c2 : r < 60
    · exact ⟨2, r - 30, ⟨by decide, by decide⟩, by omega, by unfold mlen; rw [hl]; simp; omega, by unfold doy; rw [hl]; simp; omega⟩
    by_cases c3 : r < 91
    · exact ⟨3, r - 59, ⟨by decide, by decide⟩, by omega, by unfold mlen; rw [hl]; simp; omega, by unfold doy; rw [hl]; simp; omega⟩
    by_cases c4 : r < 121
    · exact ⟨4, r - 90, ⟨by decide, by decide⟩, by omega, by unfold mlen; rw [hl]; simp; omega, by unfold doy; rw [hl]; simp; omega⟩
    by_cases c5 : r < 152
    · exact ⟨5, r - 120, ⟨by decide, by decide⟩, by omega, by unfold mlen; rw [hl]; simp; omega, by unfold doy; rw [hl]; simp; omega⟩
    by_cases c6 : r < 182
    · exact ⟨6, r - 151, ⟨by decide, by decide⟩, by omega, by unfold mlen; rw [hl]; simp; omega, by unfold doy; rw [hl]; simp; omega⟩
    by_cases c7 : r < 213
    · exact ⟨7, r - 181, ⟨by decide, by decide⟩, by omega, by unfold mlen; rw [hl]; simp; omega, by unfold doy; rw [hl]; simp; omega⟩
    by_cases c8 : r < 244
    · exact ⟨8, r - 212, ⟨by decide, by decide⟩, by omega, by unfold mlen; rw [hl]; simp; omega, by unfold doy; rw [hl]; simp; omega⟩
    by_cases c9 : r < 274
    · exact ⟨9, r - 243, ⟨by decide, by decide⟩, by omega, by unfold mlen; rw [hl]; simp; omega, by unfold doy; rw [hl]; simp; omega⟩
    by_cases c10 : r < 305
    · exact ⟨10, r - 273, ⟨by decide, by decide⟩, by omega, by unfold mlen; rw [hl]; simp; omega, by unfold doy; rw [hl]; simp; omega⟩
    by_cases c11 : r < 335
    · exact ⟨11, r - 304, ⟨by decide, by decide⟩, by omega, by unfold mlen; rw [hl]; simp; omega, by unfold doy; rw [hl]; simp; omega⟩
    exact ⟨12, r - 334, ⟨by decide, by decide⟩, by omega, by unfold mlen; rw [hl]; simp; omega, by unfold doy; rw [hl]; simp; omega⟩
theorem greg_of (J : Int) (hJ : 1721425 ≤ J ∧ J < 5300000) : ∃ y m d, Greg J y m d ∧ y ≤ 9999 := by
  obtain ⟨y, h1, h2, h3⟩ := year_of (J - 1721425).toNat
  have e : ((J - 1721425).toNat : Int) = J - 1721425 := by omega
  rw [e] at h2 h3
  have h4 := gYs y
  have hy : y ≤ 9999 := by unfold gY at h2; omega
  obtain ⟨m, d, hm, hd, hd2, he⟩ := day_of y (J - 1721425 - gY y) (by omega) (by omega)
  exact ⟨y, m, d, ⟨h1, by omega, hm.1, hm.2, hd, hd2, by unfold gJ; omega⟩, hy⟩
end
section
open PySem PySem.W PySem.Spec PySem.Calls PyProof.Rows PySem.Builtin
set_option maxHeartbeats 4000000
theorem leap_same (y : Int) : Builtin.Time.timeIsLeap y = leapB y := by unfold Builtin.Time.timeIsLeap leapB; by_cases a : y % 4 = 0 <;> by_cases b : y % 100 = 0 <;> by_cases c : y % 400 = 0 <;> simp [a, b, c]
theorem ord_eq {y m d : Int} (h1 : 1 ≤ m) (h2 : m ≤ 12) : _datetime.toOrdinal y m d = gJ y m d - 1721424 := by
  have e : Builtin.Time.timeDaysBefore (leapB y) m + d = doy y m d + 1 := by
    unfold Builtin.Time.timeDaysBefore doy
    cases hl : leapB y <;> rcases months h1 h2 with h | h | h | h | h | h | h | h | h | h | h | h <;> subst h <;> simp <;> omega
  unfold _datetime.toOrdinal
  rw [leap_same]
  simp only []
  unfold gJ gY
  omega
def mon1 (y : Int) : Int := gJ y 1 1 - (gJ y 1 1 + 1) % 7 + (if (gJ y 1 1 + 1) % 7 > 3 then 7 else 0)
theorem w1_eq (y : Int) : _datetime.isoWeek1Monday y = mon1 y - 1721424 := by
  unfold _datetime.isoWeek1Monday _datetime.weekdayOf mon1
  rw [ord_eq (by decide) (by decide)]
  simp only []
  split <;> split <;> omega
theorem w28 (y : Int) : gJ (y - 1) 12 28 - (gJ (y - 1) 12 28 + 1) % 7 + 7 = mon1 y := by
  have h1 := gYs (y - 1)
  rw [show y - 1 + 1 = y by omega] at h1
  have h2 : gJ y 1 1 = gJ (y - 1) 12 28 + 4 := by
    unfold gJ doy
    split at h1 <;> rename_i h <;> simp [h] <;> omega
  unfold mon1
  rw [h2]
  generalize gJ (y - 1) 12 28 = q
  split <;> omega
theorem w_eq (y n d : Int) : wJ y n d = mon1 y + 7 * (n - 1) + (d - 1) := by
  rw [← w28]; unfold wJ; omega
theorem iso_back {J y m d : Int} (G : Greg J y m d) (hy : 3 ≤ y) : ∃ a b c, _datetime.isoCalendarOf y m d = (a, b, c) ∧ wJ a b c = J ∧ (2 ≤ a ∧ a < 50000) ∧ (1 ≤ b ∧ b ≤ 100) ∧ 1 ≤ c ∧ c ≤ 7 := by
  have hr := doy_month G.m1 G.m2 G.d1 G.d2 rfl rfl
  have h0 : J = gJ y 1 1 + doy y m d := by rw [G.eq]; unfold gJ; have : doy y 1 1 = 0 := by { unfold doy; simp }; omega
  have e11 : ∀ z, gJ z 1 1 = 1721425 + gY z := fun z => by unfold gJ doy; simp
  have hs1 := gYs y
  have hs0 := gYs (y - 1)
  rw [show y - 1 + 1 = y by omega] at hs0
  have q0 := e11 y
  have q1 := e11 (y + 1)
  have q2 := e11 (y - 1)
  obtain ⟨l1, hl1⟩ : ∃ l : Int, l = if leapB y = true then 1 else 0 := ⟨_, rfl⟩
  obtain ⟨l0, hl0⟩ : ∃ l : Int, l = if leapB (y - 1) = true then 1 else 0 := ⟨_, rfl⟩
  have b1 : 0 ≤ l1 ∧ l1 ≤ 1 := by rw [hl1]; split <;> omega
  have b0 : 0 ≤ l0 ∧ l0 ≤ 1 := by rw [hl0]; split <;> omega
  rw [← hl1] at hs1 hr
  rw [← hl0] at hs0
  have m0 : gJ y 1 1 - 3 ≤ mon1 y ∧ mon1 y ≤ gJ y 1 1 + 3 := by unfold mon1; split <;> omega
  have m1 : gJ (y + 1) 1 1 - 3 ≤ mon1 (y + 1) ∧ mon1 (y + 1) ≤ gJ (y + 1) 1 1 + 3 := by unfold mon1; split <;> omega
  have m2 : gJ (y - 1) 1 1 - 3 ≤ mon1 (y - 1) ∧ mon1 (y - 1) ≤ gJ (y - 1) 1 1 + 3 := by unfold mon1; split <;> omega
  have k0 : (mon1 y + 1) % 7 = 0 := by unfold mon1; split <;> omega
  have k1 : (mon1 (y + 1) + 1) % 7 = 0 := by unfold mon1; split <;> omega
  have k2 : (mon1 (y - 1) + 1) % 7 = 0 := by unfold mon1; split <;> omega
  have hy2 := G.y2
  obtain ⟨hr1, hr2, _⟩ := hr
  have hord : _datetime.toOrdinal y m d = J - 1721424 := by rw [ord_eq G.m1 G.m2, G.eq]
  unfold _datetime.isoCalendarOf
  simp only [hord, w1_eq, Int.fdiv_eq_ediv_of_nonneg _ (show (0 : Int) ≤ 7 by decide), Int.fmod_eq_emod_of_nonneg _ (show (0 : Int) ≤ 7 by decide)]
  have v0 := fun n d => w_eq y n d
  have v1 := fun n d => w_eq (y + 1) n d
  have v2 := fun n d => w_eq (y - 1) n d
  generalize mon1 y = M0 at *
  generalize mon1 (y + 1) = M1 at *
  generalize mon1 (y - 1) = M2 at *
  by_cases c1 : (J - 1721424 - (M0 - 1721424)) / 7 < 0
  · rw [if_pos c1]
    refine ⟨_, _, _, rfl, ?_, ?_, ?_, ?_⟩
    · rw [v2]; omega
    · omega
    · omega
    · omega
  · rw [if_neg c1]
    by_cases c2 : (decide ((J - 1721424 - (M0 - 1721424)) / 7 ≥ 52) && decide (J - 1721424 ≥ M1 - 1721424)) = true
    · rw [if_pos c2]
      simp only [Bool.and_eq_true, decide_eq_true_eq] at c2
      refine ⟨_, _, _, rfl, ?_, ?_, ?_, ?_⟩
      · rw [v1]; omega
      · omega
      · omega
      · omega
    · rw [if_neg c2]
      refine ⟨_, _, _, rfl, ?_, ?_, ?_, ?_⟩
      · rw [v0]; omega
      · omega
      · omega
      · omega
end
section
local macro_rules | `(tactic| k_room) => `(tactic| ktr_room)
local macro_rules | `(tactic| k_mem) => `(tactic| first | (refine List.mem_cons_of_mem _ ?_; assumption) | (refine List.mem_cons_of_mem _ (List.mem_cons_of_mem _ ?_); assumption) | (refine List.mem_cons_of_mem _ (List.mem_cons_of_mem _ (List.mem_cons_of_mem _ ?_)); assumption))
theorem drop2 {h₀ h : Heap} {L : Addr} {x y z : Addr × Obj} {ns : Led} (N : News h₀ L h (x :: y :: z :: ns)) : News h₀ L h ([x] ++ ns) := N.perm fun p hp => by
  rcases List.mem_cons.1 hp with e | e
  · exact e ▸ List.mem_cons_self
  · exact List.mem_cons_of_mem _ (List.mem_cons_of_mem _ (List.mem_cons_of_mem _ e))
theorem drop3 {h₀ h : Heap} {L : Addr} {x y z u : Addr × Obj} {ns : Led} (N : News h₀ L h (x :: y :: z :: u :: ns)) : News h₀ L h ([x] ++ ns) := N.perm fun p hp => by
  rcases List.mem_cons.1 hp with e | e
  · exact e ▸ List.mem_cons_self
  · exact List.mem_cons_of_mem _ (List.mem_cons_of_mem _ (List.mem_cons_of_mem _ (List.mem_cons_of_mem _ e)))
theorem drop4 {h₀ h : Heap} {L : Addr} {x y z u v : Addr × Obj} {ns : Led} (N : News h₀ L h (x :: y :: z :: u :: v :: ns)) : News h₀ L h ([x] ++ ns) := N.perm fun p hp => by
  rcases List.mem_cons.1 hp with e | e
  · exact e ▸ List.mem_cons_self
  · exact List.mem_cons_of_mem _ (List.mem_cons_of_mem _ (List.mem_cons_of_mem _ (List.mem_cons_of_mem _ (List.mem_cons_of_mem _ e))))
theorem news_again {h₀ h : Heap} {L a : Addr} {o : Obj} {news : Led} (hm : (a, o) ∈ news) (N : News h₀ L h news) : News h₀ L h ([(a, o)] ++ news) := fun p hp => by
  rcases List.mem_cons.1 hp with e | e
  · exact e ▸ N _ hm
  · exact N _ e
theorem con_fromjdjE (w : World) (J y m d W aa b c dd e : Int) (G : Jul J y m d W aa b c dd e) (A : Int) (hA : A = 2 * J + 1) (t : Tok) : Con w 152 2 16 [.float (H A) t] (fun _ => True) (fun new v => ∃ a t1 t2 t3, new = [(a, { cls := .type "tuple", data := .seq #[.int y t1, .int m t2, .int d t3] })] ∧ v = .ref a) := hA ▸ con_fromjdj w J y m d W aa b c dd e t G
local macro_rules | `(tactic| kxt_pos) => `(tactic| (k_here; (with_reducible show wpAny _ _ (call (Value.ref 152) [Value.float _ _]) _ _ _); k_dflt (refine' Con.use (con_fromjdjE _ _ _ _ _ _ _ _ _ _ _ (by assumption) _ (by first | rfl | assumption | omega) _) ?k1 ?k2 ?k3 ?k4 ?k5 ?kK ?kp ?kd ?ku ?k0 ?_; (case k1 => k_asm); (case k2 => k_asm); (case k3 => k_asm); (case k4 => k_asm); (case k5 => k_asm); (case kK => first | exact rfl | assumption); (case kp => trivial); (case kd => ktr_room); (case ku => ktr_units); (case k0 => (dsimp only; omega))); intro v9 h9 tk9 new9 le9 F9 N9 p9; (try dsimp only at le9); obtain ⟨a9, t9, u9, v9, e9, e8⟩ := p9; subst e9 e8; (try simp only [List.nil_append, List.cons_append] at N9); (try dsimp only); (try k_sweep); (try k_fold)))
theorem con_fromjdcE (w : World) (J y m d Y D2 : Int) (G : Cop J y m d Y D2) (A : Int) (hA : A = 2 * J + 1) (t : Tok) : Con w 313 2 16 [.float (H A) t] (fun _ => True) (fun new v => ∃ a t1 t2 t3, new = [(a, { cls := .type "tuple", data := .seq #[.int y t1, .int m t2, .int d t3] })] ∧ v = .ref a) := hA ▸ con_fromjdc w J y m d Y D2 t G
local macro_rules | `(tactic| kxt_pos) => `(tactic| (k_here; (with_reducible show wpAny _ _ (call (Value.ref 313) [Value.float _ _]) _ _ _); k_dflt (refine' Con.use (con_fromjdcE _ _ _ _ _ _ _ (by assumption) _ (by first | rfl | assumption | omega) _) ?k1 ?k2 ?k3 ?k4 ?k5 ?kK ?kp ?kd ?ku ?k0 ?_; (case k1 => k_asm); (case k2 => k_asm); (case k3 => k_asm); (case k4 => k_asm); (case k5 => k_asm); (case kK => first | exact rfl | assumption); (case kp => trivial); (case kd => ktr_room); (case ku => ktr_units); (case k0 => (dsimp only; omega))); intro v9 h9 tk9 new9 le9 F9 N9 p9; (try dsimp only at le9); obtain ⟨a9, t9, u9, v9, e9, e8⟩ := p9; subst e9 e8; (try simp only [List.nil_append, List.cons_append] at N9); (try dsimp only); (try k_sweep); (try k_fold)))
theorem con_fromjdiE (w : World) (J y m d : Int) (G : Isl J y m d) (A : Int) (hA : A = 2 * J + 1) (t : Tok) : Con w 369 2 16 [.float (H A) t] (fun _ => True) (fun new v => ∃ a t1 t2 t3, new = [(a, { cls := .type "tuple", data := .seq #[.int y t1, .int m t2, .int d t3] })] ∧ v = .ref a) := hA ▸ con_fromjdi w J y m d t G
local macro_rules | `(tactic| kxt_pos) => `(tactic| (k_here; (with_reducible show wpAny _ _ (call (Value.ref 369) [Value.float _ _]) _ _ _); k_dflt (refine' Con.use (con_fromjdiE _ _ _ _ _ (by assumption) _ (by first | rfl | assumption | omega) _) ?k1 ?k2 ?k3 ?k4 ?k5 ?kK ?kp ?kd ?ku ?k0 ?_; (case k1 => k_asm); (case k2 => k_asm); (case k3 => k_asm); (case k4 => k_asm); (case k5 => k_asm); (case kK => first | exact rfl | assumption); (case kp => trivial); (case kd => ktr_room); (case ku => ktr_units); (case k0 => (dsimp only; omega))); intro v9 h9 tk9 new9 le9 F9 N9 p9; (try dsimp only at le9); obtain ⟨a9, t9, u9, v9, e9, e8⟩ := p9; subst e9 e8; (try simp only [List.nil_append, List.cons_append] at N9); (try dsimp only); (try k_sweep); (try k_fold)))
theorem con_fromjdnE (w : World) (J gy gm gd r y m d : Int) (G : Ind J gy gm gd r y m d) (A : Int) (hA : A = 2 * J + 1) (t : Tok) : Con w 341 5 40 [.float (H A) t] (fun _ => True) (fun new v => ∃ a t1 t2 t3, new = [(a, { cls := .type "tuple", data := .seq #[.int y t1, .int m t2, .int d t3] })] ∧ v = .ref a) := fun p loose mean mg mb dp un gd' cn cs a' ccd cl outer A₀ base h₀ L ma news s Q E B F X N T hk hpre hdp hun htk0 hret => by
  subst hA
  exact con_fromjdn w J gy gm gd r y m d t G p loose mean mg mb dp un gd' cn cs a' ccd cl outer A₀ base h₀ L ma news s Q E B F X N T hk hpre hdp hun htk0 fun v h' tk' new F' N' q => by
    obtain ⟨a9, t9, u9, v9, y9, m9, d9, ⟨e9, e8⟩, e7, e6, e5⟩ := q
    subst e7 e6 e5
    exact hret v h' tk' new F' N' ⟨a9, t9, u9, v9, e9, e8⟩
local macro_rules | `(tactic| kxt_pos) => `(tactic| (k_here; (with_reducible show wpAny _ _ (call (Value.ref 341) [Value.float _ _]) _ _ _); k_dflt (refine' Con.use (con_fromjdnE _ _ _ _ _ _ _ _ _ (by assumption) _ (by first | rfl | assumption | omega) _) ?k1 ?k2 ?k3 ?k4 ?k5 ?kK ?kp ?kd ?ku ?k0 ?_; (case k1 => k_asm); (case k2 => k_asm); (case k3 => k_asm); (case k4 => k_asm); (case k5 => k_asm); (case kK => first | exact rfl | assumption); (case kp => trivial); (case kd => ktr_room); (case ku => ktr_units); (case k0 => (dsimp only; omega))); intro v9 h9 tk9 new9 le9 F9 N9 p9; (try dsimp only at le9); obtain ⟨a9, t9, u9, v9, e9, e8⟩ := p9; subst e9 e8; (try simp only [List.nil_append, List.cons_append] at N9); (try dsimp only); (try k_sweep); (try k_fold)))
theorem con_fromjdpE (w : World) (J y m d E0 E1 E2 E3 ca c n yi y1 R : Int) (G : Pos J y m d E0 E1 E2 E3 ca c n yi y1 R) (A : Int) (hA : A = 2 * J + 1) (t : Tok) : Con w 516 2 16 [.float (H A) t] (fun _ => True) (fun new v => ∃ a t1 t2 t3, new = [(a, { cls := .type "tuple", data := .seq #[.int y t1, .int m t2, .int d t3] })] ∧ v = .ref a) := hA ▸ con_fromjdp w J y m d E0 E1 E2 E3 ca c n yi y1 R t G
local macro_rules | `(tactic| kxt_pos) => `(tactic| (k_here; (with_reducible show wpAny _ _ (call (Value.ref 516) [Value.float _ _]) _ _ _); k_dflt (refine' Con.use (con_fromjdpE _ _ _ _ _ _ _ _ _ _ _ _ _ _ _ (by assumption) _ (by first | rfl | assumption | omega) _) ?k1 ?k2 ?k3 ?k4 ?k5 ?kK ?kp ?kd ?ku ?k0 ?_; (case k1 => k_asm); (case k2 => k_asm); (case k3 => k_asm); (case k4 => k_asm); (case k5 => k_asm); (case kK => first | exact rfl | assumption); (case kp => trivial); (case kd => ktr_room); (case ku => ktr_units); (case k0 => (dsimp only; omega))); intro v9 h9 tk9 new9 le9 F9 N9 p9; (try dsimp only at le9); obtain ⟨a9, t9, u9, v9, e9, e8⟩ := p9; subst e9 e8; (try simp only [List.nil_append, List.cons_append] at N9); (try dsimp only); (try k_sweep); (try k_fold)))
theorem con_fromjdmE (w : World) (J b k tt u n D0 D1 D2 D3 D4 : Int) (G : May J b k tt u n D0 D1 D2 D3 D4) (A : Int) (hA : A = 2 * J + 1) (t : Tok) : Con w 453 2 16 [.float (H A) t] (fun _ => True) (fun new v => ∃ a t1 t2 t3 t4 t5, new = [(a, { cls := .type "tuple", data := .seq #[.int b t1, .int k t2, .int tt t3, .int u t4, .int n t5] })] ∧ v = .ref a) := hA ▸ con_fromjdm w J b k tt u n D0 D1 D2 D3 D4 t G
local macro_rules | `(tactic| kxt_pos) => `(tactic| (k_here; (with_reducible show wpAny _ _ (call (Value.ref 453) [Value.float _ _]) _ _ _); k_dflt (refine' Con.use (con_fromjdmE _ _ _ _ _ _ _ _ _ _ _ _ (by assumption) _ (by first | rfl | assumption | omega) _) ?k1 ?k2 ?k3 ?k4 ?k5 ?kK ?kp ?kd ?ku ?k0 ?_; (case k1 => k_asm); (case k2 => k_asm); (case k3 => k_asm); (case k4 => k_asm); (case k5 => k_asm); (case kK => first | exact rfl | assumption); (case kp => trivial); (case kd => ktr_room); (case ku => ktr_units); (case k0 => (dsimp only; omega))); intro v9 h9 tk9 new9 le9 F9 N9 p9; (try dsimp only at le9); obtain ⟨a9, t9, u9, v9, w9, x9, e9, e8⟩ := p9; subst e9 e8; (try simp only [List.nil_append, List.cons_append] at N9); (try dsimp only); (try k_sweep); (try k_fold)))
theorem con_fromjdaE (w : World) (J y m d D y0 m0 D2 : Int) (G : Arm J y m d D y0 m0 D2) (A : Int) (hA : A = 2 * J + 1) (t : Tok) : Con w 267 2 16 [.float (H A) t, .none] (fun _ => True) (fun new v => ∃ a t1 t2 t3, new = [(a, { cls := .type "tuple", data := .seq #[.int y t1, .int m t2, .int d t3] })] ∧ v = .ref a) := hA ▸ con_fromjda w J y m d D y0 m0 D2 t G
local macro_rules | `(tactic| kxt_pos) => `(tactic| (k_here; (with_reducible show wpAny _ _ (call (Value.ref 267) [Value.float _ _, Value.none]) _ _ _); k_dflt (refine' Con.use (con_fromjdaE _ _ _ _ _ _ _ _ _ (by assumption) _ (by first | rfl | assumption | omega) _) ?k1 ?k2 ?k3 ?k4 ?k5 ?kK ?kp ?kd ?ku ?k0 ?_; (case k1 => k_asm); (case k2 => k_asm); (case k3 => k_asm); (case k4 => k_asm); (case k5 => k_asm); (case kK => first | exact rfl | assumption); (case kp => trivial); (case kd => ktr_room); (case ku => ktr_units); (case k0 => (dsimp only; omega))); intro v9 h9 tk9 new9 le9 F9 N9 p9; (try dsimp only at le9); obtain ⟨a9, t9, u9, v9, e9, e8⟩ := p9; subst e9 e8; (try simp only [List.nil_append, List.cons_append] at N9); (try dsimp only); (try k_sweep); (try k_fold)))
theorem con_fromjda1E (w : World) (J y m d D y0 m0 D2 : Int) (G : Arm J y m d D y0 m0 D2) (A : Int) (hA : A = 2 * J + 1) (t : Tok) : Con w 267 2 16 [.float (H A) t] (fun _ => True) (fun new v => ∃ a t1 t2 t3, new = [(a, { cls := .type "tuple", data := .seq #[.int y t1, .int m t2, .int d t3] })] ∧ v = .ref a) := hA ▸ con_fromjda1 w J y m d D y0 m0 D2 t G
local macro_rules | `(tactic| kxt_pos) => `(tactic| (k_here; (with_reducible show wpAny _ _ (call (Value.ref 267) [Value.float _ _]) _ _ _); k_dflt (refine' Con.use (con_fromjda1E _ _ _ _ _ _ _ _ _ (by assumption) _ (by first | rfl | assumption | omega) _) ?k1 ?k2 ?k3 ?k4 ?k5 ?kK ?kp ?kd ?ku ?k0 ?_; (case k1 => k_asm); (case k2 => k_asm); (case k3 => k_asm); (case k4 => k_asm); (case k5 => k_asm); (case kK => first | exact rfl | assumption); (case kp => trivial); (case kd => ktr_room); (case ku => ktr_units); (case k0 => (dsimp only; omega))); intro v9 h9 tk9 new9 le9 F9 N9 p9; (try dsimp only at le9); obtain ⟨a9, t9, u9, v9, e9, e8⟩ := p9; subst e9 e8; (try simp only [List.nil_append, List.cons_append] at N9); (try dsimp only); (try k_sweep); (try k_fold)))
theorem con_fromjdsE (w : World) (J y m d D y0 R m0 D2 yd : Int) (G : Sar J y m d D y0 R m0 D2 yd) (A : Int) (hA : A = 2 * J + 1) (t : Tok) (tk : Tok) : Con w 267 2 16 [.float (H A) t, .str (Str.ofString "sarkawag") tk] (fun _ => True) (fun new v => ∃ a t1 t2 t3, new = [(a, { cls := .type "tuple", data := .seq #[.int y t1, .int m t2, .int d t3] })] ∧ v = .ref a) := hA ▸ con_fromjds w J y m d D y0 R m0 D2 yd t tk G
local macro_rules | `(tactic| kxt_pos) => `(tactic| (k_here; (with_reducible show wpAny _ _ (call (Value.ref 267) [Value.float _ _, Value.str _ _]) _ _ _); k_dflt (refine' Con.use (con_fromjdsE _ _ _ _ _ _ _ _ _ _ _ (by assumption) _ (by first | rfl | assumption | omega) _ _) ?k1 ?k2 ?k3 ?k4 ?k5 ?kK ?kp ?kd ?ku ?k0 ?_; (case k1 => k_asm); (case k2 => k_asm); (case k3 => k_asm); (case k4 => k_asm); (case k5 => k_asm); (case kK => first | exact rfl | assumption); (case kp => trivial); (case kd => ktr_room); (case ku => ktr_units); (case k0 => (dsimp only; omega))); intro v9 h9 tk9 new9 le9 F9 N9 p9; (try dsimp only at le9); obtain ⟨a9, t9, u9, v9, e9, e8⟩ := p9; subst e9 e8; (try simp only [List.nil_append, List.cons_append] at N9); (try dsimp only); (try k_sweep); (try k_fold)))
theorem con_fromjdoE (w : World) (J y m d : Int) (G : Greg J y m d) (A : Int) (hA : A = 2 * J + 1) (t : Tok) : Con w 481 6 48 [.float (H A) t] (fun _ => True) (fun new v => ∃ a t1 t2, new = [(a, { cls := .type "tuple", data := .seq #[.int y t1, .int (doy y m d + 1) t2] })] ∧ v = .ref a) := hA ▸ con_fromjdo w J y m d t G
local macro_rules | `(tactic| kxt_pos) => `(tactic| (k_here; (with_reducible show wpAny _ _ (call (Value.ref 481) [Value.float _ _]) _ _ _); k_dflt (refine' Con.use (con_fromjdoE _ _ _ _ _ (by assumption) _ (by first | rfl | assumption | omega) _) ?k1 ?k2 ?k3 ?k4 ?k5 ?kK ?kp ?kd ?ku ?k0 ?_; (case k1 => k_asm); (case k2 => k_asm); (case k3 => k_asm); (case k4 => k_asm); (case k5 => k_asm); (case kK => first | exact rfl | assumption); (case kp => trivial); (case kd => ktr_room); (case ku => ktr_units); (case k0 => (dsimp only; omega))); intro v9 h9 tk9 new9 le9 F9 N9 p9; (try dsimp only at le9); obtain ⟨a9, t9, u9, e9, e8⟩ := p9; subst e9 e8; (try simp only [List.nil_append, List.cons_append] at N9); (try dsimp only); (try k_sweep); (try k_fold)))
theorem con_fromjdwE (w : World) (J y m d : Int) (G : Greg J y m d) (hy9 : y ≤ 9999) (A : Int) (hA : A = 2 * J + 1) (t : Tok) : Con w 397 5 48 [.float (H A) t] (fun _ => True) (fun new v => ∃ a tk, new = [(a, isoObj (Builtin._datetime.isoCalendarOf y m d) tk)] ∧ v = .ref a) := hA ▸ con_fromjdw w J y m d t G hy9
local macro_rules | `(tactic| kxt_pos) => `(tactic| (k_here; (with_reducible show wpAny _ _ (call (Value.ref 397) [Value.float _ _]) _ _ _); k_dflt (refine' Con.use (con_fromjdwE _ _ _ _ _ (by assumption) (by assumption) _ (by first | rfl | assumption | omega) _) ?k1 ?k2 ?k3 ?k4 ?k5 ?kK ?kp ?kd ?ku ?k0 ?_; (case k1 => k_asm); (case k2 => k_asm); (case k3 => k_asm); (case k4 => k_asm); (case k5 => k_asm); (case kK => first | exact rfl | assumption); (case kp => trivial); (case kd => ktr_room); (case ku => ktr_units); (case k0 => (dsimp only; omega))); intro v9 h9 tk9 new9 le9 F9 N9 p9; (try dsimp only at le9); obtain ⟨a9, t9, e9, e8⟩ := p9; subst e9 e8; (try simp only [List.nil_append, List.cons_append] at N9); (try dsimp only); (try k_sweep); (try k_fold)))
end
section
local macro_rules | `(tactic| k_room) => `(tactic| ktr_room)
local macro_rules | `(tactic| k_mem) => `(tactic| first | (refine List.mem_cons_of_mem _ ?_; assumption) | (refine List.mem_cons_of_mem _ (List.mem_cons_of_mem _ ?_); assumption) | (refine List.mem_cons_of_mem _ (List.mem_cons_of_mem _ (List.mem_cons_of_mem _ ?_)); assumption))
theorem con_num0 (w : World) (J ep : Int) (t1 : Tok) (a : Addr) (t u : Tok) : Con w 537 8 64 [.int 0 t, .ref a, .int ep u] (fun ns => (a, { cls := .type "tuple", data := .seq #[.float (H (2 * J + 1)) t1] }) ∈ ns ∧ t1 ≠ 0) (fun new v => new = [] ∧ ∃ tk, tk ≠ 0 ∧ v = .float (H (2 * J + 1)) tk) := Apart.get (by simp (disch := k_dflt (
  unfold Con
  k_fill
  intro p loose mean mg mb dp un gd cn cs a' ccd cl outer A₀ base h₀ L ma news s Q E B F X N T hk hpre hdp hun htk0 hret
  obtain ⟨hin, ht1⟩ := hpre
  (refine wpAny_call ?_; refine' code_def (binds := [(Str.ofString "way", Value.int 0 t), (Str.ofString "date_v", Value.ref a), (Str.ofString "epoch", Value.int ep u)]) B F X N T rfl rfl hk ?k6 ?k7 ?k8 ?k9 ?kB ?_ ?c2 ?c3 ?c4 ?c5; (case k6 => k_is); (case k7 => k_is); (case k8 => ktr_room); (case k9 => first | exact BindsTo.of_eq rfl | exact binds_K (by k_in) rfl (by k_is) rfl rfl rfl); (case kB => exact locs rfl); (case c2 => exact rfl); (case c3 => exact rfl); (case c4 => exact rfl); (case c5 => decide); intro g' L' h' FG' F' N' B' X' T'; dsimp only; k_fold)
  k_steps
  all_goals (refine hret _ _ _ [] (by k_asm) (by k_asm) ⟨rfl, _, by assumption, rfl⟩)
  )) only [↓apart])
theorem drop02 {h₀ h : Heap} {L : Addr} {x y : Addr × Obj} {ns : Led} (N : News h₀ L h (x :: y :: ns)) : News h₀ L h ([] ++ ns) := N.perm fun p hp => List.mem_cons_of_mem _ (List.mem_cons_of_mem _ hp)
theorem con_num12 (w : World) (J ep : Int) (t1 : Tok) (a : Addr) (t u : Tok) (hb : (0 ≤ J ∧ J < 10000000) ∧ -100000000 < ep ∧ ep < 100000000) : Con w 537 8 64 [.int 12 t, .ref a, .int ep u] (fun ns => (a, { cls := .type "tuple", data := .seq #[.float (H (2 * J + 1 - 2 * ep)) t1] }) ∈ ns) (fun new v => new = [] ∧ ∃ tk, tk ≠ 0 ∧ v = .float (H (2 * J + 1)) tk) := Apart.get (by simp (disch := k_dflt (
  unfold Con
  k_fill
  intro p loose mean mg mb dp un gd cn cs a' ccd cl outer A₀ base h₀ L ma news s Q E B F X N T hk hpre hdp hun htk0 hret
  obtain ⟨hb1, hb2⟩ := hb
  (refine wpAny_call ?_; refine' code_def (binds := [(Str.ofString "way", Value.int 12 t), (Str.ofString "date_v", Value.ref a), (Str.ofString "epoch", Value.int ep u)]) B F X N T rfl rfl hk ?k6 ?k7 ?k8 ?k9 ?kB ?_ ?c2 ?c3 ?c4 ?c5; (case k6 => k_is); (case k7 => k_is); (case k8 => ktr_room); (case k9 => first | exact BindsTo.of_eq rfl | exact binds_K (by k_in) rfl (by k_is) rfl rfl rfl); (case kB => exact locs rfl); (case c2 => exact rfl); (case c3 => exact rfl); (case c4 => exact rfl); (case c5 => decide); intro g' L' h' FG' F' N' B' X' T'; dsimp only; k_fold)
  k_steps
  all_goals (refine hret _ _ _ [] (by k_asm) (by first | k_asm | exact drop02 (by k_asm)) ⟨rfl, _, Nat.succ_ne_zero _, fl_eq ?_⟩; omega)
  )) only [↓apart])
end
section
local macro_rules | `(tactic| kxt_pos) => `(tactic| (k_here; (with_reducible show wpAny _ _ (call (Value.ref 123) [Value.float _ _]) _ _ _); k_dflt (refine' Con.use (con_fromjd' _ _ _ _ _ (by assumption) _ (by first | rfl | assumption | omega) _) ?k1 ?k2 ?k3 ?k4 ?k5 ?kK ?kp ?kd ?ku ?k0 ?_; (case k1 => k_asm); (case k2 => k_asm); (case k3 => k_asm); (case k4 => k_asm); (case k5 => k_asm); (case kK => first | exact rfl | assumption); (case kp => trivial); (case kd => ktr_room); (case ku => ktr_units); (case k0 => (dsimp only; omega))); intro v9 h9 tk9 new9 le9 F9 N9 p9; (try dsimp only at le9); obtain ⟨a9, t9, u9, v9, e9, e8⟩ := p9; subst e9 e8; (try simp only [List.nil_append, List.cons_append] at N9); (try dsimp only); (try k_sweep); (try k_fold)))
local macro_rules | `(tactic| k_room) => `(tactic| ktr_room)
local macro_rules | `(tactic| k_mem) => `(tactic| first | (refine List.mem_cons_of_mem _ ?_; assumption) | (refine List.mem_cons_of_mem _ (List.mem_cons_of_mem _ ?_); assumption) | (refine List.mem_cons_of_mem _ (List.mem_cons_of_mem _ (List.mem_cons_of_mem _ ?_)); assumption))
local macro_rules | `(tactic| kxt_pos) => `(tactic| (k_here; (with_reducible show wpAny _ _ (call (Value.ref 152) [Value.float _ _]) _ _ _); k_dflt (refine' Con.use (con_fromjdjE _ _ _ _ _ _ _ _ _ _ _ (by assumption) _ (by first | rfl | assumption | omega) _) ?k1 ?k2 ?k3 ?k4 ?k5 ?kK ?kp ?kd ?ku ?k0 ?_; (case k1 => k_asm); (case k2 => k_asm); (case k3 => k_asm); (case k4 => k_asm); (case k5 => k_asm); (case kK => first | exact rfl | assumption); (case kp => trivial); (case kd => ktr_room); (case ku => ktr_units); (case k0 => (dsimp only; omega))); intro v9 h9 tk9 new9 le9 F9 N9 p9; (try dsimp only at le9); obtain ⟨a9, t9, u9, v9, e9, e8⟩ := p9; subst e9 e8; (try simp only [List.nil_append, List.cons_append] at N9); (try dsimp only); (try k_sweep); (try k_fold)))
local macro_rules | `(tactic| kxt_pos) => `(tactic| (k_here; (with_reducible show wpAny _ _ (call (Value.ref 313) [Value.float _ _]) _ _ _); k_dflt (refine' Con.use (con_fromjdcE _ _ _ _ _ _ _ (by assumption) _ (by first | rfl | assumption | omega) _) ?k1 ?k2 ?k3 ?k4 ?k5 ?kK ?kp ?kd ?ku ?k0 ?_; (case k1 => k_asm); (case k2 => k_asm); (case k3 => k_asm); (case k4 => k_asm); (case k5 => k_asm); (case kK => first | exact rfl | assumption); (case kp => trivial); (case kd => ktr_room); (case ku => ktr_units); (case k0 => (dsimp only; omega))); intro v9 h9 tk9 new9 le9 F9 N9 p9; (try dsimp only at le9); obtain ⟨a9, t9, u9, v9, e9, e8⟩ := p9; subst e9 e8; (try simp only [List.nil_append, List.cons_append] at N9); (try dsimp only); (try k_sweep); (try k_fold)))
local macro_rules | `(tactic| kxt_pos) => `(tactic| (k_here; (with_reducible show wpAny _ _ (call (Value.ref 369) [Value.float _ _]) _ _ _); k_dflt (refine' Con.use (con_fromjdiE _ _ _ _ _ (by assumption) _ (by first | rfl | assumption | omega) _) ?k1 ?k2 ?k3 ?k4 ?k5 ?kK ?kp ?kd ?ku ?k0 ?_; (case k1 => k_asm); (case k2 => k_asm); (case k3 => k_asm); (case k4 => k_asm); (case k5 => k_asm); (case kK => first | exact rfl | assumption); (case kp => trivial); (case kd => ktr_room); (case ku => ktr_units); (case k0 => (dsimp only; omega))); intro v9 h9 tk9 new9 le9 F9 N9 p9; (try dsimp only at le9); obtain ⟨a9, t9, u9, v9, e9, e8⟩ := p9; subst e9 e8; (try simp only [List.nil_append, List.cons_append] at N9); (try dsimp only); (try k_sweep); (try k_fold)))
local macro_rules | `(tactic| kxt_pos) => `(tactic| (k_here; (with_reducible show wpAny _ _ (call (Value.ref 341) [Value.float _ _]) _ _ _); k_dflt (refine' Con.use (con_fromjdnE _ _ _ _ _ _ _ _ _ (by assumption) _ (by first | rfl | assumption | omega) _) ?k1 ?k2 ?k3 ?k4 ?k5 ?kK ?kp ?kd ?ku ?k0 ?_; (case k1 => k_asm); (case k2 => k_asm); (case k3 => k_asm); (case k4 => k_asm); (case k5 => k_asm); (case kK => first | exact rfl | assumption); (case kp => trivial); (case kd => ktr_room); (case ku => ktr_units); (case k0 => (dsimp only; omega))); intro v9 h9 tk9 new9 le9 F9 N9 p9; (try dsimp only at le9); obtain ⟨a9, t9, u9, v9, e9, e8⟩ := p9; subst e9 e8; (try simp only [List.nil_append, List.cons_append] at N9); (try dsimp only); (try k_sweep); (try k_fold)))
local macro_rules | `(tactic| kxt_pos) => `(tactic| (k_here; (with_reducible show wpAny _ _ (call (Value.ref 516) [Value.float _ _]) _ _ _); k_dflt (refine' Con.use (con_fromjdpE _ _ _ _ _ _ _ _ _ _ _ _ _ _ _ (by assumption) _ (by first | rfl | assumption | omega) _) ?k1 ?k2 ?k3 ?k4 ?k5 ?kK ?kp ?kd ?ku ?k0 ?_; (case k1 => k_asm); (case k2 => k_asm); (case k3 => k_asm); (case k4 => k_asm); (case k5 => k_asm); (case kK => first | exact rfl | assumption); (case kp => trivial); (case kd => ktr_room); (case ku => ktr_units); (case k0 => (dsimp only; omega))); intro v9 h9 tk9 new9 le9 F9 N9 p9; (try dsimp only at le9); obtain ⟨a9, t9, u9, v9, e9, e8⟩ := p9; subst e9 e8; (try simp only [List.nil_append, List.cons_append] at N9); (try dsimp only); (try k_sweep); (try k_fold)))
local macro_rules | `(tactic| kxt_pos) => `(tactic| (k_here; (with_reducible show wpAny _ _ (call (Value.ref 453) [Value.float _ _]) _ _ _); k_dflt (refine' Con.use (con_fromjdmE _ _ _ _ _ _ _ _ _ _ _ _ (by assumption) _ (by first | rfl | assumption | omega) _) ?k1 ?k2 ?k3 ?k4 ?k5 ?kK ?kp ?kd ?ku ?k0 ?_; (case k1 => k_asm); (case k2 => k_asm); (case k3 => k_asm); (case k4 => k_asm); (case k5 => k_asm); (case kK => first | exact rfl | assumption); (case kp => trivial); (case kd => ktr_room); (case ku => ktr_units); (case k0 => (dsimp only; omega))); intro v9 h9 tk9 new9 le9 F9 N9 p9; (try dsimp only at le9); obtain ⟨a9, t9, u9, v9, w9, x9, e9, e8⟩ := p9; subst e9 e8; (try simp only [List.nil_append, List.cons_append] at N9); (try dsimp only); (try k_sweep); (try k_fold)))
local macro_rules | `(tactic| kxt_pos) => `(tactic| (k_here; (with_reducible show wpAny _ _ (call (Value.ref 267) [Value.float _ _, Value.none]) _ _ _); k_dflt (refine' Con.use (con_fromjdaE _ _ _ _ _ _ _ _ _ (by assumption) _ (by first | rfl | assumption | omega) _) ?k1 ?k2 ?k3 ?k4 ?k5 ?kK ?kp ?kd ?ku ?k0 ?_; (case k1 => k_asm); (case k2 => k_asm); (case k3 => k_asm); (case k4 => k_asm); (case k5 => k_asm); (case kK => first | exact rfl | assumption); (case kp => trivial); (case kd => ktr_room); (case ku => ktr_units); (case k0 => (dsimp only; omega))); intro v9 h9 tk9 new9 le9 F9 N9 p9; (try dsimp only at le9); obtain ⟨a9, t9, u9, v9, e9, e8⟩ := p9; subst e9 e8; (try simp only [List.nil_append, List.cons_append] at N9); (try dsimp only); (try k_sweep); (try k_fold)))
local macro_rules | `(tactic| kxt_pos) => `(tactic| (k_here; (with_reducible show wpAny _ _ (call (Value.ref 267) [Value.float _ _]) _ _ _); k_dflt (refine' Con.use (con_fromjda1E _ _ _ _ _ _ _ _ _ (by assumption) _ (by first | rfl | assumption | omega) _) ?k1 ?k2 ?k3 ?k4 ?k5 ?kK ?kp ?kd ?ku ?k0 ?_; (case k1 => k_asm); (case k2 => k_asm); (case k3 => k_asm); (case k4 => k_asm); (case k5 => k_asm); (case kK => first | exact rfl | assumption); (case kp => trivial); (case kd => ktr_room); (case ku => ktr_units); (case k0 => (dsimp only; omega))); intro v9 h9 tk9 new9 le9 F9 N9 p9; (try dsimp only at le9); obtain ⟨a9, t9, u9, v9, e9, e8⟩ := p9; subst e9 e8; (try simp only [List.nil_append, List.cons_append] at N9); (try dsimp only); (try k_sweep); (try k_fold)))
local macro_rules | `(tactic| kxt_pos) => `(tactic| (k_here; (with_reducible show wpAny _ _ (call (Value.ref 267) [Value.float _ _, Value.str _ _]) _ _ _); k_dflt (refine' Con.use (con_fromjdsE _ _ _ _ _ _ _ _ _ _ _ (by assumption) _ (by first | rfl | assumption | omega) _ _) ?k1 ?k2 ?k3 ?k4 ?k5 ?kK ?kp ?kd ?ku ?k0 ?_; (case k1 => k_asm); (case k2 => k_asm); (case k3 => k_asm); (case k4 => k_asm); (case k5 => k_asm); (case kK => first | exact rfl | assumption); (case kp => trivial); (case kd => ktr_room); (case ku => ktr_units); (case k0 => (dsimp only; omega))); intro v9 h9 tk9 new9 le9 F9 N9 p9; (try dsimp only at le9); obtain ⟨a9, t9, u9, v9, e9, e8⟩ := p9; subst e9 e8; (try simp only [List.nil_append, List.cons_append] at N9); (try dsimp only); (try k_sweep); (try k_fold)))
local macro_rules | `(tactic| kxt_pos) => `(tactic| (k_here; (with_reducible show wpAny _ _ (call (Value.ref 481) [Value.float _ _]) _ _ _); k_dflt (refine' Con.use (con_fromjdoE _ _ _ _ _ (by assumption) _ (by first | rfl | assumption | omega) _) ?k1 ?k2 ?k3 ?k4 ?k5 ?kK ?kp ?kd ?ku ?k0 ?_; (case k1 => k_asm); (case k2 => k_asm); (case k3 => k_asm); (case k4 => k_asm); (case k5 => k_asm); (case kK => first | exact rfl | assumption); (case kp => trivial); (case kd => ktr_room); (case ku => ktr_units); (case k0 => (dsimp only; omega))); intro v9 h9 tk9 new9 le9 F9 N9 p9; (try dsimp only at le9); obtain ⟨a9, t9, u9, e9, e8⟩ := p9; subst e9 e8; (try simp only [List.nil_append, List.cons_append] at N9); (try dsimp only); (try k_sweep); (try k_fold)))
local macro_rules | `(tactic| kxt_pos) => `(tactic| (k_here; (with_reducible show wpAny _ _ (call (Value.ref 397) [Value.float _ _]) _ _ _); k_dflt (refine' Con.use (con_fromjdwE _ _ _ _ _ (by assumption) (by assumption) _ (by first | rfl | assumption | omega) _) ?k1 ?k2 ?k3 ?k4 ?k5 ?kK ?kp ?kd ?ku ?k0 ?_; (case k1 => k_asm); (case k2 => k_asm); (case k3 => k_asm); (case k4 => k_asm); (case k5 => k_asm); (case kK => first | exact rfl | assumption); (case kp => trivial); (case kd => ktr_room); (case ku => ktr_units); (case k0 => (dsimp only; omega))); intro v9 h9 tk9 new9 le9 F9 N9 p9; (try dsimp only at le9); obtain ⟨a9, t9, e9, e8⟩ := p9; subst e9 e8; (try simp only [List.nil_append, List.cons_append] at N9); (try dsimp only); (try k_sweep); (try k_fold)))
theorem con_dat1 (w : World) (J y m d ep : Int) (t x z : Tok) (G : Greg J y m d) : Con w 544 8 64 [.int 1 t, .float (H (2 * J + 1)) x, .int ep z] (fun _ => True) (fun new v => ∃ a t1 t2 t3, new = [(a, { cls := .type "tuple", data := .seq #[.int y t1, .int m t2, .int d t3] })] ∧ v = .ref a) := Apart.get (by simp (disch := k_dflt (
  unfold Con
  k_fill
  intro p loose mean mg mb dp un gd' cn cs a' ccd cl outer A₀ base h₀ L ma news s Q E B F X N T hk hpre hdp hun htk0 hret
  (refine wpAny_call ?_; refine' code_def (binds := [(Str.ofString "way", Value.int 1 t), (Str.ofString "number", Value.float (H (2 * J + 1)) x), (Str.ofString "epoch", Value.int ep z)]) B F X N T rfl rfl hk ?k6 ?k7 ?k8 ?k9 ?kB ?_ ?c2 ?c3 ?c4 ?c5; (case k6 => k_is); (case k7 => k_is); (case k8 => ktr_room); (case k9 => first | exact BindsTo.of_eq rfl | exact binds_K (by k_in) rfl (by k_is) rfl rfl rfl); (case kB => exact locs rfl); (case c2 => exact rfl); (case c3 => exact rfl); (case c4 => exact rfl); (case c5 => decide); intro g' L' h' FG' F' N' B' X' T'; dsimp only; k_fold)
  k_steps
  all_goals (refine hret _ _ _ [_] (by k_asm) (by first | k_asm | exact drop1 (by k_asm) | exact drop2 (by k_asm) | exact drop3 (by k_asm)) ⟨_, _, _, _, rfl, rfl⟩)
  )) only [↓apart])
theorem con_dat2 (w : World) (J y m d W aa b c dd e ep : Int) (t x z : Tok) (G : Jul J y m d W aa b c dd e) : Con w 544 8 64 [.int 2 t, .float (H (2 * J + 1)) x, .int ep z] (fun _ => True) (fun new v => ∃ a t1 t2 t3, new = [(a, { cls := .type "tuple", data := .seq #[.int y t1, .int m t2, .int d t3] })] ∧ v = .ref a) := Apart.get (by simp (disch := k_dflt (
  unfold Con
  k_fill
  intro p loose mean mg mb dp un gd' cn cs a' ccd cl outer A₀ base h₀ L ma news s Q E B F X N T hk hpre hdp hun htk0 hret
  (refine wpAny_call ?_; refine' code_def (binds := [(Str.ofString "way", Value.int 2 t), (Str.ofString "number", Value.float (H (2 * J + 1)) x), (Str.ofString "epoch", Value.int ep z)]) B F X N T rfl rfl hk ?k6 ?k7 ?k8 ?k9 ?kB ?_ ?c2 ?c3 ?c4 ?c5; (case k6 => k_is); (case k7 => k_is); (case k8 => ktr_room); (case k9 => first | exact BindsTo.of_eq rfl | exact binds_K (by k_in) rfl (by k_is) rfl rfl rfl); (case kB => exact locs rfl); (case c2 => exact rfl); (case c3 => exact rfl); (case c4 => exact rfl); (case c5 => decide); intro g' L' h' FG' F' N' B' X' T'; dsimp only; k_fold)
  k_steps
  all_goals (refine hret _ _ _ [_] (by k_asm) (by first | k_asm | exact drop1 (by k_asm) | exact drop2 (by k_asm) | exact drop3 (by k_asm)) ⟨_, _, _, _, rfl, rfl⟩)
  )) only [↓apart])
theorem con_dat3 (w : World) (J y m d ep : Int) (t x z : Tok) (G : Isl J y m d) : Con w 544 8 64 [.int 3 t, .float (H (2 * J + 1)) x, .int ep z] (fun _ => True) (fun new v => ∃ a t1 t2 t3, new = [(a, { cls := .type "tuple", data := .seq #[.int y t1, .int m t2, .int d t3] })] ∧ v = .ref a) := Apart.get (by simp (disch := k_dflt (
  unfold Con
  k_fill
  intro p loose mean mg mb dp un gd' cn cs a' ccd cl outer A₀ base h₀ L ma news s Q E B F X N T hk hpre hdp hun htk0 hret
  (refine wpAny_call ?_; refine' code_def (binds := [(Str.ofString "way", Value.int 3 t), (Str.ofString "number", Value.float (H (2 * J + 1)) x), (Str.ofString "epoch", Value.int ep z)]) B F X N T rfl rfl hk ?k6 ?k7 ?k8 ?k9 ?kB ?_ ?c2 ?c3 ?c4 ?c5; (case k6 => k_is); (case k7 => k_is); (case k8 => ktr_room); (case k9 => first | exact BindsTo.of_eq rfl | exact binds_K (by k_in) rfl (by k_is) rfl rfl rfl); (case kB => exact locs rfl); (case c2 => exact rfl); (case c3 => exact rfl); (case c4 => exact rfl); (case c5 => decide); intro g' L' h' FG' F' N' B' X' T'; dsimp only; k_fold)
  k_steps
  all_goals (refine hret _ _ _ [_] (by k_asm) (by first | k_asm | exact drop1 (by k_asm) | exact drop2 (by k_asm) | exact drop3 (by k_asm)) ⟨_, _, _, _, rfl, rfl⟩)
  )) only [↓apart])
theorem con_dat4 (w : World) (J y m d Y D2 ep : Int) (t x z : Tok) (G : Cop J y m d Y D2) : Con w 544 8 64 [.int 4 t, .float (H (2 * J + 1)) x, .int ep z] (fun _ => True) (fun new v => ∃ a t1 t2 t3, new = [(a, { cls := .type "tuple", data := .seq #[.int y t1, .int m t2, .int d t3] })] ∧ v = .ref a) := Apart.get (by simp (disch := k_dflt (
  unfold Con
  k_fill
  intro p loose mean mg mb dp un gd' cn cs a' ccd cl outer A₀ base h₀ L ma news s Q E B F X N T hk hpre hdp hun htk0 hret
  (refine wpAny_call ?_; refine' code_def (binds := [(Str.ofString "way", Value.int 4 t), (Str.ofString "number", Value.float (H (2 * J + 1)) x), (Str.ofString "epoch", Value.int ep z)]) B F X N T rfl rfl hk ?k6 ?k7 ?k8 ?k9 ?kB ?_ ?c2 ?c3 ?c4 ?c5; (case k6 => k_is); (case k7 => k_is); (case k8 => ktr_room); (case k9 => first | exact BindsTo.of_eq rfl | exact binds_K (by k_in) rfl (by k_is) rfl rfl rfl); (case kB => exact locs rfl); (case c2 => exact rfl); (case c3 => exact rfl); (case c4 => exact rfl); (case c5 => decide); intro g' L' h' FG' F' N' B' X' T'; dsimp only; k_fold)
  k_steps
  all_goals (refine hret _ _ _ [_] (by k_asm) (by first | k_asm | exact drop1 (by k_asm) | exact drop2 (by k_asm) | exact drop3 (by k_asm)) ⟨_, _, _, _, rfl, rfl⟩)
  )) only [↓apart])
theorem con_dat5 (w : World) (J gy gm gd r y m d ep : Int) (t x z : Tok) (G : Ind J gy gm gd r y m d) : Con w 544 8 64 [.int 5 t, .float (H (2 * J + 1)) x, .int ep z] (fun _ => True) (fun new v => ∃ a t1 t2 t3, new = [(a, { cls := .type "tuple", data := .seq #[.int y t1, .int m t2, .int d t3] })] ∧ v = .ref a) := Apart.get (by simp (disch := k_dflt (
  unfold Con
  k_fill
  intro p loose mean mg mb dp un gd' cn cs a' ccd cl outer A₀ base h₀ L ma news s Q E B F X N T hk hpre hdp hun htk0 hret
  (refine wpAny_call ?_; refine' code_def (binds := [(Str.ofString "way", Value.int 5 t), (Str.ofString "number", Value.float (H (2 * J + 1)) x), (Str.ofString "epoch", Value.int ep z)]) B F X N T rfl rfl hk ?k6 ?k7 ?k8 ?k9 ?kB ?_ ?c2 ?c3 ?c4 ?c5; (case k6 => k_is); (case k7 => k_is); (case k8 => ktr_room); (case k9 => first | exact BindsTo.of_eq rfl | exact binds_K (by k_in) rfl (by k_is) rfl rfl rfl); (case kB => exact locs rfl); (case c2 => exact rfl); (case c3 => exact rfl); (case c4 => exact rfl); (case c5 => decide); intro g' L' h' FG' F' N' B' X' T'; dsimp only; k_fold)
  k_steps
  all_goals (refine hret _ _ _ [_] (by k_asm) (by first | k_asm | exact drop1 (by k_asm) | exact drop2 (by k_asm) | exact drop3 (by k_asm)) ⟨_, _, _, _, rfl, rfl⟩)
  )) only [↓apart])
theorem con_dat6 (w : World) (J y m d ep : Int) (t x z : Tok) (G : Greg J y m d) : Con w 544 8 64 [.int 6 t, .float (H (2 * J + 1)) x, .int ep z] (fun _ => True) (fun new v => ∃ a t1 t2, new = [(a, { cls := .type "tuple", data := .seq #[.int y t1, .int (doy y m d + 1) t2] })] ∧ v = .ref a) := Apart.get (by simp (disch := k_dflt (
  unfold Con
  k_fill
  intro p loose mean mg mb dp un gd' cn cs a' ccd cl outer A₀ base h₀ L ma news s Q E B F X N T hk hpre hdp hun htk0 hret
  (refine wpAny_call ?_; refine' code_def (binds := [(Str.ofString "way", Value.int 6 t), (Str.ofString "number", Value.float (H (2 * J + 1)) x), (Str.ofString "epoch", Value.int ep z)]) B F X N T rfl rfl hk ?k6 ?k7 ?k8 ?k9 ?kB ?_ ?c2 ?c3 ?c4 ?c5; (case k6 => k_is); (case k7 => k_is); (case k8 => ktr_room); (case k9 => first | exact BindsTo.of_eq rfl | exact binds_K (by k_in) rfl (by k_is) rfl rfl rfl); (case kB => exact locs rfl); (case c2 => exact rfl); (case c3 => exact rfl); (case c4 => exact rfl); (case c5 => decide); intro g' L' h' FG' F' N' B' X' T'; dsimp only; k_fold)
  k_steps
  all_goals (refine hret _ _ _ [_] (by k_asm) (by first | k_asm | exact drop1 (by k_asm) | exact drop2 (by k_asm) | exact drop3 (by k_asm)) ⟨_, _, _, rfl, rfl⟩)
  )) only [↓apart])
theorem con_dat8 (w : World) (J y m d E0 E1 E2 E3 ca c n yi y1 R ep : Int) (t x z : Tok) (G : Pos J y m d E0 E1 E2 E3 ca c n yi y1 R) : Con w 544 8 64 [.int 8 t, .float (H (2 * J + 1)) x, .int ep z] (fun _ => True) (fun new v => ∃ a t1 t2 t3, new = [(a, { cls := .type "tuple", data := .seq #[.int y t1, .int m t2, .int d t3] })] ∧ v = .ref a) := Apart.get (by simp (disch := k_dflt (
  unfold Con
  k_fill
  intro p loose mean mg mb dp un gd' cn cs a' ccd cl outer A₀ base h₀ L ma news s Q E B F X N T hk hpre hdp hun htk0 hret
  (refine wpAny_call ?_; refine' code_def (binds := [(Str.ofString "way", Value.int 8 t), (Str.ofString "number", Value.float (H (2 * J + 1)) x), (Str.ofString "epoch", Value.int ep z)]) B F X N T rfl rfl hk ?k6 ?k7 ?k8 ?k9 ?kB ?_ ?c2 ?c3 ?c4 ?c5; (case k6 => k_is); (case k7 => k_is); (case k8 => ktr_room); (case k9 => first | exact BindsTo.of_eq rfl | exact binds_K (by k_in) rfl (by k_is) rfl rfl rfl); (case kB => exact locs rfl); (case c2 => exact rfl); (case c3 => exact rfl); (case c4 => exact rfl); (case c5 => decide); intro g' L' h' FG' F' N' B' X' T'; dsimp only; k_fold)
  k_steps
  all_goals (refine hret _ _ _ [_] (by k_asm) (by first | k_asm | exact drop1 (by k_asm) | exact drop2 (by k_asm) | exact drop3 (by k_asm)) ⟨_, _, _, _, rfl, rfl⟩)
  )) only [↓apart])
theorem con_dat9 (w : World) (J b k tt u n D0 D1 D2 D3 D4 ep : Int) (t x z : Tok) (G : May J b k tt u n D0 D1 D2 D3 D4) : Con w 544 8 64 [.int 9 t, .float (H (2 * J + 1)) x, .int ep z] (fun _ => True) (fun new v => ∃ a t1 t2 t3 t4 t5, new = [(a, { cls := .type "tuple", data := .seq #[.int b t1, .int k t2, .int tt t3, .int u t4, .int n t5] })] ∧ v = .ref a) := Apart.get (by simp (disch := k_dflt (
  unfold Con
  k_fill
  intro p loose mean mg mb dp un gd' cn cs a' ccd cl outer A₀ base h₀ L ma news s Q E B F X N T hk hpre hdp hun htk0 hret
  (refine wpAny_call ?_; refine' code_def (binds := [(Str.ofString "way", Value.int 9 t), (Str.ofString "number", Value.float (H (2 * J + 1)) x), (Str.ofString "epoch", Value.int ep z)]) B F X N T rfl rfl hk ?k6 ?k7 ?k8 ?k9 ?kB ?_ ?c2 ?c3 ?c4 ?c5; (case k6 => k_is); (case k7 => k_is); (case k8 => ktr_room); (case k9 => first | exact BindsTo.of_eq rfl | exact binds_K (by k_in) rfl (by k_is) rfl rfl rfl); (case kB => exact locs rfl); (case c2 => exact rfl); (case c3 => exact rfl); (case c4 => exact rfl); (case c5 => decide); intro g' L' h' FG' F' N' B' X' T'; dsimp only; k_fold)
  k_steps
  all_goals (refine hret _ _ _ [_] (by k_asm) (by first | k_asm | exact drop1 (by k_asm) | exact drop2 (by k_asm) | exact drop3 (by k_asm)) ⟨_, _, _, _, _, _, rfl, rfl⟩)
  )) only [↓apart])
theorem con_dat10 (w : World) (J y m d D y0 m0 D2 ep : Int) (t x z : Tok) (G : Arm J y m d D y0 m0 D2) : Con w 544 8 64 [.int 10 t, .float (H (2 * J + 1)) x, .int ep z] (fun _ => True) (fun new v => ∃ a t1 t2 t3, new = [(a, { cls := .type "tuple", data := .seq #[.int y t1, .int m t2, .int d t3] })] ∧ v = .ref a) := Apart.get (by simp (disch := k_dflt (
  unfold Con
  k_fill
  intro p loose mean mg mb dp un gd' cn cs a' ccd cl outer A₀ base h₀ L ma news s Q E B F X N T hk hpre hdp hun htk0 hret
  (refine wpAny_call ?_; refine' code_def (binds := [(Str.ofString "way", Value.int 10 t), (Str.ofString "number", Value.float (H (2 * J + 1)) x), (Str.ofString "epoch", Value.int ep z)]) B F X N T rfl rfl hk ?k6 ?k7 ?k8 ?k9 ?kB ?_ ?c2 ?c3 ?c4 ?c5; (case k6 => k_is); (case k7 => k_is); (case k8 => ktr_room); (case k9 => first | exact BindsTo.of_eq rfl | exact binds_K (by k_in) rfl (by k_is) rfl rfl rfl); (case kB => exact locs rfl); (case c2 => exact rfl); (case c3 => exact rfl); (case c4 => exact rfl); (case c5 => decide); intro g' L' h' FG' F' N' B' X' T'; dsimp only; k_fold)
  k_steps
  all_goals (refine hret _ _ _ [_] (by k_asm) (by first | k_asm | exact drop1 (by k_asm) | exact drop2 (by k_asm) | exact drop3 (by k_asm)) ⟨_, _, _, _, rfl, rfl⟩)
  )) only [↓apart])
theorem con_dat11 (w : World) (J y m d D y0 R m0 D2 yd ep : Int) (t x z : Tok) (G : Sar J y m d D y0 R m0 D2 yd) : Con w 544 8 64 [.int 11 t, .float (H (2 * J + 1)) x, .int ep z] (fun _ => True) (fun new v => ∃ a t1 t2 t3, new = [(a, { cls := .type "tuple", data := .seq #[.int y t1, .int m t2, .int d t3] })] ∧ v = .ref a) := Apart.get (by simp (disch := k_dflt (
  unfold Con
  k_fill
  intro p loose mean mg mb dp un gd' cn cs a' ccd cl outer A₀ base h₀ L ma news s Q E B F X N T hk hpre hdp hun htk0 hret
  (refine wpAny_call ?_; refine' code_def (binds := [(Str.ofString "way", Value.int 11 t), (Str.ofString "number", Value.float (H (2 * J + 1)) x), (Str.ofString "epoch", Value.int ep z)]) B F X N T rfl rfl hk ?k6 ?k7 ?k8 ?k9 ?kB ?_ ?c2 ?c3 ?c4 ?c5; (case k6 => k_is); (case k7 => k_is); (case k8 => ktr_room); (case k9 => first | exact BindsTo.of_eq rfl | exact binds_K (by k_in) rfl (by k_is) rfl rfl rfl); (case kB => exact locs rfl); (case c2 => exact rfl); (case c3 => exact rfl); (case c4 => exact rfl); (case c5 => decide); intro g' L' h' FG' F' N' B' X' T'; dsimp only; k_fold)
  k_steps
  all_goals (refine hret _ _ _ [_] (by k_asm) (by first | k_asm | exact drop1 (by k_asm) | exact drop2 (by k_asm) | exact drop3 (by k_asm)) ⟨_, _, _, _, rfl, rfl⟩)
  )) only [↓apart])
theorem con_dat7 (w : World) (J y m d ep : Int) (t x z : Tok) (G : Greg J y m d) (hy9 : y ≤ 9999) : Con w 544 8 64 [.int 7 t, .float (H (2 * J + 1)) x, .int ep z] (fun _ => True) (fun new v => ∃ a tk, new = [(a, isoObj (Builtin._datetime.isoCalendarOf y m d) tk)] ∧ v = .ref a) := Apart.get (by simp (disch := k_dflt (
  unfold Con
  k_fill
  intro p loose mean mg mb dp un gd' cn cs a' ccd cl outer A₀ base h₀ L ma news s Q E B F X N T hk hpre hdp hun htk0 hret
  (refine wpAny_call ?_; refine' code_def (binds := [(Str.ofString "way", Value.int 7 t), (Str.ofString "number", Value.float (H (2 * J + 1)) x), (Str.ofString "epoch", Value.int ep z)]) B F X N T rfl rfl hk ?k6 ?k7 ?k8 ?k9 ?kB ?_ ?c2 ?c3 ?c4 ?c5; (case k6 => k_is); (case k7 => k_is); (case k8 => ktr_room); (case k9 => first | exact BindsTo.of_eq rfl | exact binds_K (by k_in) rfl (by k_is) rfl rfl rfl); (case kB => exact locs rfl); (case c2 => exact rfl); (case c3 => exact rfl); (case c4 => exact rfl); (case c5 => decide); intro g' L' h' FG' F' N' B' X' T'; dsimp only; k_fold)
  k_steps
  all_goals (refine hret _ _ _ [_] (by k_asm) (by first | k_asm | exact drop1 (by k_asm) | exact drop2 (by k_asm) | exact drop3 (by k_asm)) ⟨_, _, rfl, rfl⟩)
  )) only [↓apart])
theorem con_dat0 (w : World) (J ep : Int) (t x z : Tok) : Con w 544 8 64 [.int 0 t, .float (H (2 * J + 1)) x, .int ep z] (fun _ => x ≠ 0) (fun new v => ∃ a t1, t1 ≠ 0 ∧ new = [(a, { cls := .type "tuple", data := .seq #[.float (H (2 * J + 1)) t1] })] ∧ v = .ref a) := Apart.get (by simp (disch := k_dflt (
  unfold Con
  k_fill
  intro p loose mean mg mb dp un gd' cn cs a' ccd cl outer A₀ base h₀ L ma news s Q E B F X N T hk hpre hdp hun htk0 hret
  (refine wpAny_call ?_; refine' code_def (binds := [(Str.ofString "way", Value.int 0 t), (Str.ofString "number", Value.float (H (2 * J + 1)) x), (Str.ofString "epoch", Value.int ep z)]) B F X N T rfl rfl hk ?k6 ?k7 ?k8 ?k9 ?kB ?_ ?c2 ?c3 ?c4 ?c5; (case k6 => k_is); (case k7 => k_is); (case k8 => ktr_room); (case k9 => first | exact BindsTo.of_eq rfl | exact binds_K (by k_in) rfl (by k_is) rfl rfl rfl); (case kB => exact locs rfl); (case c2 => exact rfl); (case c3 => exact rfl); (case c4 => exact rfl); (case c5 => decide); intro g' L' h' FG' F' N' B' X' T'; dsimp only; k_fold)
  k_steps
  all_goals (refine hret _ _ _ [_] (by k_asm) (by first | k_asm | exact drop1 (by k_asm) | exact drop2 (by k_asm) | exact drop3 (by k_asm)) ⟨_, _, hpre, rfl, rfl⟩)
  )) only [↓apart])
theorem con_dat12 (w : World) (J ep : Int) (t x z : Tok) (hb : (0 ≤ J ∧ J < 10000000) ∧ -100000000 < ep ∧ ep < 100000000) : Con w 544 8 64 [.int 12 t, .float (H (2 * J + 1)) x, .int ep z] (fun _ => True) (fun new v => ∃ a t1, t1 ≠ 0 ∧ new = [(a, { cls := .type "tuple", data := .seq #[.float (H (2 * J + 1 - 2 * ep)) t1] })] ∧ v = .ref a) := Apart.get (by simp (disch := k_dflt (
  unfold Con
  k_fill
  intro p loose mean mg mb dp un gd' cn cs a' ccd cl outer A₀ base h₀ L ma news s Q E B F X N T hk hpre hdp hun htk0 hret
  obtain ⟨hb1, hb2⟩ := hb
  (refine wpAny_call ?_; refine' code_def (binds := [(Str.ofString "way", Value.int 12 t), (Str.ofString "number", Value.float (H (2 * J + 1)) x), (Str.ofString "epoch", Value.int ep z)]) B F X N T rfl rfl hk ?k6 ?k7 ?k8 ?k9 ?kB ?_ ?c2 ?c3 ?c4 ?c5; (case k6 => k_is); (case k7 => k_is); (case k8 => ktr_room); (case k9 => first | exact BindsTo.of_eq rfl | exact binds_K (by k_in) rfl (by k_is) rfl rfl rfl); (case kB => exact locs rfl); (case c2 => exact rfl); (case c3 => exact rfl); (case c4 => exact rfl); (case c5 => decide); intro g' L' h' FG' F' N' B' X' T'; dsimp only; k_fold)
  k_steps
  all_goals (refine hret _ _ _ [_] (by k_asm) (by first | k_asm | exact drop1 (by k_asm) | exact drop2 (by k_asm) | exact drop3 (by k_asm)) ⟨_, _, Nat.succ_ne_zero _, rfl, rfl⟩)
  )) only [↓apart])
end
section
local macro_rules | `(tactic| kxt_pos) => `(tactic| (k_here; (with_reducible show wpAny _ _ (call (Value.ref 123) [Value.float _ _]) _ _ _); k_dflt (refine' Con.use (con_fromjd' _ _ _ _ _ (by assumption) _ (by first | rfl | assumption | omega) _) ?k1 ?k2 ?k3 ?k4 ?k5 ?kK ?kp ?kd ?ku ?k0 ?_; (case k1 => k_asm); (case k2 => k_asm); (case k3 => k_asm); (case k4 => k_asm); (case k5 => k_asm); (case kK => first | exact rfl | assumption); (case kp => trivial); (case kd => ktr_room); (case ku => ktr_units); (case k0 => (dsimp only; omega))); intro v9 h9 tk9 new9 le9 F9 N9 p9; (try dsimp only at le9); obtain ⟨a9, t9, u9, v9, e9, e8⟩ := p9; subst e9 e8; (try simp only [List.nil_append, List.cons_append] at N9); (try dsimp only); (try k_sweep); (try k_fold)))
local macro_rules | `(tactic| kxt_pos) => `(tactic| (k_here; (with_reducible show wpAny _ _ (call (Value.ref 131) [Value.int _ _]) _ _ _); k_dflt (refine' Con.use (con_leapj _ _ _ _) ?k1 ?k2 ?k3 ?k4 ?k5 ?kK ?kp ?kd ?ku ?k0 ?_; (case k1 => k_asm); (case k2 => k_asm); (case k3 => k_asm); (case k4 => k_asm); (case k5 => k_asm); (case kK => first | exact rfl | assumption); (case kp => first | assumption | exact rfl); (case kd => ktr_room); (case ku => ktr_units); (case k0 => (dsimp only; omega))); intro v9 h9 tk9 new9 le9 F9 N9 p9; (try dsimp only at le9); obtain ⟨e9, e8⟩ := p9; subst e9 e8; (try simp only [List.nil_append, List.cons_append] at N9); (try dsimp only); (try k_sweep); (try k_fold)))
local macro_rules | `(tactic| kxt_pos) => `(tactic| (k_here; (with_reducible show wpAny _ _ (call (Value.ref 138) [Value.int _ _, Value.int _ _]) _ _ _); k_dflt (refine' Con.use (con_mlenj _ _ _ _ _) ?k1 ?k2 ?k3 ?k4 ?k5 ?kK ?kp ?kd ?ku ?k0 ?_; (case k1 => k_asm); (case k2 => k_asm); (case k3 => k_asm); (case k4 => k_asm); (case k5 => k_asm); (case kK => first | exact rfl | assumption); (case kp => trivial); (case kd => ktr_room); (case ku => ktr_units); (case k0 => (dsimp only; omega))); intro v9 h9 tk9 new9 le9 F9 N9 p9; (try dsimp only at le9); obtain ⟨e9, t9, e8⟩ := p9; subst e9 e8; (try simp only [List.nil_append, List.cons_append] at N9); (try dsimp only); (try k_sweep); (try k_fold)))
local macro_rules | `(tactic| kxt_pos) => `(tactic| (k_here; (with_reducible show wpAny _ _ (call (Value.ref 145) [Value.int _ _, Value.int _ _, Value.int _ _]) _ _ _); k_dflt (refine' Con.use (con_legalj _ _ _ _ _ _ _) ?k1 ?k2 ?k3 ?k4 ?k5 ?kK ?kp ?kd ?ku ?k0 ?_; (case k1 => k_asm); (case k2 => k_asm); (case k3 => k_asm); (case k4 => k_asm); (case k5 => k_asm); (case kK => first | exact rfl | assumption); (case kp => first | assumption | omega); (case kd => ktr_room); (case ku => ktr_units); (case k0 => (dsimp only; omega))); intro v9 h9 tk9 new9 le9 F9 N9 p9; (try dsimp only at le9); obtain ⟨e9, e8⟩ := p9; subst e9 e8; (try simp only [List.nil_append, List.cons_append] at N9); (try dsimp only); (try k_sweep); (try k_fold)))
local macro_rules | `(tactic| kxt_pos) => `(tactic| (k_here; (with_reducible show wpAny _ _ (call (Value.ref 159) [Value.int _ _, Value.int _ _, Value.int _ _]) _ _ _); k_dflt (refine' Con.use (con_tojdj _ _ _ _ _ _ _) ?k1 ?k2 ?k3 ?k4 ?k5 ?kK ?kp ?kd ?ku ?k0 ?_; (case k1 => k_asm); (case k2 => k_asm); (case k3 => k_asm); (case k4 => k_asm); (case k5 => k_asm); (case kK => first | exact rfl | assumption); (case kp => first | assumption | omega); (case kd => ktr_room); (case ku => ktr_units); (case k0 => (dsimp only; omega))); intro v9 h9 tk9 new9 le9 F9 N9 p9; (try dsimp only at le9); obtain ⟨e9, t9, n9, e8⟩ := p9; subst e9 e8; (try simp only [List.nil_append, List.cons_append] at N9); (try dsimp only); (try k_sweep); (try k_fold)))
local macro_rules | `(tactic| kxt_pos) => `(tactic| (k_here; (with_reducible show wpAny _ _ (call (Value.ref 306) [Value.int _ _, Value.int _ _, Value.int _ _]) _ _ _); k_dflt (refine' Con.use (con_tojdc _ _ _ _ _ _ _) ?k1 ?k2 ?k3 ?k4 ?k5 ?kK ?kp ?kd ?ku ?k0 ?_; (case k1 => k_asm); (case k2 => k_asm); (case k3 => k_asm); (case k4 => k_asm); (case k5 => k_asm); (case kK => first | exact rfl | assumption); (case kp => first | assumption | omega); (case kd => ktr_room); (case ku => ktr_units); (case k0 => (dsimp only; omega))); intro v9 h9 tk9 new9 le9 F9 N9 p9; (try dsimp only at le9); obtain ⟨e9, b9, t9, n9, e8⟩ := p9; subst e9 e8; (try simp only [List.nil_append, List.cons_append] at N9); (try dsimp only); (try k_sweep); (try k_fold)))
local macro_rules | `(tactic| kxt_pos) => `(tactic| (k_here; (with_reducible show wpAny _ _ (call (Value.ref 313) [Value.float (H (2 * _ + 1)) _]) _ _ _); k_dflt (refine' Con.use (con_fromjdc _ _ _ _ _ _ _ _ (by assumption)) ?k1 ?k2 ?k3 ?k4 ?k5 ?kK ?kp ?kd ?ku ?k0 ?_; (case k1 => k_asm); (case k2 => k_asm); (case k3 => k_asm); (case k4 => k_asm); (case k5 => k_asm); (case kK => first | exact rfl | assumption); (case kp => trivial); (case kd => ktr_room); (case ku => ktr_units); (case k0 => (dsimp only; omega))); intro v9 h9 tk9 new9 le9 F9 N9 p9; (try dsimp only at le9); obtain ⟨a9, t9, u9, v9, e9, e8⟩ := p9; subst e9 e8; (try simp only [List.nil_append, List.cons_append] at N9); (try dsimp only); (try k_sweep); (try k_fold)))
local macro_rules | `(tactic| kxt_pos) => `(tactic| (k_here; (with_reducible show wpAny _ _ (call (Value.ref 362) [Value.int _ _, Value.int _ _, Value.int _ _]) _ _ _); k_dflt (refine' Con.use (con_tojdi _ _ _ _ _ _ _) ?k1 ?k2 ?k3 ?k4 ?k5 ?kK ?kp ?kd ?ku ?k0 ?_; (case k1 => k_asm); (case k2 => k_asm); (case k3 => k_asm); (case k4 => k_asm); (case k5 => k_asm); (case kK => first | exact rfl | assumption); (case kp => first | assumption | omega); (case kd => ktr_room); (case ku => ktr_units); (case k0 => (dsimp only; omega))); intro v9 h9 tk9 new9 le9 F9 N9 p9; (try dsimp only at le9); obtain ⟨e9, b9, t9, n9, e8⟩ := p9; subst e9 e8; (try simp only [List.nil_append, List.cons_append] at N9); (try dsimp only); (try k_sweep); (try k_fold)))
local macro_rules | `(tactic| kxt_pos) => `(tactic| (k_here; (with_reducible show wpAny _ _ (call (Value.ref 334) [Value.int _ _, Value.int _ _, Value.int _ _]) _ _ _); k_dflt (refine' Con.use (con_tojdn _ _ _ _ _ _ _) ?k1 ?k2 ?k3 ?k4 ?k5 ?kK ?kp ?kd ?ku ?k0 ?_; (case k1 => k_asm); (case k2 => k_asm); (case k3 => k_asm); (case k4 => k_asm); (case k5 => k_asm); (case kK => first | exact rfl | assumption); (case kp => first | assumption | omega); (case kd => ktr_room); (case ku => ktr_units); (case k0 => (dsimp only; omega))); intro v9 h9 tk9 new9 le9 F9 N9 p9; (try dsimp only at le9); obtain ⟨e9, t9, n9, e8⟩ := p9; subst e9 e8; (try simp only [List.nil_append, List.cons_append] at N9); (try dsimp only); (try k_sweep); (try k_fold)))
local macro_rules | `(tactic| kxt_pos) => `(tactic| (k_here; (with_reducible show wpAny _ _ (call (Value.ref 488) [Value.int _ _, Value.int _ _, Value.int _ _]) _ _ _); k_dflt (refine' Con.use (con_fromgo _ _ _ _ _ _ _) ?k1 ?k2 ?k3 ?k4 ?k5 ?kK ?kp ?kd ?ku ?k0 ?_; (case k1 => k_asm); (case k2 => k_asm); (case k3 => k_asm); (case k4 => k_asm); (case k5 => k_asm); (case kK => first | exact rfl | assumption); (case kp => first | ((refine ⟨?_, ?_, ?_, mlen_ge _ _ _ ?_⟩) <;> omega) | omega); (case kd => ktr_room); (case ku => ktr_units); (case k0 => (dsimp only; omega))); intro v9 h9 tk9 new9 le9 F9 N9 p9; (try dsimp only at le9); obtain ⟨a9, t9, u9, e9, e8⟩ := p9; subst e9 e8; (try simp only [List.nil_append, List.cons_append] at N9); (try dsimp only); (try k_sweep); (try k_fold)))
local macro_rules | `(tactic| kxt_pos) => `(tactic| (k_here; (with_reducible show wpAny _ _ (call (Value.ref 481) [Value.float (H (2 * _ + 1)) _]) _ _ _); k_dflt (refine' Con.use (con_fromjdo _ _ _ _ _ _ (by assumption)) ?k1 ?k2 ?k3 ?k4 ?k5 ?kK ?kp ?kd ?ku ?k0 ?_; (case k1 => k_asm); (case k2 => k_asm); (case k3 => k_asm); (case k4 => k_asm); (case k5 => k_asm); (case kK => first | exact rfl | assumption); (case kp => trivial); (case kd => ktr_room); (case ku => ktr_units); (case k0 => (dsimp only; omega))); intro v9 h9 tk9 new9 le9 F9 N9 p9; (try dsimp only at le9); obtain ⟨a9, t9, u9, e9, e8⟩ := p9; subst e9 e8; (try simp only [List.nil_append, List.cons_append] at N9); (try dsimp only); (try k_sweep); (try k_fold)))
local macro_rules | `(tactic| kxt_pos) => `(tactic| (k_here; (with_reducible show wpAny _ _ (call (Value.ref 474) [Value.int _ _, Value.int _ _]) _ _ _); k_dflt (refine' Con.use (con_tojdo _ _ _ _ _) ?k1 ?k2 ?k3 ?k4 ?k5 ?kK ?kp ?kd ?ku ?k0 ?_; (case k1 => k_asm); (case k2 => k_asm); (case k3 => k_asm); (case k4 => k_asm); (case k5 => k_asm); (case kK => first | exact rfl | assumption); (case kp => first | assumption | omega); (case kd => ktr_room); (case ku => ktr_units); (case k0 => (dsimp only; omega))); intro v9 h9 tk9 new9 le9 F9 N9 p9; (try dsimp only at le9); obtain ⟨e9, t9, n9, e8⟩ := p9; subst e9 e8; (try simp only [List.nil_append, List.cons_append] at N9); (try dsimp only); (try k_sweep); (try k_fold)))
local macro_rules | `(tactic| kxt_pos) => `(tactic| (k_here; (with_reducible show wpAny _ _ (call (Value.ref 495) [Value.int _ _, Value.int (doy _ _ _ + 1) _]) _ _ _); k_dflt (refine' Con.use (con_togo _ _ _ _ _ _ _ (by assumption)) ?k1 ?k2 ?k3 ?k4 ?k5 ?kK ?kp ?kd ?ku ?k0 ?_; (case k1 => k_asm); (case k2 => k_asm); (case k3 => k_asm); (case k4 => k_asm); (case k5 => k_asm); (case kK => first | exact rfl | assumption); (case kp => trivial); (case kd => ktr_room); (case ku => ktr_units); (case k0 => (dsimp only; omega))); intro v9 h9 tk9 new9 le9 F9 N9 p9; (try dsimp only at le9); obtain ⟨a9, t9, u9, v9, e9, e8⟩ := p9; subst e9 e8; (try simp only [List.nil_append, List.cons_append] at N9); (try dsimp only); (try k_sweep); (try k_fold)))
local macro_rules | `(tactic| kxt_pos) => `(tactic| (k_here; (with_reducible show wpAny _ _ (call (Value.ref 446) [Value.int _ _, Value.int _ _, Value.int _ _, Value.int _ _, Value.int _ _]) _ _ _); k_dflt (refine' Con.use (con_tojdm _ _ _ _ _ _ _ _ _ _ _) ?k1 ?k2 ?k3 ?k4 ?k5 ?kK ?kp ?kd ?ku ?k0 ?_; (case k1 => k_asm); (case k2 => k_asm); (case k3 => k_asm); (case k4 => k_asm); (case k5 => k_asm); (case kK => first | exact rfl | assumption); (case kp => first | assumption | omega); (case kd => ktr_room); (case ku => ktr_units); (case k0 => (dsimp only; omega))); intro v9 h9 tk9 new9 le9 F9 N9 p9; (try dsimp only at le9); obtain ⟨e9, t9, n9, e8⟩ := p9; subst e9 e8; (try simp only [List.nil_append, List.cons_append] at N9); (try dsimp only); (try k_sweep); (try k_fold)))
local macro_rules | `(tactic| kxt_pos) => `(tactic| (k_here; (with_reducible show wpAny _ _ (call (Value.ref 453) [Value.float (H (2 * _ + 1)) _]) _ _ _); k_dflt (refine' Con.use (con_fromjdm _ _ _ _ _ _ _ _ _ _ _ _ _ (by assumption)) ?k1 ?k2 ?k3 ?k4 ?k5 ?kK ?kp ?kd ?ku ?k0 ?_; (case k1 => k_asm); (case k2 => k_asm); (case k3 => k_asm); (case k4 => k_asm); (case k5 => k_asm); (case kK => first | exact rfl | assumption); (case kp => trivial); (case kd => ktr_room); (case ku => ktr_units); (case k0 => (dsimp only; omega))); intro v9 h9 tk9 new9 le9 F9 N9 p9; (try dsimp only at le9); obtain ⟨a9, t9, u9, v9, w9, x9, e9, e8⟩ := p9; subst e9 e8; (try simp only [List.nil_append, List.cons_append] at N9); (try dsimp only); (try k_sweep); (try k_fold)))
local macro_rules | `(tactic| kxt_pos) => `(tactic| (k_here; (with_reducible show wpAny _ _ (call (Value.ref 502) [Value.int _ _, Value.int _ _, Value.int _ _]) _ _ _); k_dflt (refine' Con.use (con_legalp _ _ _ _ _ _ _) ?k1 ?k2 ?k3 ?k4 ?k5 ?kK ?kp ?kd ?ku ?k0 ?_; (case k1 => k_asm); (case k2 => k_asm); (case k3 => k_asm); (case k4 => k_asm); (case k5 => k_asm); (case kK => first | exact rfl | assumption); (case kp => first | assumption | omega); (case kd => ktr_room); (case ku => ktr_units); (case k0 => (dsimp only; omega))); intro v9 h9 tk9 new9 le9 F9 N9 p9; (try dsimp only at le9); obtain ⟨e9, e8⟩ := p9; subst e9 e8; (try simp only [List.nil_append, List.cons_append] at N9); (try dsimp only); (try k_sweep); (try k_fold)))
local macro_rules | `(tactic| kxt_pos) => `(tactic| (k_here; (with_reducible show wpAny _ _ (call (Value.ref 509) [Value.int _ _, Value.int _ _, Value.int _ _]) _ _ _); k_dflt (refine' Con.use (con_tojdp _ _ _ _ _ _ _) ?k1 ?k2 ?k3 ?k4 ?k5 ?kK ?kp ?kd ?ku ?k0 ?_; (case k1 => k_asm); (case k2 => k_asm); (case k3 => k_asm); (case k4 => k_asm); (case k5 => k_asm); (case kK => first | exact rfl | assumption); (case kp => first | assumption | omega); (case kd => ktr_room); (case ku => ktr_units); (case k0 => (dsimp only; omega))); intro v9 h9 tk9 new9 le9 F9 N9 p9; (try dsimp only at le9); obtain ⟨e9, t9, n9, e8⟩ := p9; subst e9 e8; (try simp only [List.nil_append, List.cons_append] at N9); (try dsimp only); (try k_sweep); (try k_fold)))
local macro_rules | `(tactic| kxt_pos) => `(tactic| (k_here; (with_reducible show wpAny _ _ (call (Value.ref 516) [Value.float (H (2 * _ + 1)) _]) _ _ _); k_dflt (refine' Con.use (con_fromjdp _ _ _ _ _ _ _ _ _ _ _ _ _ _ _ _ (by assumption)) ?k1 ?k2 ?k3 ?k4 ?k5 ?kK ?kp ?kd ?ku ?k0 ?_; (case k1 => k_asm); (case k2 => k_asm); (case k3 => k_asm); (case k4 => k_asm); (case k5 => k_asm); (case kK => first | exact rfl | assumption); (case kp => trivial); (case kd => ktr_room); (case ku => ktr_units); (case k0 => (dsimp only; omega))); intro v9 h9 tk9 new9 le9 F9 N9 p9; (try dsimp only at le9); obtain ⟨a9, t9, u9, v9, e9, e8⟩ := p9; subst e9 e8; (try simp only [List.nil_append, List.cons_append] at N9); (try dsimp only); (try k_sweep); (try k_fold)))
local macro_rules | `(tactic| kxt_pos) => `(tactic| (k_here; (with_reducible show wpAny _ _ (call (Value.ref 251) [Value.int _ _]) _ _ _); k_dflt (refine' Con.use (con_leapt _ _ _) ?k1 ?k2 ?k3 ?k4 ?k5 ?kK ?kp ?kd ?ku ?k0 ?_; (case k1 => k_asm); (case k2 => k_asm); (case k3 => k_asm); (case k4 => k_asm); (case k5 => k_asm); (case kK => first | exact rfl | assumption); (case kp => omega); (case kd => ktr_room); (case ku => ktr_units); (case k0 => (dsimp only; omega))); intro v9 h9 tk9 new9 le9 F9 N9 p9; (try dsimp only at le9); obtain ⟨e9, e8⟩ := p9; subst e9 e8; (try simp only [List.nil_append, List.cons_append] at N9); (try dsimp only); (try k_sweep); (try k_fold)))
local macro_rules | `(tactic| kxt_pos) => `(tactic| (k_here; (with_reducible show wpAny _ _ (call (Value.ref 251) [Value.int _ _]) _ _ _); k_dflt (refine' Con.use (con_leapf _ _ _) ?k1 ?k2 ?k3 ?k4 ?k5 ?kK ?kp ?kd ?ku ?k0 ?_; (case k1 => k_asm); (case k2 => k_asm); (case k3 => k_asm); (case k4 => k_asm); (case k5 => k_asm); (case kK => first | exact rfl | assumption); (case kp => omega); (case kd => ktr_room); (case ku => ktr_units); (case k0 => (dsimp only; omega))); intro v9 h9 tk9 new9 le9 F9 N9 p9; (try dsimp only at le9); obtain ⟨e9, e8⟩ := p9; subst e9 e8; (try simp only [List.nil_append, List.cons_append] at N9); (try dsimp only); (try k_sweep); (try k_fold)))
local macro_rules | `(tactic| kxt_pos) => `(tactic| (k_here; (with_reducible show wpAny _ _ (call (Value.ref 244) [Value.int _ _, Value.int _ _, Value.int _ _, Value.none]) _ _ _); k_dflt (refine' Con.use (con_valid _ _ _ _ _ _ _) ?k1 ?k2 ?k3 ?k4 ?k5 ?kK ?kp ?kd ?ku ?k0 ?_; (case k1 => k_asm); (case k2 => k_asm); (case k3 => k_asm); (case k4 => k_asm); (case k5 => k_asm); (case kK => first | exact rfl | assumption); (case kp => first | assumption | omega); (case kd => ktr_room); (case ku => ktr_units); (case k0 => (dsimp only; omega))); intro v9 h9 tk9 new9 le9 F9 N9 p9; (try dsimp only at le9); obtain ⟨e9, e8⟩ := p9; subst e9 e8; (try simp only [List.nil_append, List.cons_append] at N9); (try dsimp only); (try k_sweep); (try k_fold)))
local macro_rules | `(tactic| kxt_pos) => `(tactic| (k_here; (with_reducible show wpAny _ _ (call (Value.ref 244) [Value.int _ _, Value.int _ _, Value.int _ _, Value.str _ _]) _ _ _); k_dflt (refine' Con.use (con_valids _ _ _ _ _ _ _ _) ?k1 ?k2 ?k3 ?k4 ?k5 ?kK ?kp ?kd ?ku ?k0 ?_; (case k1 => k_asm); (case k2 => k_asm); (case k3 => k_asm); (case k4 => k_asm); (case k5 => k_asm); (case kK => first | exact rfl | assumption); (case kp => first | assumption | omega); (case kd => ktr_room); (case ku => ktr_units); (case k0 => (dsimp only; omega))); intro v9 h9 tk9 new9 le9 F9 N9 p9; (try dsimp only at le9); obtain ⟨e9, e8⟩ := p9; subst e9 e8; (try simp only [List.nil_append, List.cons_append] at N9); (try dsimp only); (try k_sweep); (try k_fold)))
local macro_rules | `(tactic| kxt_pos) => `(tactic| (k_here; (with_reducible show wpAny _ _ (call (Value.ref 259) [Value.int _ _, Value.int _ _, Value.int _ _, Value.none]) _ _ _); k_dflt (refine' Con.use (con_tojda _ _ _ _ _ _ _) ?k1 ?k2 ?k3 ?k4 ?k5 ?kK ?kp ?kd ?ku ?k0 ?_; (case k1 => k_asm); (case k2 => k_asm); (case k3 => k_asm); (case k4 => k_asm); (case k5 => k_asm); (case kK => first | exact rfl | assumption); (case kp => first | assumption | omega); (case kd => ktr_room); (case ku => ktr_units); (case k0 => (dsimp only; omega))); intro v9 h9 tk9 new9 le9 F9 N9 p9; (try dsimp only at le9); obtain ⟨e9, t9, n9, e8⟩ := p9; subst e9 e8; (try simp only [List.nil_append, List.cons_append] at N9); (try dsimp only); (try k_sweep); (try k_fold)))
local macro_rules | `(tactic| kxt_pos) => `(tactic| (k_here; (with_reducible show wpAny _ _ (call (Value.ref 259) [Value.int _ _, Value.int _ _, Value.int _ _]) _ _ _); k_dflt (refine' Con.use (con_tojda3 _ _ _ _ _ _ _) ?k1 ?k2 ?k3 ?k4 ?k5 ?kK ?kp ?kd ?ku ?k0 ?_; (case k1 => k_asm); (case k2 => k_asm); (case k3 => k_asm); (case k4 => k_asm); (case k5 => k_asm); (case kK => first | exact rfl | assumption); (case kp => first | assumption | omega); (case kd => ktr_room); (case ku => ktr_units); (case k0 => (dsimp only; omega))); intro v9 h9 tk9 new9 le9 F9 N9 p9; (try dsimp only at le9); obtain ⟨e9, t9, n9, e8⟩ := p9; subst e9 e8; (try simp only [List.nil_append, List.cons_append] at N9); (try dsimp only); (try k_sweep); (try k_fold)))
local macro_rules | `(tactic| kxt_pos) => `(tactic| (k_here; (with_reducible show wpAny _ _ (call (Value.ref 259) [Value.int _ _, Value.int _ _, Value.int _ _, Value.str _ _]) _ _ _); k_dflt (refine' Con.use (con_tojds _ _ _ _ _ _ _ _) ?k1 ?k2 ?k3 ?k4 ?k5 ?kK ?kp ?kd ?ku ?k0 ?_; (case k1 => k_asm); (case k2 => k_asm); (case k3 => k_asm); (case k4 => k_asm); (case k5 => k_asm); (case kK => first | exact rfl | assumption); (case kp => first | assumption | omega); (case kd => ktr_room); (case ku => ktr_units); (case k0 => (dsimp only; omega))); intro v9 h9 tk9 new9 le9 F9 N9 p9; (try dsimp only at le9); obtain ⟨e9, t9, n9, e8⟩ := p9; subst e9 e8; (try simp only [List.nil_append, List.cons_append] at N9); (try dsimp only); (try k_sweep); (try k_fold)))
local macro_rules | `(tactic| kxt_pos) => `(tactic| (k_here; (with_reducible show wpAny _ _ (call (Value.ref 267) [Value.float (H (2 * _ + 1)) _, Value.none]) _ _ _); k_dflt (refine' Con.use (con_fromjda _ _ _ _ _ _ _ _ _ _ (by assumption)) ?k1 ?k2 ?k3 ?k4 ?k5 ?kK ?kp ?kd ?ku ?k0 ?_; (case k1 => k_asm); (case k2 => k_asm); (case k3 => k_asm); (case k4 => k_asm); (case k5 => k_asm); (case kK => first | exact rfl | assumption); (case kp => trivial); (case kd => ktr_room); (case ku => ktr_units); (case k0 => (dsimp only; omega))); intro v9 h9 tk9 new9 le9 F9 N9 p9; (try dsimp only at le9); obtain ⟨a9, t9, u9, v9, e9, e8⟩ := p9; subst e9 e8; (try simp only [List.nil_append, List.cons_append] at N9); (try dsimp only); (try k_sweep); (try k_fold)))
local macro_rules | `(tactic| kxt_pos) => `(tactic| (k_here; (with_reducible show wpAny _ _ (call (Value.ref 267) [Value.float (H (2 * _ + 1)) _]) _ _ _); k_dflt (refine' Con.use (con_fromjda1 _ _ _ _ _ _ _ _ _ _ (by assumption)) ?k1 ?k2 ?k3 ?k4 ?k5 ?kK ?kp ?kd ?ku ?k0 ?_; (case k1 => k_asm); (case k2 => k_asm); (case k3 => k_asm); (case k4 => k_asm); (case k5 => k_asm); (case kK => first | exact rfl | assumption); (case kp => trivial); (case kd => ktr_room); (case ku => ktr_units); (case k0 => (dsimp only; omega))); intro v9 h9 tk9 new9 le9 F9 N9 p9; (try dsimp only at le9); obtain ⟨a9, t9, u9, v9, e9, e8⟩ := p9; subst e9 e8; (try simp only [List.nil_append, List.cons_append] at N9); (try dsimp only); (try k_sweep); (try k_fold)))
local macro_rules | `(tactic| kxt_pos) => `(tactic| (k_here; (with_reducible show wpAny _ _ (call (Value.ref 267) [Value.float (H (2 * _ + 1)) _, Value.str _ _]) _ _ _); k_dflt (refine' Con.use (con_fromjds _ _ _ _ _ _ _ _ _ _ _ _ _ (by assumption)) ?k1 ?k2 ?k3 ?k4 ?k5 ?kK ?kp ?kd ?ku ?k0 ?_; (case k1 => k_asm); (case k2 => k_asm); (case k3 => k_asm); (case k4 => k_asm); (case k5 => k_asm); (case kK => first | exact rfl | assumption); (case kp => trivial); (case kd => ktr_room); (case ku => ktr_units); (case k0 => (dsimp only; omega))); intro v9 h9 tk9 new9 le9 F9 N9 p9; (try dsimp only at le9); obtain ⟨a9, t9, u9, v9, e9, e8⟩ := p9; subst e9 e8; (try simp only [List.nil_append, List.cons_append] at N9); (try dsimp only); (try k_sweep); (try k_fold)))
local macro_rules | `(tactic| kxt_pos) => `(tactic| (k_here; (with_reducible show wpAny _ _ (call (Value.ref 59) [Value.float _ _]) _ _ _); k_dflt (refine' Con.use (con_jwday _ _ _) ?k1 ?k2 ?k3 ?k4 ?k5 ?kK ?kp ?kd ?ku ?k0 ?_; (case k1 => k_asm); (case k2 => k_asm); (case k3 => k_asm); (case k4 => k_asm); (case k5 => k_asm); (case kK => first | exact rfl | assumption); (case kp => first | assumption | omega); (case kd => ktr_room); (case ku => ktr_units); (case k0 => (dsimp only; omega))); intro v9 h9 tk9 new9 le9 F9 N9 p9; (try dsimp only at le9); obtain ⟨e9, t9, e8⟩ := p9; subst e9 e8; (try simp only [List.nil_append, List.cons_append] at N9); (try dsimp only); (try k_sweep); (try k_fold)))
local macro_rules | `(tactic| kxt_pos) => `(tactic| (k_here; (with_reducible show wpAny _ _ (call (Value.ref 66) [Value.int 6 _, Value.float _ _]) _ _ _); k_dflt (refine' Con.use (con_wb _ _ _ _) ?k1 ?k2 ?k3 ?k4 ?k5 ?kK ?kp ?kd ?ku ?k0 ?_; (case k1 => k_asm); (case k2 => k_asm); (case k3 => k_asm); (case k4 => k_asm); (case k5 => k_asm); (case kK => first | exact rfl | assumption); (case kp => first | assumption | omega); (case kd => ktr_room); (case ku => ktr_units); (case k0 => (dsimp only; omega))); intro v9 h9 tk9 new9 le9 F9 N9 p9; (try dsimp only at le9); obtain ⟨e9, t9, n9, e8⟩ := p9; subst e9 e8; (try simp only [List.nil_append, List.cons_append] at N9); (try dsimp only); (try k_sweep); (try k_fold)))
local macro_rules | `(tactic| kxt_pos) => `(tactic| (k_here; (with_reducible show wpAny _ _ (call (Value.ref 73) [Value.int 6 _, Value.float _ _, Value.int _ _, Value.int 1 _]) _ _ _); k_dflt (refine' Con.use (con_sw _ _ _ _ _ _) ?k1 ?k2 ?k3 ?k4 ?k5 ?kK ?kp ?kd ?ku ?k0 ?_; (case k1 => k_asm); (case k2 => k_asm); (case k3 => k_asm); (case k4 => k_asm); (case k5 => k_asm); (case kK => first | exact rfl | assumption); (case kp => first | assumption | omega); (case kd => ktr_room); (case ku => ktr_units); (case k0 => (dsimp only; omega))); intro v9 h9 tk9 new9 le9 F9 N9 p9; (try dsimp only at le9); obtain ⟨e9, t9, n9, e8⟩ := p9; subst e9 e8; (try simp only [List.nil_append, List.cons_append] at N9); (try dsimp only); (try k_sweep); (try k_fold)))
local macro_rules | `(tactic| kxt_pos) => `(tactic| (k_here; (with_reducible show wpAny _ _ (call (Value.ref 87) [Value.int 6 _, Value.float _ _]) _ _ _); k_dflt (refine' Con.use (con_pw _ _ _ _) ?k1 ?k2 ?k3 ?k4 ?k5 ?kK ?kp ?kd ?ku ?k0 ?_; (case k1 => k_asm); (case k2 => k_asm); (case k3 => k_asm); (case k4 => k_asm); (case k5 => k_asm); (case kK => first | exact rfl | assumption); (case kp => first | assumption | omega); (case kd => ktr_room); (case ku => ktr_units); (case k0 => (dsimp only; omega))); intro v9 h9 tk9 new9 le9 F9 N9 p9; (try dsimp only at le9); obtain ⟨e9, t9, n9, e8⟩ := p9; subst e9 e8; (try simp only [List.nil_append, List.cons_append] at N9); (try dsimp only); (try k_sweep); (try k_fold)))
local macro_rules | `(tactic| kxt_pos) => `(tactic| (k_here; (with_reducible show wpAny _ _ (call (Value.ref 94) [Value.int 6 _, Value.float _ _, Value.int _ _]) _ _ _); k_dflt (refine' Con.use (con_nw _ _ _ _ _ _) ?k1 ?k2 ?k3 ?k4 ?k5 ?kK ?kp ?kd ?ku ?k0 ?_; (case k1 => k_asm); (case k2 => k_asm); (case k3 => k_asm); (case k4 => k_asm); (case k5 => k_asm); (case kK => first | exact rfl | assumption); (case kp => first | assumption | omega); (case kd => ktr_room); (case ku => ktr_units); (case k0 => (dsimp only; omega))); intro v9 h9 tk9 new9 le9 F9 N9 p9; (try dsimp only at le9); obtain ⟨e9, t9, n9, e8⟩ := p9; subst e9 e8; (try simp only [List.nil_append, List.cons_append] at N9); (try dsimp only); (try k_sweep); (try k_fold)))
local macro_rules | `(tactic| kxt_pos) => `(tactic| (k_here; (with_reducible show wpAny _ _ (call (Value.ref 390) [Value.int _ _, Value.int _ _, Value.int _ _]) _ _ _); k_dflt (refine' Con.use (con_tojdw _ _ _ _ _ _ _) ?k1 ?k2 ?k3 ?k4 ?k5 ?kK ?kp ?kd ?ku ?k0 ?_; (case k1 => k_asm); (case k2 => k_asm); (case k3 => k_asm); (case k4 => k_asm); (case k5 => k_asm); (case kK => first | exact rfl | assumption); (case kp => first | assumption | omega); (case kd => ktr_room); (case ku => ktr_units); (case k0 => (dsimp only; omega))); intro v9 h9 tk9 new9 le9 F9 N9 p9; (try dsimp only at le9); obtain ⟨e9, t9, n9, e8⟩ := p9; subst e9 e8; (try simp only [List.nil_append, List.cons_append] at N9); (try dsimp only); (try k_sweep); (try k_fold)))
local macro_rules | `(tactic| k_room) => `(tactic| ktr_room)
local macro_rules | `(tactic| k_mem) => `(tactic| first | (refine List.mem_cons_of_mem _ ?_; assumption) | (refine List.mem_cons_of_mem _ (List.mem_cons_of_mem _ ?_); assumption) | (refine List.mem_cons_of_mem _ (List.mem_cons_of_mem _ (List.mem_cons_of_mem _ ?_)); assumption))
theorem con_gre2 (w : World) (J gy gm gd y m d W aa b c dd e ep : Int) (a : Addr) (t z t1 t2 t3 : Tok) (K : Greg J gy gm gd) (G : Jul J y m d W aa b c dd e) (hy1 : 1 ≤ y) : Con w 551 8 64 [.int 2 t, .ref a, .int ep z] (fun ns => (a, { cls := .type "tuple", data := .seq #[.int y t1, .int m t2, .int d t3] }) ∈ ns) (fun new v => ∃ a t1 t2 t3, new = [(a, { cls := .type "tuple", data := .seq #[.int gy t1, .int gm t2, .int gd t3] })] ∧ v = .ref a) := Apart.get (by simp (disch := k_dflt (
  unfold Con
  k_fill
  intro p loose mean mg mb dp un gd' cn cs a' ccd cl outer A₀ base h₀ L ma news s Q E B F X N T hk hpre hdp hun htk0 hret
  obtain ⟨bm, bd, _, hbk⟩ := G.back
  clear G
  (refine wpAny_call ?_; refine' code_def (binds := [(Str.ofString "way", Value.int 2 t), (Str.ofString "date_v", Value.ref a), (Str.ofString "epoch", Value.int ep z)]) B F X N T rfl rfl hk ?k6 ?k7 ?k8 ?k9 ?kB ?_ ?c2 ?c3 ?c4 ?c5; (case k6 => k_is); (case k7 => k_is); (case k8 => ktr_room); (case k9 => first | exact BindsTo.of_eq rfl | exact binds_K (by k_in) rfl (by k_is) rfl rfl rfl); (case kB => exact locs rfl); (case c2 => exact rfl); (case c3 => exact rfl); (case c4 => exact rfl); (case c5 => decide); intro g' L' h' FG' F' N' B' X' T'; dsimp only; k_fold)
  k_steps
  all_goals (refine hret _ _ _ [_] (by k_asm) (by first | k_asm | exact drop1 (by k_asm) | exact drop2 (by k_asm) | exact drop3 (by k_asm)) ⟨_, _, _, _, rfl, rfl⟩)
  )) only [↓apart])
theorem con_gre3 (w : World) (J gy gm gd y m d ep : Int) (a : Addr) (t z t1 t2 t3 : Tok) (K : Greg J gy gm gd) (G : Isl J y m d) : Con w 551 8 64 [.int 3 t, .ref a, .int ep z] (fun ns => (a, { cls := .type "tuple", data := .seq #[.int y t1, .int m t2, .int d t3] }) ∈ ns) (fun new v => ∃ a t1 t2 t3, new = [(a, { cls := .type "tuple", data := .seq #[.int gy t1, .int gm t2, .int gd t3] })] ∧ v = .ref a) := Apart.get (by simp (disch := k_dflt (
  unfold Con
  k_fill
  intro p loose mean mg mb dp un gd' cn cs a' ccd cl outer A₀ base h₀ L ma news s Q E B F X N T hk hpre hdp hun htk0 hret
  have hbk := G.back; have bm := G.m1; have bd := G.d1; have by1 := G.y1
  clear G
  (refine wpAny_call ?_; refine' code_def (binds := [(Str.ofString "way", Value.int 3 t), (Str.ofString "date_v", Value.ref a), (Str.ofString "epoch", Value.int ep z)]) B F X N T rfl rfl hk ?k6 ?k7 ?k8 ?k9 ?kB ?_ ?c2 ?c3 ?c4 ?c5; (case k6 => k_is); (case k7 => k_is); (case k8 => ktr_room); (case k9 => first | exact BindsTo.of_eq rfl | exact binds_K (by k_in) rfl (by k_is) rfl rfl rfl); (case kB => exact locs rfl); (case c2 => exact rfl); (case c3 => exact rfl); (case c4 => exact rfl); (case c5 => decide); intro g' L' h' FG' F' N' B' X' T'; dsimp only; k_fold)
  k_steps
  all_goals (refine hret _ _ _ [_] (by k_asm) (by first | k_asm | exact drop1 (by k_asm) | exact drop2 (by k_asm) | exact drop3 (by k_asm)) ⟨_, _, _, _, rfl, rfl⟩)
  )) only [↓apart])
theorem con_gre4 (w : World) (J gy gm gd y m d Y D2 ep : Int) (a : Addr) (t z t1 t2 t3 : Tok) (K : Greg J gy gm gd) (G : Cop J y m d Y D2) : Con w 551 8 64 [.int 4 t, .ref a, .int ep z] (fun ns => (a, { cls := .type "tuple", data := .seq #[.int y t1, .int m t2, .int d t3] }) ∈ ns) (fun new v => ∃ a t1 t2 t3, new = [(a, { cls := .type "tuple", data := .seq #[.int gy t1, .int gm t2, .int gd t3] })] ∧ v = .ref a) := Apart.get (by simp (disch := k_dflt (
  unfold Con
  k_fill
  intro p loose mean mg mb dp un gd' cn cs a' ccd cl outer A₀ base h₀ L ma news s Q E B F X N T hk hpre hdp hun htk0 hret
  have hbk := G.back; have bm := G.bY; have by1 := G.by'; have bd := G.hd
  clear G
  (refine wpAny_call ?_; refine' code_def (binds := [(Str.ofString "way", Value.int 4 t), (Str.ofString "date_v", Value.ref a), (Str.ofString "epoch", Value.int ep z)]) B F X N T rfl rfl hk ?k6 ?k7 ?k8 ?k9 ?kB ?_ ?c2 ?c3 ?c4 ?c5; (case k6 => k_is); (case k7 => k_is); (case k8 => ktr_room); (case k9 => first | exact BindsTo.of_eq rfl | exact binds_K (by k_in) rfl (by k_is) rfl rfl rfl); (case kB => exact locs rfl); (case c2 => exact rfl); (case c3 => exact rfl); (case c4 => exact rfl); (case c5 => decide); intro g' L' h' FG' F' N' B' X' T'; dsimp only; k_fold)
  k_steps
  all_goals (refine hret _ _ _ [_] (by k_asm) (by first | k_asm | exact drop1 (by k_asm) | exact drop2 (by k_asm) | exact drop3 (by k_asm)) ⟨_, _, _, _, rfl, rfl⟩)
  )) only [↓apart])
theorem con_gre5 (w : World) (J gy gm gd r y m d ep : Int) (a : Addr) (t z t1 t2 t3 : Tok) (K : Greg J gy gm gd) (G : Ind J gy gm gd r y m d) : Con w 551 8 64 [.int 5 t, .ref a, .int ep z] (fun ns => (a, { cls := .type "tuple", data := .seq #[.int y t1, .int m t2, .int d t3] }) ∈ ns) (fun new v => ∃ a t1 t2 t3, new = [(a, { cls := .type "tuple", data := .seq #[.int gy t1, .int gm t2, .int gd t3] })] ∧ v = .ref a) := Apart.get (by simp (disch := k_dflt (
  unfold Con
  k_fill
  intro p loose mean mg mb dp un gd' cn cs a' ccd cl outer A₀ base h₀ L ma news s Q E B F X N T hk hpre hdp hun htk0 hret
  have hbk := G.back; have bm := G.bnd
  clear G
  (refine wpAny_call ?_; refine' code_def (binds := [(Str.ofString "way", Value.int 5 t), (Str.ofString "date_v", Value.ref a), (Str.ofString "epoch", Value.int ep z)]) B F X N T rfl rfl hk ?k6 ?k7 ?k8 ?k9 ?kB ?_ ?c2 ?c3 ?c4 ?c5; (case k6 => k_is); (case k7 => k_is); (case k8 => ktr_room); (case k9 => first | exact BindsTo.of_eq rfl | exact binds_K (by k_in) rfl (by k_is) rfl rfl rfl); (case kB => exact locs rfl); (case c2 => exact rfl); (case c3 => exact rfl); (case c4 => exact rfl); (case c5 => decide); intro g' L' h' FG' F' N' B' X' T'; dsimp only; k_fold)
  k_steps
  all_goals (refine hret _ _ _ [_] (by k_asm) (by first | k_asm | exact drop1 (by k_asm) | exact drop2 (by k_asm) | exact drop3 (by k_asm)) ⟨_, _, _, _, rfl, rfl⟩)
  )) only [↓apart])
theorem con_gre6 (w : World) (J y m d ep : Int) (a : Addr) (t z t1 t2 : Tok) (G : Greg J y m d) : Con w 551 8 64 [.int 6 t, .ref a, .int ep z] (fun ns => (a, { cls := .type "tuple", data := .seq #[.int y t1, .int (doy y m d + 1) t2] }) ∈ ns) (fun new v => ∃ a t1 t2 t3, new = [(a, { cls := .type "tuple", data := .seq #[.int y t1, .int m t2, .int d t3] })] ∧ v = .ref a) := Apart.get (by simp (disch := k_dflt (
  unfold Con
  k_fill
  intro p loose mean mg mb dp un gd' cn cs a' ccd cl outer A₀ base h₀ L ma news s Q E B F X N T hk hpre hdp hun htk0 hret
  (refine wpAny_call ?_; refine' code_def (binds := [(Str.ofString "way", Value.int 6 t), (Str.ofString "date_v", Value.ref a), (Str.ofString "epoch", Value.int ep z)]) B F X N T rfl rfl hk ?k6 ?k7 ?k8 ?k9 ?kB ?_ ?c2 ?c3 ?c4 ?c5; (case k6 => k_is); (case k7 => k_is); (case k8 => ktr_room); (case k9 => first | exact BindsTo.of_eq rfl | exact binds_K (by k_in) rfl (by k_is) rfl rfl rfl); (case kB => exact locs rfl); (case c2 => exact rfl); (case c3 => exact rfl); (case c4 => exact rfl); (case c5 => decide); intro g' L' h' FG' F' N' B' X' T'; dsimp only; k_fold)
  k_steps
  all_goals (refine hret _ _ _ [_] (by k_asm) (by first | k_asm | exact drop1 (by k_asm) | exact drop2 (by k_asm) | exact drop3 (by k_asm)) ⟨_, _, _, _, rfl, rfl⟩)
  )) only [↓apart])
theorem con_gre8 (w : World) (J gy gm gd y m d E0 E1 E2 E3 ca c n yi y1 R ep : Int) (a : Addr) (t z t1 t2 t3 : Tok) (K : Greg J gy gm gd) (G : Pos J y m d E0 E1 E2 E3 ca c n yi y1 R) : Con w 551 8 64 [.int 8 t, .ref a, .int ep z] (fun ns => (a, { cls := .type "tuple", data := .seq #[.int y t1, .int m t2, .int d t3] }) ∈ ns) (fun new v => ∃ a t1 t2 t3, new = [(a, { cls := .type "tuple", data := .seq #[.int gy t1, .int gm t2, .int gd t3] })] ∧ v = .ref a) := Apart.get (by simp (disch := k_dflt (
  unfold Con
  k_fill
  intro p loose mean mg mb dp un gd' cn cs a' ccd cl outer A₀ base h₀ L ma news s Q E B F X N T hk hpre hdp hun htk0 hret
  have hbk := G.back; have bm := G.bnd
  clear G
  (refine wpAny_call ?_; refine' code_def (binds := [(Str.ofString "way", Value.int 8 t), (Str.ofString "date_v", Value.ref a), (Str.ofString "epoch", Value.int ep z)]) B F X N T rfl rfl hk ?k6 ?k7 ?k8 ?k9 ?kB ?_ ?c2 ?c3 ?c4 ?c5; (case k6 => k_is); (case k7 => k_is); (case k8 => ktr_room); (case k9 => first | exact BindsTo.of_eq rfl | exact binds_K (by k_in) rfl (by k_is) rfl rfl rfl); (case kB => exact locs rfl); (case c2 => exact rfl); (case c3 => exact rfl); (case c4 => exact rfl); (case c5 => decide); intro g' L' h' FG' F' N' B' X' T'; dsimp only; k_fold)
  k_steps
  all_goals (refine hret _ _ _ [_] (by k_asm) (by first | k_asm | exact drop1 (by k_asm) | exact drop2 (by k_asm) | exact drop3 (by k_asm)) ⟨_, _, _, _, rfl, rfl⟩)
  )) only [↓apart])
theorem con_gre9 (w : World) (J gy gm gd b k tt u n D0 D1 D2 D3 D4 ep : Int) (a : Addr) (t z t1 t2 t3 t4 t5 : Tok) (K : Greg J gy gm gd) (G : May J b k tt u n D0 D1 D2 D3 D4) : Con w 551 8 64 [.int 9 t, .ref a, .int ep z] (fun ns => (a, { cls := .type "tuple", data := .seq #[.int b t1, .int k t2, .int tt t3, .int u t4, .int n t5] }) ∈ ns) (fun new v => ∃ a t1 t2 t3, new = [(a, { cls := .type "tuple", data := .seq #[.int gy t1, .int gm t2, .int gd t3] })] ∧ v = .ref a) := Apart.get (by simp (disch := k_dflt (
  unfold Con
  k_fill
  intro p loose mean mg mb dp un gd' cn cs a' ccd cl outer A₀ base h₀ L ma news s Q E B F X N T hk hpre hdp hun htk0 hret
  have hbk := G.back; have bm := G.bnd
  clear G
  (refine wpAny_call ?_; refine' code_def (binds := [(Str.ofString "way", Value.int 9 t), (Str.ofString "date_v", Value.ref a), (Str.ofString "epoch", Value.int ep z)]) B F X N T rfl rfl hk ?k6 ?k7 ?k8 ?k9 ?kB ?_ ?c2 ?c3 ?c4 ?c5; (case k6 => k_is); (case k7 => k_is); (case k8 => ktr_room); (case k9 => first | exact BindsTo.of_eq rfl | exact binds_K (by k_in) rfl (by k_is) rfl rfl rfl); (case kB => exact locs rfl); (case c2 => exact rfl); (case c3 => exact rfl); (case c4 => exact rfl); (case c5 => decide); intro g' L' h' FG' F' N' B' X' T'; dsimp only; k_fold)
  k_steps
  all_goals (refine hret _ _ _ [_] (by k_asm) (by first | k_asm | exact drop1 (by k_asm) | exact drop2 (by k_asm) | exact drop3 (by k_asm)) ⟨_, _, _, _, rfl, rfl⟩)
  )) only [↓apart])
theorem con_gre10 (w : World) (J gy gm gd y m d D y0 m0 D2 ep : Int) (a : Addr) (t z t1 t2 t3 : Tok) (K : Greg J gy gm gd) (G : Arm J y m d D y0 m0 D2) : Con w 551 8 64 [.int 10 t, .ref a, .int ep z] (fun ns => (a, { cls := .type "tuple", data := .seq #[.int y t1, .int m t2, .int d t3] }) ∈ ns) (fun new v => ∃ a t1 t2 t3, new = [(a, { cls := .type "tuple", data := .seq #[.int gy t1, .int gm t2, .int gd t3] })] ∧ v = .ref a) := Apart.get (by simp (disch := k_dflt (
  unfold Con
  k_fill
  intro p loose mean mg mb dp un gd' cn cs a' ccd cl outer A₀ base h₀ L ma news s Q E B F X N T hk hpre hdp hun htk0 hret
  have hbk := G.back; have bm := G.bnd
  clear G
  (refine wpAny_call ?_; refine' code_def (binds := [(Str.ofString "way", Value.int 10 t), (Str.ofString "date_v", Value.ref a), (Str.ofString "epoch", Value.int ep z)]) B F X N T rfl rfl hk ?k6 ?k7 ?k8 ?k9 ?kB ?_ ?c2 ?c3 ?c4 ?c5; (case k6 => k_is); (case k7 => k_is); (case k8 => ktr_room); (case k9 => first | exact BindsTo.of_eq rfl | exact binds_K (by k_in) rfl (by k_is) rfl rfl rfl); (case kB => exact locs rfl); (case c2 => exact rfl); (case c3 => exact rfl); (case c4 => exact rfl); (case c5 => decide); intro g' L' h' FG' F' N' B' X' T'; dsimp only; k_fold)
  k_steps
  all_goals (refine hret _ _ _ [_] (by k_asm) (by first | k_asm | exact drop1 (by k_asm) | exact drop2 (by k_asm) | exact drop3 (by k_asm)) ⟨_, _, _, _, rfl, rfl⟩)
  )) only [↓apart])
theorem con_gre11 (w : World) (J gy gm gd y m d D y0 R m0 D2 yd ep : Int) (a : Addr) (t z t1 t2 t3 : Tok) (K : Greg J gy gm gd) (G : Sar J y m d D y0 R m0 D2 yd) : Con w 551 8 64 [.int 11 t, .ref a, .int ep z] (fun ns => (a, { cls := .type "tuple", data := .seq #[.int y t1, .int m t2, .int d t3] }) ∈ ns) (fun new v => ∃ a t1 t2 t3, new = [(a, { cls := .type "tuple", data := .seq #[.int gy t1, .int gm t2, .int gd t3] })] ∧ v = .ref a) := Apart.get (by simp (disch := k_dflt (
  unfold Con
  k_fill
  intro p loose mean mg mb dp un gd' cn cs a' ccd cl outer A₀ base h₀ L ma news s Q E B F X N T hk hpre hdp hun htk0 hret
  have hbk := G.back; have bm := G.bnd
  clear G
  (refine wpAny_call ?_; refine' code_def (binds := [(Str.ofString "way", Value.int 11 t), (Str.ofString "date_v", Value.ref a), (Str.ofString "epoch", Value.int ep z)]) B F X N T rfl rfl hk ?k6 ?k7 ?k8 ?k9 ?kB ?_ ?c2 ?c3 ?c4 ?c5; (case k6 => k_is); (case k7 => k_is); (case k8 => ktr_room); (case k9 => first | exact BindsTo.of_eq rfl | exact binds_K (by k_in) rfl (by k_is) rfl rfl rfl); (case kB => exact locs rfl); (case c2 => exact rfl); (case c3 => exact rfl); (case c4 => exact rfl); (case c5 => decide); intro g' L' h' FG' F' N' B' X' T'; dsimp only; k_fold)
  k_steps
  all_goals (refine hret _ _ _ [_] (by k_asm) (by first | k_asm | exact drop1 (by k_asm) | exact drop2 (by k_asm) | exact drop3 (by k_asm)) ⟨_, _, _, _, rfl, rfl⟩)
  )) only [↓apart])
theorem con_gre7 (w : World) (J gy gm gd wy wn wd ep : Int) (tk0 : Nat) (a : Addr) (t z : Tok) (K : Greg J gy gm gd) (hbk : wJ wy wn wd = J) (bm : (2 ≤ wy ∧ wy < 50000) ∧ (1 ≤ wn ∧ wn ≤ 100) ∧ (1 ≤ wd ∧ wd ≤ 7)) : Con w 551 8 64 [.int 7 t, .ref a, .int ep z] (fun ns => (a, isoObj (wy, wn, wd) tk0) ∈ ns) (fun new v => ∃ a t1 t2 t3, new = [(a, { cls := .type "tuple", data := .seq #[.int gy t1, .int gm t2, .int gd t3] })] ∧ v = .ref a) := Apart.get (by simp (disch := k_dflt (
  unfold Con
  k_fill
  intro p loose mean mg mb dp un gd' cn cs a' ccd cl outer A₀ base h₀ L ma news s Q E B F X N T hk hpre hdp hun htk0 hret
  (refine wpAny_call ?_; refine' code_def (binds := [(Str.ofString "way", Value.int 7 t), (Str.ofString "date_v", Value.ref a), (Str.ofString "epoch", Value.int ep z)]) B F X N T rfl rfl hk ?k6 ?k7 ?k8 ?k9 ?kB ?_ ?c2 ?c3 ?c4 ?c5; (case k6 => k_is); (case k7 => k_is); (case k8 => ktr_room); (case k9 => first | exact BindsTo.of_eq rfl | exact binds_K (by k_in) rfl (by k_is) rfl rfl rfl); (case kB => exact locs rfl); (case c2 => exact rfl); (case c3 => exact rfl); (case c4 => exact rfl); (case c5 => decide); intro g' L' h' FG' F' N' B' X' T'; dsimp only; k_fold)
  k_steps
  all_goals (refine hret _ _ _ [_] (by k_asm) (by first | k_asm | exact drop1 (by k_asm) | exact drop2 (by k_asm) | exact drop3 (by k_asm)) ⟨_, _, _, _, rfl, rfl⟩)
  )) only [↓apart])
theorem con_gre0 (w : World) (J gy gm gd ep : Int) (a : Addr) (t z t1 : Tok) (K : Greg J gy gm gd) : Con w 551 8 64 [.int 0 t, .ref a, .int ep z] (fun ns => (a, { cls := .type "tuple", data := .seq #[.float (H (2 * J + 1)) t1] }) ∈ ns) (fun new v => ∃ a t1 t2 t3, new = [(a, { cls := .type "tuple", data := .seq #[.int gy t1, .int gm t2, .int gd t3] })] ∧ v = .ref a) := Apart.get (by simp (disch := k_dflt (
  unfold Con
  k_fill
  intro p loose mean mg mb dp un gd' cn cs a' ccd cl outer A₀ base h₀ L ma news s Q E B F X N T hk hpre hdp hun htk0 hret
  (refine wpAny_call ?_; refine' code_def (binds := [(Str.ofString "way", Value.int 0 t), (Str.ofString "date_v", Value.ref a), (Str.ofString "epoch", Value.int ep z)]) B F X N T rfl rfl hk ?k6 ?k7 ?k8 ?k9 ?kB ?_ ?c2 ?c3 ?c4 ?c5; (case k6 => k_is); (case k7 => k_is); (case k8 => ktr_room); (case k9 => first | exact BindsTo.of_eq rfl | exact binds_K (by k_in) rfl (by k_is) rfl rfl rfl); (case kB => exact locs rfl); (case c2 => exact rfl); (case c3 => exact rfl); (case c4 => exact rfl); (case c5 => decide); intro g' L' h' FG' F' N' B' X' T'; dsimp only; k_fold)
  k_steps
  all_goals (refine hret _ _ _ [_] (by k_asm) (by first | k_asm | exact drop1 (by k_asm) | exact drop2 (by k_asm) | exact drop3 (by k_asm)) ⟨_, _, _, _, rfl, rfl⟩)
  )) only [↓apart])
theorem con_gre12 (w : World) (J gy gm gd ep : Int) (a : Addr) (t z t1 : Tok) (K : Greg J gy gm gd) (hb : (0 ≤ J ∧ J < 10000000) ∧ -100000000 < ep ∧ ep < 100000000) : Con w 551 8 64 [.int 12 t, .ref a, .int ep z] (fun ns => (a, { cls := .type "tuple", data := .seq #[.float (H (2 * J + 1 - 2 * ep)) t1] }) ∈ ns) (fun new v => ∃ a t1 t2 t3, new = [(a, { cls := .type "tuple", data := .seq #[.int gy t1, .int gm t2, .int gd t3] })] ∧ v = .ref a) := Apart.get (by simp (disch := k_dflt (
  unfold Con
  k_fill
  intro p loose mean mg mb dp un gd' cn cs a' ccd cl outer A₀ base h₀ L ma news s Q E B F X N T hk hpre hdp hun htk0 hret
  obtain ⟨hb1, hb2⟩ := hb
  (refine wpAny_call ?_; refine' code_def (binds := [(Str.ofString "way", Value.int 12 t), (Str.ofString "date_v", Value.ref a), (Str.ofString "epoch", Value.int ep z)]) B F X N T rfl rfl hk ?k6 ?k7 ?k8 ?k9 ?kB ?_ ?c2 ?c3 ?c4 ?c5; (case k6 => k_is); (case k7 => k_is); (case k8 => ktr_room); (case k9 => first | exact BindsTo.of_eq rfl | exact binds_K (by k_in) rfl (by k_is) rfl rfl rfl); (case kB => exact locs rfl); (case c2 => exact rfl); (case c3 => exact rfl); (case c4 => exact rfl); (case c5 => decide); intro g' L' h' FG' F' N' B' X' T'; dsimp only; k_fold)
  k_steps
  all_goals (refine hret _ _ _ [_] (by k_asm) (by first | k_asm | exact drop1 (by k_asm) | exact drop2 (by k_asm) | exact drop3 (by k_asm)) ⟨_, _, _, _, rfl, rfl⟩)
  )) only [↓apart])
theorem con_gre1 (w : World) (y m d ep : Int) (a : Addr) (t z t1 t2 t3 : Tok) : Con w 551 8 64 [.int 1 t, .ref a, .int ep z] (fun ns => (a, { cls := .type "tuple", data := .seq #[.int y t1, .int m t2, .int d t3] }) ∈ ns) (fun new v => ∃ a t1 t2 t3, new = [(a, { cls := .type "tuple", data := .seq #[.int y t1, .int m t2, .int d t3] })] ∧ v = .ref a) := Apart.get (by simp (disch := k_dflt (
  unfold Con
  k_fill
  intro p loose mean mg mb dp un gd' cn cs a' ccd cl outer A₀ base h₀ L ma news s Q E B F X N T hk hpre hdp hun htk0 hret
  (refine wpAny_call ?_; refine' code_def (binds := [(Str.ofString "way", Value.int 1 t), (Str.ofString "date_v", Value.ref a), (Str.ofString "epoch", Value.int ep z)]) B F X N T rfl rfl hk ?k6 ?k7 ?k8 ?k9 ?kB ?_ ?c2 ?c3 ?c4 ?c5; (case k6 => k_is); (case k7 => k_is); (case k8 => ktr_room); (case k9 => first | exact BindsTo.of_eq rfl | exact binds_K (by k_in) rfl (by k_is) rfl rfl rfl); (case kB => exact locs rfl); (case c2 => exact rfl); (case c3 => exact rfl); (case c4 => exact rfl); (case c5 => decide); intro g' L' h' FG' F' N' B' X' T'; dsimp only; k_fold)
  k_steps
  all_goals (refine hret _ _ _ [(a, { cls := .type "tuple", data := .seq #[.int y t1, .int m t2, .int d t3] })] (by k_asm) (news_again hpre (by k_asm)) ⟨_, _, _, _, rfl, rfl⟩)
  )) only [↓apart])
end
section
local macro_rules | `(tactic| kxt_pos) => `(tactic| (k_here; (with_reducible show wpAny _ _ (call (Value.ref 102) [Value.int _ _]) _ _ _); k_dflt (refine' Con.use (con_isleap _ _ _ _) ?k1 ?k2 ?k3 ?k4 ?k5 ?kK ?kp ?kd ?ku ?k0 ?_; (case k1 => k_asm); (case k2 => k_asm); (case k3 => k_asm); (case k4 => k_asm); (case k5 => k_asm); (case kK => first | exact rfl | assumption); (case kp => first | assumption | exact rfl); (case kd => ktr_room); (case ku => ktr_units); (case k0 => (dsimp only; omega))); intro v9 h9 tk9 new9 le9 F9 N9 p9; (try dsimp only at le9); obtain ⟨e9, e8⟩ := p9; subst e9 e8; (try simp only [List.nil_append, List.cons_append] at N9); (try dsimp only); (try k_sweep); (try k_fold)))
local macro_rules | `(tactic| kxt_pos) => `(tactic| (k_here; (with_reducible show wpAny _ _ (call (Value.ref 109) [Value.int _ _, Value.int _ _, Value.int _ _]) _ _ _); k_dflt (refine' Con.use (con_legal _ _ _ _ _ _ _) ?k1 ?k2 ?k3 ?k4 ?k5 ?kK ?kp ?kd ?ku ?k0 ?_; (case k1 => k_asm); (case k2 => k_asm); (case k3 => k_asm); (case k4 => k_asm); (case k5 => k_asm); (case kK => first | exact rfl | assumption); (case kp => first | assumption | omega); (case kd => ktr_room); (case ku => ktr_units); (case k0 => (dsimp only; omega))); intro v9 h9 tk9 new9 le9 F9 N9 p9; (try dsimp only at le9); obtain ⟨e9, e8⟩ := p9; subst e9 e8; (try simp only [List.nil_append, List.cons_append] at N9); (try dsimp only); (try k_sweep); (try k_fold)))
local macro_rules | `(tactic| kxt_pos) => `(tactic| (k_here; (with_reducible show wpAny _ _ (call (Value.ref 116) [Value.int _ _, Value.int _ _, Value.int _ _]) _ _ _); k_dflt (refine' Con.use (con_tojd _ _ _ _ _ _ _) ?k1 ?k2 ?k3 ?k4 ?k5 ?kK ?kp ?kd ?ku ?k0 ?_; (case k1 => k_asm); (case k2 => k_asm); (case k3 => k_asm); (case k4 => k_asm); (case k5 => k_asm); (case kK => first | exact rfl | assumption); (case kp => first | ((refine tojd_pre ?_ ?_ ?_) <;> omega) | omega); (case kd => ktr_room); (case ku => ktr_units); (case k0 => (dsimp only; omega))); intro v9 h9 tk9 new9 le9 F9 N9 p9; (try dsimp only at le9); obtain ⟨e9, b9, t9, n9, e8⟩ := p9; subst e9 e8; (try simp only [List.nil_append, List.cons_append] at N9); (try dsimp only); (try k_sweep); (try k_fold)))
local macro_rules | `(tactic| kxt_pos) => `(tactic| (k_here; (with_reducible show wpAny _ _ (call (Value.ref 488) [Value.int _ _, Value.int _ _, Value.int _ _]) _ _ _); k_dflt (refine' Con.use (con_fromgo _ _ _ _ _ _ _) ?k1 ?k2 ?k3 ?k4 ?k5 ?kK ?kp ?kd ?ku ?k0 ?_; (case k1 => k_asm); (case k2 => k_asm); (case k3 => k_asm); (case k4 => k_asm); (case k5 => k_asm); (case kK => first | exact rfl | assumption); (case kp => first | ((refine ⟨?_, ?_, ?_, mlen_ge _ _ _ ?_⟩) <;> omega) | omega); (case kd => ktr_room); (case ku => ktr_units); (case k0 => (dsimp only; omega))); intro v9 h9 tk9 new9 le9 F9 N9 p9; (try dsimp only at le9); obtain ⟨a9, t9, u9, e9, e8⟩ := p9; subst e9 e8; (try simp only [List.nil_append, List.cons_append] at N9); (try dsimp only); (try k_sweep); (try k_fold)))
local macro_rules | `(tactic| kxt_pos) => `(tactic| (k_here; (with_reducible show wpAny _ _ (call (Value.ref 481) [Value.float (H (2 * _ + 1)) _]) _ _ _); k_dflt (refine' Con.use (con_fromjdo _ _ _ _ _ _ (by assumption)) ?k1 ?k2 ?k3 ?k4 ?k5 ?kK ?kp ?kd ?ku ?k0 ?_; (case k1 => k_asm); (case k2 => k_asm); (case k3 => k_asm); (case k4 => k_asm); (case k5 => k_asm); (case kK => first | exact rfl | assumption); (case kp => trivial); (case kd => ktr_room); (case ku => ktr_units); (case k0 => (dsimp only; omega))); intro v9 h9 tk9 new9 le9 F9 N9 p9; (try dsimp only at le9); obtain ⟨a9, t9, u9, e9, e8⟩ := p9; subst e9 e8; (try simp only [List.nil_append, List.cons_append] at N9); (try dsimp only); (try k_sweep); (try k_fold)))
local macro_rules | `(tactic| kxt_pos) => `(tactic| (k_here; (with_reducible show wpAny _ _ (call (Value.ref 474) [Value.int _ _, Value.int _ _]) _ _ _); k_dflt (refine' Con.use (con_tojdo _ _ _ _ _) ?k1 ?k2 ?k3 ?k4 ?k5 ?kK ?kp ?kd ?ku ?k0 ?_; (case k1 => k_asm); (case k2 => k_asm); (case k3 => k_asm); (case k4 => k_asm); (case k5 => k_asm); (case kK => first | exact rfl | assumption); (case kp => first | assumption | omega); (case kd => ktr_room); (case ku => ktr_units); (case k0 => (dsimp only; omega))); intro v9 h9 tk9 new9 le9 F9 N9 p9; (try dsimp only at le9); obtain ⟨e9, t9, n9, e8⟩ := p9; subst e9 e8; (try simp only [List.nil_append, List.cons_append] at N9); (try dsimp only); (try k_sweep); (try k_fold)))
local macro_rules | `(tactic| kxt_pos) => `(tactic| (k_here; (with_reducible show wpAny _ _ (call (Value.ref 495) [Value.int _ _, Value.int (doy _ _ _ + 1) _]) _ _ _); k_dflt (refine' Con.use (con_togo _ _ _ _ _ _ _ (by assumption)) ?k1 ?k2 ?k3 ?k4 ?k5 ?kK ?kp ?kd ?ku ?k0 ?_; (case k1 => k_asm); (case k2 => k_asm); (case k3 => k_asm); (case k4 => k_asm); (case k5 => k_asm); (case kK => first | exact rfl | assumption); (case kp => trivial); (case kd => ktr_room); (case ku => ktr_units); (case k0 => (dsimp only; omega))); intro v9 h9 tk9 new9 le9 F9 N9 p9; (try dsimp only at le9); obtain ⟨a9, t9, u9, v9, e9, e8⟩ := p9; subst e9 e8; (try simp only [List.nil_append, List.cons_append] at N9); (try dsimp only); (try k_sweep); (try k_fold)))
local macro_rules | `(tactic| kxt_pos) => `(tactic| (k_here; (with_reducible show wpAny _ _ (call (Value.ref 404) [Value.int _ _, Value.int _ _, Value.int _ _]) _ _ _); k_dflt (refine' Con.use (con_fromgw _ _ _ _ _ _ _) ?k1 ?k2 ?k3 ?k4 ?k5 ?kK ?kp ?kd ?ku ?k0 ?_; (case k1 => k_asm); (case k2 => k_asm); (case k3 => k_asm); (case k4 => k_asm); (case k5 => k_asm); (case kK => first | exact rfl | assumption); (case kp => first | assumption | omega); (case kd => ktr_room); (case ku => ktr_units); (case k0 => (dsimp only; omega))); intro v9 h9 tk9 new9 le9 F9 N9 p9; (try dsimp only at le9); obtain ⟨a9, t9, e9, e8⟩ := p9; subst e9 e8; (try simp only [List.nil_append, List.cons_append] at N9); (try dsimp only); (try k_sweep); (try k_fold)))
local macro_rules | `(tactic| k_room) => `(tactic| ktr_room)
local macro_rules | `(tactic| k_mem) => `(tactic| first | (refine List.mem_cons_of_mem _ ?_; assumption) | (refine List.mem_cons_of_mem _ (List.mem_cons_of_mem _ ?_); assumption) | (refine List.mem_cons_of_mem _ (List.mem_cons_of_mem _ (List.mem_cons_of_mem _ ?_)); assumption))
local macro_rules | `(tactic| kxt_pos) => `(tactic| (k_here; (with_reducible show wpAny _ _ (call (Value.ref 152) [Value.float _ _]) _ _ _); k_dflt (refine' Con.use (con_fromjdjE _ _ _ _ _ _ _ _ _ _ _ (by assumption) _ (by first | rfl | assumption | omega) _) ?k1 ?k2 ?k3 ?k4 ?k5 ?kK ?kp ?kd ?ku ?k0 ?_; (case k1 => k_asm); (case k2 => k_asm); (case k3 => k_asm); (case k4 => k_asm); (case k5 => k_asm); (case kK => first | exact rfl | assumption); (case kp => trivial); (case kd => ktr_room); (case ku => ktr_units); (case k0 => (dsimp only; omega))); intro v9 h9 tk9 new9 le9 F9 N9 p9; (try dsimp only at le9); obtain ⟨a9, t9, u9, v9, e9, e8⟩ := p9; subst e9 e8; (try simp only [List.nil_append, List.cons_append] at N9); (try dsimp only); (try k_sweep); (try k_fold)))
local macro_rules | `(tactic| kxt_pos) => `(tactic| (k_here; (with_reducible show wpAny _ _ (call (Value.ref 313) [Value.float _ _]) _ _ _); k_dflt (refine' Con.use (con_fromjdcE _ _ _ _ _ _ _ (by assumption) _ (by first | rfl | assumption | omega) _) ?k1 ?k2 ?k3 ?k4 ?k5 ?kK ?kp ?kd ?ku ?k0 ?_; (case k1 => k_asm); (case k2 => k_asm); (case k3 => k_asm); (case k4 => k_asm); (case k5 => k_asm); (case kK => first | exact rfl | assumption); (case kp => trivial); (case kd => ktr_room); (case ku => ktr_units); (case k0 => (dsimp only; omega))); intro v9 h9 tk9 new9 le9 F9 N9 p9; (try dsimp only at le9); obtain ⟨a9, t9, u9, v9, e9, e8⟩ := p9; subst e9 e8; (try simp only [List.nil_append, List.cons_append] at N9); (try dsimp only); (try k_sweep); (try k_fold)))
local macro_rules | `(tactic| kxt_pos) => `(tactic| (k_here; (with_reducible show wpAny _ _ (call (Value.ref 369) [Value.float _ _]) _ _ _); k_dflt (refine' Con.use (con_fromjdiE _ _ _ _ _ (by assumption) _ (by first | rfl | assumption | omega) _) ?k1 ?k2 ?k3 ?k4 ?k5 ?kK ?kp ?kd ?ku ?k0 ?_; (case k1 => k_asm); (case k2 => k_asm); (case k3 => k_asm); (case k4 => k_asm); (case k5 => k_asm); (case kK => first | exact rfl | assumption); (case kp => trivial); (case kd => ktr_room); (case ku => ktr_units); (case k0 => (dsimp only; omega))); intro v9 h9 tk9 new9 le9 F9 N9 p9; (try dsimp only at le9); obtain ⟨a9, t9, u9, v9, e9, e8⟩ := p9; subst e9 e8; (try simp only [List.nil_append, List.cons_append] at N9); (try dsimp only); (try k_sweep); (try k_fold)))
local macro_rules | `(tactic| kxt_pos) => `(tactic| (k_here; (with_reducible show wpAny _ _ (call (Value.ref 341) [Value.float _ _]) _ _ _); k_dflt (refine' Con.use (con_fromjdnE _ _ _ _ _ _ _ _ _ (by assumption) _ (by first | rfl | assumption | omega) _) ?k1 ?k2 ?k3 ?k4 ?k5 ?kK ?kp ?kd ?ku ?k0 ?_; (case k1 => k_asm); (case k2 => k_asm); (case k3 => k_asm); (case k4 => k_asm); (case k5 => k_asm); (case kK => first | exact rfl | assumption); (case kp => trivial); (case kd => ktr_room); (case ku => ktr_units); (case k0 => (dsimp only; omega))); intro v9 h9 tk9 new9 le9 F9 N9 p9; (try dsimp only at le9); obtain ⟨a9, t9, u9, v9, e9, e8⟩ := p9; subst e9 e8; (try simp only [List.nil_append, List.cons_append] at N9); (try dsimp only); (try k_sweep); (try k_fold)))
local macro_rules | `(tactic| kxt_pos) => `(tactic| (k_here; (with_reducible show wpAny _ _ (call (Value.ref 516) [Value.float _ _]) _ _ _); k_dflt (refine' Con.use (con_fromjdpE _ _ _ _ _ _ _ _ _ _ _ _ _ _ _ (by assumption) _ (by first | rfl | assumption | omega) _) ?k1 ?k2 ?k3 ?k4 ?k5 ?kK ?kp ?kd ?ku ?k0 ?_; (case k1 => k_asm); (case k2 => k_asm); (case k3 => k_asm); (case k4 => k_asm); (case k5 => k_asm); (case kK => first | exact rfl | assumption); (case kp => trivial); (case kd => ktr_room); (case ku => ktr_units); (case k0 => (dsimp only; omega))); intro v9 h9 tk9 new9 le9 F9 N9 p9; (try dsimp only at le9); obtain ⟨a9, t9, u9, v9, e9, e8⟩ := p9; subst e9 e8; (try simp only [List.nil_append, List.cons_append] at N9); (try dsimp only); (try k_sweep); (try k_fold)))
local macro_rules | `(tactic| kxt_pos) => `(tactic| (k_here; (with_reducible show wpAny _ _ (call (Value.ref 453) [Value.float _ _]) _ _ _); k_dflt (refine' Con.use (con_fromjdmE _ _ _ _ _ _ _ _ _ _ _ _ (by assumption) _ (by first | rfl | assumption | omega) _) ?k1 ?k2 ?k3 ?k4 ?k5 ?kK ?kp ?kd ?ku ?k0 ?_; (case k1 => k_asm); (case k2 => k_asm); (case k3 => k_asm); (case k4 => k_asm); (case k5 => k_asm); (case kK => first | exact rfl | assumption); (case kp => trivial); (case kd => ktr_room); (case ku => ktr_units); (case k0 => (dsimp only; omega))); intro v9 h9 tk9 new9 le9 F9 N9 p9; (try dsimp only at le9); obtain ⟨a9, t9, u9, v9, w9, x9, e9, e8⟩ := p9; subst e9 e8; (try simp only [List.nil_append, List.cons_append] at N9); (try dsimp only); (try k_sweep); (try k_fold)))
local macro_rules | `(tactic| kxt_pos) => `(tactic| (k_here; (with_reducible show wpAny _ _ (call (Value.ref 267) [Value.float _ _, Value.none]) _ _ _); k_dflt (refine' Con.use (con_fromjdaE _ _ _ _ _ _ _ _ _ (by assumption) _ (by first | rfl | assumption | omega) _) ?k1 ?k2 ?k3 ?k4 ?k5 ?kK ?kp ?kd ?ku ?k0 ?_; (case k1 => k_asm); (case k2 => k_asm); (case k3 => k_asm); (case k4 => k_asm); (case k5 => k_asm); (case kK => first | exact rfl | assumption); (case kp => trivial); (case kd => ktr_room); (case ku => ktr_units); (case k0 => (dsimp only; omega))); intro v9 h9 tk9 new9 le9 F9 N9 p9; (try dsimp only at le9); obtain ⟨a9, t9, u9, v9, e9, e8⟩ := p9; subst e9 e8; (try simp only [List.nil_append, List.cons_append] at N9); (try dsimp only); (try k_sweep); (try k_fold)))
local macro_rules | `(tactic| kxt_pos) => `(tactic| (k_here; (with_reducible show wpAny _ _ (call (Value.ref 267) [Value.float _ _]) _ _ _); k_dflt (refine' Con.use (con_fromjda1E _ _ _ _ _ _ _ _ _ (by assumption) _ (by first | rfl | assumption | omega) _) ?k1 ?k2 ?k3 ?k4 ?k5 ?kK ?kp ?kd ?ku ?k0 ?_; (case k1 => k_asm); (case k2 => k_asm); (case k3 => k_asm); (case k4 => k_asm); (case k5 => k_asm); (case kK => first | exact rfl | assumption); (case kp => trivial); (case kd => ktr_room); (case ku => ktr_units); (case k0 => (dsimp only; omega))); intro v9 h9 tk9 new9 le9 F9 N9 p9; (try dsimp only at le9); obtain ⟨a9, t9, u9, v9, e9, e8⟩ := p9; subst e9 e8; (try simp only [List.nil_append, List.cons_append] at N9); (try dsimp only); (try k_sweep); (try k_fold)))
local macro_rules | `(tactic| kxt_pos) => `(tactic| (k_here; (with_reducible show wpAny _ _ (call (Value.ref 267) [Value.float _ _, Value.str _ _]) _ _ _); k_dflt (refine' Con.use (con_fromjdsE _ _ _ _ _ _ _ _ _ _ _ (by assumption) _ (by first | rfl | assumption | omega) _ _) ?k1 ?k2 ?k3 ?k4 ?k5 ?kK ?kp ?kd ?ku ?k0 ?_; (case k1 => k_asm); (case k2 => k_asm); (case k3 => k_asm); (case k4 => k_asm); (case k5 => k_asm); (case kK => first | exact rfl | assumption); (case kp => trivial); (case kd => ktr_room); (case ku => ktr_units); (case k0 => (dsimp only; omega))); intro v9 h9 tk9 new9 le9 F9 N9 p9; (try dsimp only at le9); obtain ⟨a9, t9, u9, v9, e9, e8⟩ := p9; subst e9 e8; (try simp only [List.nil_append, List.cons_append] at N9); (try dsimp only); (try k_sweep); (try k_fold)))
local macro_rules | `(tactic| kxt_pos) => `(tactic| (k_here; (with_reducible show wpAny _ _ (call (Value.ref 481) [Value.float _ _]) _ _ _); k_dflt (refine' Con.use (con_fromjdoE _ _ _ _ _ (by assumption) _ (by first | rfl | assumption | omega) _) ?k1 ?k2 ?k3 ?k4 ?k5 ?kK ?kp ?kd ?ku ?k0 ?_; (case k1 => k_asm); (case k2 => k_asm); (case k3 => k_asm); (case k4 => k_asm); (case k5 => k_asm); (case kK => first | exact rfl | assumption); (case kp => trivial); (case kd => ktr_room); (case ku => ktr_units); (case k0 => (dsimp only; omega))); intro v9 h9 tk9 new9 le9 F9 N9 p9; (try dsimp only at le9); obtain ⟨a9, t9, u9, e9, e8⟩ := p9; subst e9 e8; (try simp only [List.nil_append, List.cons_append] at N9); (try dsimp only); (try k_sweep); (try k_fold)))
local macro_rules | `(tactic| kxt_pos) => `(tactic| (k_here; (with_reducible show wpAny _ _ (call (Value.ref 397) [Value.float _ _]) _ _ _); k_dflt (refine' Con.use (con_fromjdwE _ _ _ _ _ (by assumption) (by assumption) _ (by first | rfl | assumption | omega) _) ?k1 ?k2 ?k3 ?k4 ?k5 ?kK ?kp ?kd ?ku ?k0 ?_; (case k1 => k_asm); (case k2 => k_asm); (case k3 => k_asm); (case k4 => k_asm); (case k5 => k_asm); (case kK => first | exact rfl | assumption); (case kp => trivial); (case kd => ktr_room); (case ku => ktr_units); (case k0 => (dsimp only; omega))); intro v9 h9 tk9 new9 le9 F9 N9 p9; (try dsimp only at le9); obtain ⟨a9, t9, e9, e8⟩ := p9; subst e9 e8; (try simp only [List.nil_append, List.cons_append] at N9); (try dsimp only); (try k_sweep); (try k_fold)))
theorem con_bac2 (w : World) (J gy gm gd y m d W aa b c dd e ep : Int) (a : Addr) (t z u1 u2 u3 : Tok) (K : Greg J gy gm gd) (G : Jul J y m d W aa b c dd e) : Con w 558 8 64 [.int 2 t, .ref a, .int ep z] (fun ns => (a, { cls := .type "tuple", data := .seq #[.int gy u1, .int gm u2, .int gd u3] }) ∈ ns) (fun new v => ∃ a t1 t2 t3, new = [(a, { cls := .type "tuple", data := .seq #[.int y t1, .int m t2, .int d t3] })] ∧ v = .ref a) := Apart.get (by simp (disch := k_dflt (
  unfold Con
  k_fill
  intro p loose mean mg mb dp un gd' cn cs a' ccd cl outer A₀ base h₀ L ma news s Q E B F X N T hk hpre hdp hun htk0 hret
  have hgb : (1 ≤ gy ∧ gy < 20000) ∧ (1 ≤ gm ∧ gm ≤ 12) ∧ 0 < gd ∧ gd ≤ mlen gy gm := ⟨⟨K.y1, K.y2⟩, ⟨K.m1, K.m2⟩, K.d1, K.d2⟩
  have heq := K.eq
  (refine wpAny_call ?_; refine' code_def (binds := [(Str.ofString "way", Value.int 2 t), (Str.ofString "date_v", Value.ref a), (Str.ofString "epoch", Value.int ep z)]) B F X N T rfl rfl hk ?k6 ?k7 ?k8 ?k9 ?kB ?_ ?c2 ?c3 ?c4 ?c5; (case k6 => k_is); (case k7 => k_is); (case k8 => ktr_room); (case k9 => first | exact BindsTo.of_eq rfl | exact binds_K (by k_in) rfl (by k_is) rfl rfl rfl); (case kB => exact locs rfl); (case c2 => exact rfl); (case c3 => exact rfl); (case c4 => exact rfl); (case c5 => decide); intro g' L' h' FG' F' N' B' X' T'; dsimp only; k_fold)
  k_steps
  all_goals (refine hret _ _ _ [_] (by k_asm) (by first | k_asm | exact drop1 (by k_asm) | exact drop2 (by k_asm) | exact drop3 (by k_asm)) ⟨_, _, _, _, rfl, rfl⟩)
  )) only [↓apart])
theorem con_bac3 (w : World) (J gy gm gd y m d ep : Int) (a : Addr) (t z u1 u2 u3 : Tok) (K : Greg J gy gm gd) (G : Isl J y m d) : Con w 558 8 64 [.int 3 t, .ref a, .int ep z] (fun ns => (a, { cls := .type "tuple", data := .seq #[.int gy u1, .int gm u2, .int gd u3] }) ∈ ns) (fun new v => ∃ a t1 t2 t3, new = [(a, { cls := .type "tuple", data := .seq #[.int y t1, .int m t2, .int d t3] })] ∧ v = .ref a) := Apart.get (by simp (disch := k_dflt (
  unfold Con
  k_fill
  intro p loose mean mg mb dp un gd' cn cs a' ccd cl outer A₀ base h₀ L ma news s Q E B F X N T hk hpre hdp hun htk0 hret
  have hgb : (1 ≤ gy ∧ gy < 20000) ∧ (1 ≤ gm ∧ gm ≤ 12) ∧ 0 < gd ∧ gd ≤ mlen gy gm := ⟨⟨K.y1, K.y2⟩, ⟨K.m1, K.m2⟩, K.d1, K.d2⟩
  have heq := K.eq
  (refine wpAny_call ?_; refine' code_def (binds := [(Str.ofString "way", Value.int 3 t), (Str.ofString "date_v", Value.ref a), (Str.ofString "epoch", Value.int ep z)]) B F X N T rfl rfl hk ?k6 ?k7 ?k8 ?k9 ?kB ?_ ?c2 ?c3 ?c4 ?c5; (case k6 => k_is); (case k7 => k_is); (case k8 => ktr_room); (case k9 => first | exact BindsTo.of_eq rfl | exact binds_K (by k_in) rfl (by k_is) rfl rfl rfl); (case kB => exact locs rfl); (case c2 => exact rfl); (case c3 => exact rfl); (case c4 => exact rfl); (case c5 => decide); intro g' L' h' FG' F' N' B' X' T'; dsimp only; k_fold)
  k_steps
  all_goals (refine hret _ _ _ [_] (by k_asm) (by first | k_asm | exact drop1 (by k_asm) | exact drop2 (by k_asm) | exact drop3 (by k_asm)) ⟨_, _, _, _, rfl, rfl⟩)
  )) only [↓apart])
theorem con_bac4 (w : World) (J gy gm gd y m d Y D2 ep : Int) (a : Addr) (t z u1 u2 u3 : Tok) (K : Greg J gy gm gd) (G : Cop J y m d Y D2) : Con w 558 8 64 [.int 4 t, .ref a, .int ep z] (fun ns => (a, { cls := .type "tuple", data := .seq #[.int gy u1, .int gm u2, .int gd u3] }) ∈ ns) (fun new v => ∃ a t1 t2 t3, new = [(a, { cls := .type "tuple", data := .seq #[.int y t1, .int m t2, .int d t3] })] ∧ v = .ref a) := Apart.get (by simp (disch := k_dflt (
  unfold Con
  k_fill
  intro p loose mean mg mb dp un gd' cn cs a' ccd cl outer A₀ base h₀ L ma news s Q E B F X N T hk hpre hdp hun htk0 hret
  have hgb : (1 ≤ gy ∧ gy < 20000) ∧ (1 ≤ gm ∧ gm ≤ 12) ∧ 0 < gd ∧ gd ≤ mlen gy gm := ⟨⟨K.y1, K.y2⟩, ⟨K.m1, K.m2⟩, K.d1, K.d2⟩
  have heq := K.eq
  (refine wpAny_call ?_; refine' code_def (binds := [(Str.ofString "way", Value.int 4 t), (Str.ofString "date_v", Value.ref a), (Str.ofString "epoch", Value.int ep z)]) B F X N T rfl rfl hk ?k6 ?k7 ?k8 ?k9 ?kB ?_ ?c2 ?c3 ?c4 ?c5; (case k6 => k_is); (case k7 => k_is); (case k8 => ktr_room); (case k9 => first | exact BindsTo.of_eq rfl | exact binds_K (by k_in) rfl (by k_is) rfl rfl rfl); (case kB => exact locs rfl); (case c2 => exact rfl); (case c3 => exact rfl); (case c4 => exact rfl); (case c5 => decide); intro g' L' h' FG' F' N' B' X' T'; dsimp only; k_fold)
  k_steps
  all_goals (refine hret _ _ _ [_] (by k_asm) (by first | k_asm | exact drop1 (by k_asm) | exact drop2 (by k_asm) | exact drop3 (by k_asm)) ⟨_, _, _, _, rfl, rfl⟩)
  )) only [↓apart])
theorem con_bac5 (w : World) (J gy gm gd r y m d ep : Int) (a : Addr) (t z u1 u2 u3 : Tok) (K : Greg J gy gm gd) (G : Ind J gy gm gd r y m d) : Con w 558 8 64 [.int 5 t, .ref a, .int ep z] (fun ns => (a, { cls := .type "tuple", data := .seq #[.int gy u1, .int gm u2, .int gd u3] }) ∈ ns) (fun new v => ∃ a t1 t2 t3, new = [(a, { cls := .type "tuple", data := .seq #[.int y t1, .int m t2, .int d t3] })] ∧ v = .ref a) := Apart.get (by simp (disch := k_dflt (
  unfold Con
  k_fill
  intro p loose mean mg mb dp un gd' cn cs a' ccd cl outer A₀ base h₀ L ma news s Q E B F X N T hk hpre hdp hun htk0 hret
  have hgb : (1 ≤ gy ∧ gy < 20000) ∧ (1 ≤ gm ∧ gm ≤ 12) ∧ 0 < gd ∧ gd ≤ mlen gy gm := ⟨⟨K.y1, K.y2⟩, ⟨K.m1, K.m2⟩, K.d1, K.d2⟩
  have heq := K.eq
  (refine wpAny_call ?_; refine' code_def (binds := [(Str.ofString "way", Value.int 5 t), (Str.ofString "date_v", Value.ref a), (Str.ofString "epoch", Value.int ep z)]) B F X N T rfl rfl hk ?k6 ?k7 ?k8 ?k9 ?kB ?_ ?c2 ?c3 ?c4 ?c5; (case k6 => k_is); (case k7 => k_is); (case k8 => ktr_room); (case k9 => first | exact BindsTo.of_eq rfl | exact binds_K (by k_in) rfl (by k_is) rfl rfl rfl); (case kB => exact locs rfl); (case c2 => exact rfl); (case c3 => exact rfl); (case c4 => exact rfl); (case c5 => decide); intro g' L' h' FG' F' N' B' X' T'; dsimp only; k_fold)
  k_steps
  all_goals (refine hret _ _ _ [_] (by k_asm) (by first | k_asm | exact drop1 (by k_asm) | exact drop2 (by k_asm) | exact drop3 (by k_asm)) ⟨_, _, _, _, rfl, rfl⟩)
  )) only [↓apart])
theorem con_bac8 (w : World) (J gy gm gd y m d E0 E1 E2 E3 ca c n yi y1 R ep : Int) (a : Addr) (t z u1 u2 u3 : Tok) (K : Greg J gy gm gd) (G : Pos J y m d E0 E1 E2 E3 ca c n yi y1 R) : Con w 558 8 64 [.int 8 t, .ref a, .int ep z] (fun ns => (a, { cls := .type "tuple", data := .seq #[.int gy u1, .int gm u2, .int gd u3] }) ∈ ns) (fun new v => ∃ a t1 t2 t3, new = [(a, { cls := .type "tuple", data := .seq #[.int y t1, .int m t2, .int d t3] })] ∧ v = .ref a) := Apart.get (by simp (disch := k_dflt (
  unfold Con
  k_fill
  intro p loose mean mg mb dp un gd' cn cs a' ccd cl outer A₀ base h₀ L ma news s Q E B F X N T hk hpre hdp hun htk0 hret
  have hgb : (1 ≤ gy ∧ gy < 20000) ∧ (1 ≤ gm ∧ gm ≤ 12) ∧ 0 < gd ∧ gd ≤ mlen gy gm := ⟨⟨K.y1, K.y2⟩, ⟨K.m1, K.m2⟩, K.d1, K.d2⟩
  have heq := K.eq
  (refine wpAny_call ?_; refine' code_def (binds := [(Str.ofString "way", Value.int 8 t), (Str.ofString "date_v", Value.ref a), (Str.ofString "epoch", Value.int ep z)]) B F X N T rfl rfl hk ?k6 ?k7 ?k8 ?k9 ?kB ?_ ?c2 ?c3 ?c4 ?c5; (case k6 => k_is); (case k7 => k_is); (case k8 => ktr_room); (case k9 => first | exact BindsTo.of_eq rfl | exact binds_K (by k_in) rfl (by k_is) rfl rfl rfl); (case kB => exact locs rfl); (case c2 => exact rfl); (case c3 => exact rfl); (case c4 => exact rfl); (case c5 => decide); intro g' L' h' FG' F' N' B' X' T'; dsimp only; k_fold)
  k_steps
  all_goals (refine hret _ _ _ [_] (by k_asm) (by first | k_asm | exact drop1 (by k_asm) | exact drop2 (by k_asm) | exact drop3 (by k_asm)) ⟨_, _, _, _, rfl, rfl⟩)
  )) only [↓apart])
theorem con_bac9 (w : World) (J gy gm gd b k tt u n D0 D1 D2 D3 D4 ep : Int) (a : Addr) (t z u1 u2 u3 : Tok) (K : Greg J gy gm gd) (G : May J b k tt u n D0 D1 D2 D3 D4) : Con w 558 8 64 [.int 9 t, .ref a, .int ep z] (fun ns => (a, { cls := .type "tuple", data := .seq #[.int gy u1, .int gm u2, .int gd u3] }) ∈ ns) (fun new v => ∃ a t1 t2 t3 t4 t5, new = [(a, { cls := .type "tuple", data := .seq #[.int b t1, .int k t2, .int tt t3, .int u t4, .int n t5] })] ∧ v = .ref a) := Apart.get (by simp (disch := k_dflt (
  unfold Con
  k_fill
  intro p loose mean mg mb dp un gd' cn cs a' ccd cl outer A₀ base h₀ L ma news s Q E B F X N T hk hpre hdp hun htk0 hret
  have hgb : (1 ≤ gy ∧ gy < 20000) ∧ (1 ≤ gm ∧ gm ≤ 12) ∧ 0 < gd ∧ gd ≤ mlen gy gm := ⟨⟨K.y1, K.y2⟩, ⟨K.m1, K.m2⟩, K.d1, K.d2⟩
  have heq := K.eq
  (refine wpAny_call ?_; refine' code_def (binds := [(Str.ofString "way", Value.int 9 t), (Str.ofString "date_v", Value.ref a), (Str.ofString "epoch", Value.int ep z)]) B F X N T rfl rfl hk ?k6 ?k7 ?k8 ?k9 ?kB ?_ ?c2 ?c3 ?c4 ?c5; (case k6 => k_is); (case k7 => k_is); (case k8 => ktr_room); (case k9 => first | exact BindsTo.of_eq rfl | exact binds_K (by k_in) rfl (by k_is) rfl rfl rfl); (case kB => exact locs rfl); (case c2 => exact rfl); (case c3 => exact rfl); (case c4 => exact rfl); (case c5 => decide); intro g' L' h' FG' F' N' B' X' T'; dsimp only; k_fold)
  k_steps
  all_goals (refine hret _ _ _ [_] (by k_asm) (by first | k_asm | exact drop1 (by k_asm) | exact drop2 (by k_asm) | exact drop3 (by k_asm)) ⟨_, _, _, _, _, _, rfl, rfl⟩)
  )) only [↓apart])
theorem con_bac10 (w : World) (J gy gm gd y m d D y0 m0 D2 ep : Int) (a : Addr) (t z u1 u2 u3 : Tok) (K : Greg J gy gm gd) (G : Arm J y m d D y0 m0 D2) : Con w 558 8 64 [.int 10 t, .ref a, .int ep z] (fun ns => (a, { cls := .type "tuple", data := .seq #[.int gy u1, .int gm u2, .int gd u3] }) ∈ ns) (fun new v => ∃ a t1 t2 t3, new = [(a, { cls := .type "tuple", data := .seq #[.int y t1, .int m t2, .int d t3] })] ∧ v = .ref a) := Apart.get (by simp (disch := k_dflt (
  unfold Con
  k_fill
  intro p loose mean mg mb dp un gd' cn cs a' ccd cl outer A₀ base h₀ L ma news s Q E B F X N T hk hpre hdp hun htk0 hret
  have hgb : (1 ≤ gy ∧ gy < 20000) ∧ (1 ≤ gm ∧ gm ≤ 12) ∧ 0 < gd ∧ gd ≤ mlen gy gm := ⟨⟨K.y1, K.y2⟩, ⟨K.m1, K.m2⟩, K.d1, K.d2⟩
  have heq := K.eq
  (refine wpAny_call ?_; refine' code_def (binds := [(Str.ofString "way", Value.int 10 t), (Str.ofString "date_v", Value.ref a), (Str.ofString "epoch", Value.int ep z)]) B F X N T rfl rfl hk ?k6 ?k7 ?k8 ?k9 ?kB ?_ ?c2 ?c3 ?c4 ?c5; (case k6 => k_is); (case k7 => k_is); (case k8 => ktr_room); (case k9 => first | exact BindsTo.of_eq rfl | exact binds_K (by k_in) rfl (by k_is) rfl rfl rfl); (case kB => exact locs rfl); (case c2 => exact rfl); (case c3 => exact rfl); (case c4 => exact rfl); (case c5 => decide); intro g' L' h' FG' F' N' B' X' T'; dsimp only; k_fold)
  k_steps
  all_goals (refine hret _ _ _ [_] (by k_asm) (by first | k_asm | exact drop1 (by k_asm) | exact drop2 (by k_asm) | exact drop3 (by k_asm)) ⟨_, _, _, _, rfl, rfl⟩)
  )) only [↓apart])
theorem con_bac11 (w : World) (J gy gm gd y m d D y0 R m0 D2 yd ep : Int) (a : Addr) (t z u1 u2 u3 : Tok) (K : Greg J gy gm gd) (G : Sar J y m d D y0 R m0 D2 yd) : Con w 558 8 64 [.int 11 t, .ref a, .int ep z] (fun ns => (a, { cls := .type "tuple", data := .seq #[.int gy u1, .int gm u2, .int gd u3] }) ∈ ns) (fun new v => ∃ a t1 t2 t3, new = [(a, { cls := .type "tuple", data := .seq #[.int y t1, .int m t2, .int d t3] })] ∧ v = .ref a) := Apart.get (by simp (disch := k_dflt (
  unfold Con
  k_fill
  intro p loose mean mg mb dp un gd' cn cs a' ccd cl outer A₀ base h₀ L ma news s Q E B F X N T hk hpre hdp hun htk0 hret
  have hgb : (1 ≤ gy ∧ gy < 20000) ∧ (1 ≤ gm ∧ gm ≤ 12) ∧ 0 < gd ∧ gd ≤ mlen gy gm := ⟨⟨K.y1, K.y2⟩, ⟨K.m1, K.m2⟩, K.d1, K.d2⟩
  have heq := K.eq
  (refine wpAny_call ?_; refine' code_def (binds := [(Str.ofString "way", Value.int 11 t), (Str.ofString "date_v", Value.ref a), (Str.ofString "epoch", Value.int ep z)]) B F X N T rfl rfl hk ?k6 ?k7 ?k8 ?k9 ?kB ?_ ?c2 ?c3 ?c4 ?c5; (case k6 => k_is); (case k7 => k_is); (case k8 => ktr_room); (case k9 => first | exact BindsTo.of_eq rfl | exact binds_K (by k_in) rfl (by k_is) rfl rfl rfl); (case kB => exact locs rfl); (case c2 => exact rfl); (case c3 => exact rfl); (case c4 => exact rfl); (case c5 => decide); intro g' L' h' FG' F' N' B' X' T'; dsimp only; k_fold)
  k_steps
  all_goals (refine hret _ _ _ [_] (by k_asm) (by first | k_asm | exact drop1 (by k_asm) | exact drop2 (by k_asm) | exact drop3 (by k_asm)) ⟨_, _, _, _, rfl, rfl⟩)
  )) only [↓apart])
theorem con_bac6 (w : World) (J gy gm gd ep : Int) (a : Addr) (t z u1 u2 u3 : Tok) (K : Greg J gy gm gd) : Con w 558 8 64 [.int 6 t, .ref a, .int ep z] (fun ns => (a, { cls := .type "tuple", data := .seq #[.int gy u1, .int gm u2, .int gd u3] }) ∈ ns) (fun new v => ∃ a t1 t2, new = [(a, { cls := .type "tuple", data := .seq #[.int gy t1, .int (doy gy gm gd + 1) t2] })] ∧ v = .ref a) := Apart.get (by simp (disch := k_dflt (
  unfold Con
  k_fill
  intro p loose mean mg mb dp un gd' cn cs a' ccd cl outer A₀ base h₀ L ma news s Q E B F X N T hk hpre hdp hun htk0 hret
  have hgb : (1 ≤ gy ∧ gy < 20000) ∧ (1 ≤ gm ∧ gm ≤ 12) ∧ 0 < gd ∧ gd ≤ mlen gy gm := ⟨⟨K.y1, K.y2⟩, ⟨K.m1, K.m2⟩, K.d1, K.d2⟩
  have heq := K.eq
  have hg3 : (1 ≤ gy ∧ gy < 100000) ∧ (1 ≤ gm ∧ gm ≤ 12) ∧ (1 ≤ gd ∧ gd ≤ mlen gy gm) := by omega
  (refine wpAny_call ?_; refine' code_def (binds := [(Str.ofString "way", Value.int 6 t), (Str.ofString "date_v", Value.ref a), (Str.ofString "epoch", Value.int ep z)]) B F X N T rfl rfl hk ?k6 ?k7 ?k8 ?k9 ?kB ?_ ?c2 ?c3 ?c4 ?c5; (case k6 => k_is); (case k7 => k_is); (case k8 => ktr_room); (case k9 => first | exact BindsTo.of_eq rfl | exact binds_K (by k_in) rfl (by k_is) rfl rfl rfl); (case kB => exact locs rfl); (case c2 => exact rfl); (case c3 => exact rfl); (case c4 => exact rfl); (case c5 => decide); intro g' L' h' FG' F' N' B' X' T'; dsimp only; k_fold)
  k_steps
  all_goals (refine hret _ _ _ [_] (by k_asm) (by first | k_asm | exact drop1 (by k_asm) | exact drop2 (by k_asm) | exact drop3 (by k_asm)) ⟨_, _, _, rfl, rfl⟩)
  )) only [↓apart])
theorem con_bac7 (w : World) (J gy gm gd ep : Int) (a : Addr) (t z u1 u2 u3 : Tok) (K : Greg J gy gm gd) (hy9 : gy ≤ 9999) : Con w 558 8 64 [.int 7 t, .ref a, .int ep z] (fun ns => (a, { cls := .type "tuple", data := .seq #[.int gy u1, .int gm u2, .int gd u3] }) ∈ ns) (fun new v => ∃ a tk, new = [(a, isoObj (Builtin._datetime.isoCalendarOf gy gm gd) tk)] ∧ v = .ref a) := Apart.get (by simp (disch := k_dflt (
  unfold Con
  k_fill
  intro p loose mean mg mb dp un gd' cn cs a' ccd cl outer A₀ base h₀ L ma news s Q E B F X N T hk hpre hdp hun htk0 hret
  have hgb : (1 ≤ gy ∧ gy < 20000) ∧ (1 ≤ gm ∧ gm ≤ 12) ∧ 0 < gd ∧ gd ≤ mlen gy gm := ⟨⟨K.y1, K.y2⟩, ⟨K.m1, K.m2⟩, K.d1, K.d2⟩
  have heq := K.eq
  have hg3 : (1 ≤ gy ∧ gy ≤ 9999) ∧ (1 ≤ gm ∧ gm ≤ 12) ∧ (1 ≤ gd ∧ gd ≤ Builtin._datetime.daysInMonth gy gm) ∧ gd ≤ 31 := ⟨⟨K.y1, hy9⟩, ⟨K.m1, K.m2⟩, ⟨K.d1, by rw [dim_eq K.m1 K.m2]; exact K.d2⟩, by have := mlen_cases K.d2; omega⟩
  (refine wpAny_call ?_; refine' code_def (binds := [(Str.ofString "way", Value.int 7 t), (Str.ofString "date_v", Value.ref a), (Str.ofString "epoch", Value.int ep z)]) B F X N T rfl rfl hk ?k6 ?k7 ?k8 ?k9 ?kB ?_ ?c2 ?c3 ?c4 ?c5; (case k6 => k_is); (case k7 => k_is); (case k8 => ktr_room); (case k9 => first | exact BindsTo.of_eq rfl | exact binds_K (by k_in) rfl (by k_is) rfl rfl rfl); (case kB => exact locs rfl); (case c2 => exact rfl); (case c3 => exact rfl); (case c4 => exact rfl); (case c5 => decide); intro g' L' h' FG' F' N' B' X' T'; dsimp only; k_fold)
  k_steps
  all_goals (refine hret _ _ _ [_] (by k_asm) (by first | k_asm | exact drop1 (by k_asm) | exact drop2 (by k_asm) | exact drop3 (by k_asm)) ⟨_, _, rfl, rfl⟩)
  )) only [↓apart])
theorem con_bac0 (w : World) (J gy gm gd ep : Int) (a : Addr) (t z u1 u2 u3 : Tok) (K : Greg J gy gm gd) : Con w 558 8 64 [.int 0 t, .ref a, .int ep z] (fun ns => (a, { cls := .type "tuple", data := .seq #[.int gy u1, .int gm u2, .int gd u3] }) ∈ ns) (fun new v => ∃ a t1, t1 ≠ 0 ∧ new = [(a, { cls := .type "tuple", data := .seq #[.float (H (2 * J + 1)) t1] })] ∧ v = .ref a) := Apart.get (by simp (disch := k_dflt (
  unfold Con
  k_fill
  intro p loose mean mg mb dp un gd' cn cs a' ccd cl outer A₀ base h₀ L ma news s Q E B F X N T hk hpre hdp hun htk0 hret
  have hgb : (1 ≤ gy ∧ gy < 20000) ∧ (1 ≤ gm ∧ gm ≤ 12) ∧ 0 < gd ∧ gd ≤ mlen gy gm := ⟨⟨K.y1, K.y2⟩, ⟨K.m1, K.m2⟩, K.d1, K.d2⟩
  have heq := K.eq
  rw [heq] at hret
  (refine wpAny_call ?_; refine' code_def (binds := [(Str.ofString "way", Value.int 0 t), (Str.ofString "date_v", Value.ref a), (Str.ofString "epoch", Value.int ep z)]) B F X N T rfl rfl hk ?k6 ?k7 ?k8 ?k9 ?kB ?_ ?c2 ?c3 ?c4 ?c5; (case k6 => k_is); (case k7 => k_is); (case k8 => ktr_room); (case k9 => first | exact BindsTo.of_eq rfl | exact binds_K (by k_in) rfl (by k_is) rfl rfl rfl); (case kB => exact locs rfl); (case c2 => exact rfl); (case c3 => exact rfl); (case c4 => exact rfl); (case c5 => decide); intro g' L' h' FG' F' N' B' X' T'; dsimp only; k_fold)
  k_steps
  all_goals (refine hret _ _ _ [_] (by k_asm) (by first | k_asm | exact drop1 (by k_asm) | exact drop2 (by k_asm) | exact drop3 (by k_asm)) ⟨_, _, by assumption, rfl, rfl⟩)
  )) only [↓apart])
theorem con_bac12 (w : World) (J gy gm gd ep : Int) (a : Addr) (t z u1 u2 u3 : Tok) (K : Greg J gy gm gd) (hb : (0 ≤ J ∧ J < 10000000) ∧ -100000000 < ep ∧ ep < 100000000) : Con w 558 8 64 [.int 12 t, .ref a, .int ep z] (fun ns => (a, { cls := .type "tuple", data := .seq #[.int gy u1, .int gm u2, .int gd u3] }) ∈ ns) (fun new v => ∃ a t1, t1 ≠ 0 ∧ new = [(a, { cls := .type "tuple", data := .seq #[.float (H (2 * J + 1 - 2 * ep)) t1] })] ∧ v = .ref a) := Apart.get (by simp (disch := k_dflt (
  unfold Con
  k_fill
  intro p loose mean mg mb dp un gd' cn cs a' ccd cl outer A₀ base h₀ L ma news s Q E B F X N T hk hpre hdp hun htk0 hret
  have hgb : (1 ≤ gy ∧ gy < 20000) ∧ (1 ≤ gm ∧ gm ≤ 12) ∧ 0 < gd ∧ gd ≤ mlen gy gm := ⟨⟨K.y1, K.y2⟩, ⟨K.m1, K.m2⟩, K.d1, K.d2⟩
  have heq := K.eq
  rw [heq] at hret
  obtain ⟨hb1, hb2⟩ := hb
  (refine wpAny_call ?_; refine' code_def (binds := [(Str.ofString "way", Value.int 12 t), (Str.ofString "date_v", Value.ref a), (Str.ofString "epoch", Value.int ep z)]) B F X N T rfl rfl hk ?k6 ?k7 ?k8 ?k9 ?kB ?_ ?c2 ?c3 ?c4 ?c5; (case k6 => k_is); (case k7 => k_is); (case k8 => ktr_room); (case k9 => first | exact BindsTo.of_eq rfl | exact binds_K (by k_in) rfl (by k_is) rfl rfl rfl); (case kB => exact locs rfl); (case c2 => exact rfl); (case c3 => exact rfl); (case c4 => exact rfl); (case c5 => decide); intro g' L' h' FG' F' N' B' X' T'; dsimp only; k_fold)
  k_steps
  all_goals (refine hret _ _ _ [_] (by k_asm) (by first | k_asm | exact drop1 (by k_asm) | exact drop2 (by k_asm) | exact drop3 (by k_asm)) ⟨_, _, Nat.succ_ne_zero _, rfl, rfl⟩)
  )) only [↓apart])
theorem con_bac1 (w : World) (y m d ep : Int) (a : Addr) (t z t1 t2 t3 : Tok) : Con w 558 8 64 [.int 1 t, .ref a, .int ep z] (fun ns => (a, { cls := .type "tuple", data := .seq #[.int y t1, .int m t2, .int d t3] }) ∈ ns) (fun new v => ∃ a t1 t2 t3, new = [(a, { cls := .type "tuple", data := .seq #[.int y t1, .int m t2, .int d t3] })] ∧ v = .ref a) := Apart.get (by simp (disch := k_dflt (
  unfold Con
  k_fill
  intro p loose mean mg mb dp un gd' cn cs a' ccd cl outer A₀ base h₀ L ma news s Q E B F X N T hk hpre hdp hun htk0 hret
  (refine wpAny_call ?_; refine' code_def (binds := [(Str.ofString "way", Value.int 1 t), (Str.ofString "date_v", Value.ref a), (Str.ofString "epoch", Value.int ep z)]) B F X N T rfl rfl hk ?k6 ?k7 ?k8 ?k9 ?kB ?_ ?c2 ?c3 ?c4 ?c5; (case k6 => k_is); (case k7 => k_is); (case k8 => ktr_room); (case k9 => first | exact BindsTo.of_eq rfl | exact binds_K (by k_in) rfl (by k_is) rfl rfl rfl); (case kB => exact locs rfl); (case c2 => exact rfl); (case c3 => exact rfl); (case c4 => exact rfl); (case c5 => decide); intro g' L' h' FG' F' N' B' X' T'; dsimp only; k_fold)
  k_steps
  all_goals (refine hret _ _ _ [(a, { cls := .type "tuple", data := .seq #[.int y t1, .int m t2, .int d t3] })] (by k_asm) (news_again hpre (by k_asm)) ⟨_, _, _, _, rfl, rfl⟩)
  )) only [↓apart])
end
section
open PySem PySem.W PySem.Spec PySem.Calls PyProof.Rows
set_option maxHeartbeats 4000000
/-- a day's dates, in every calendar -/
structure Day where
  (J gy gm gd jy jm jd iy im iday cy cm cd ny nm nd py pm pd mb mc mt mu mn ay am ad sy sm sd wy wn wd : Int)
structure Day.Ok (D : Day) : Prop where
  bJ : 2374479 ≤ D.J ∧ D.J < 5274479
  g : Greg D.J D.gy D.gm D.gd
  g9 : D.gy ≤ 9999
  jul : ∃ W aa b c dd e, Jul D.J D.jy D.jm D.jd W aa b c dd e
  jb : 1 ≤ D.jy ∧ D.jy < 100000
  isl : Isl D.J D.iy D.im D.iday
  cop : ∃ Y D2, Cop D.J D.cy D.cm D.cd Y D2
  ind : ∃ r, Ind D.J D.gy D.gm D.gd r D.ny D.nm D.nd
  pos : ∃ E0 E1 E2 E3 a c n yi y1 R, Pos D.J D.py D.pm D.pd E0 E1 E2 E3 a c n yi y1 R
  may : ∃ D0 D1 D2 D3 D4, May D.J D.mb D.mc D.mt D.mu D.mn D0 D1 D2 D3 D4
  arm : ∃ D0 y0 m0 D2, Arm D.J D.ay D.am D.ad D0 y0 m0 D2
  sar : ∃ D0 y0 R m0 D2 yd, Sar D.J D.sy D.sm D.sd D0 y0 R m0 D2 yd
  iso : Builtin._datetime.isoCalendarOf D.gy D.gm D.gd = (D.wy, D.wn, D.wd)
  isoJ : wJ D.wy D.wn D.wd = D.J
  isoB : (2 ≤ D.wy ∧ D.wy < 50000) ∧ (1 ≤ D.wn ∧ D.wn ≤ 100) ∧ (1 ≤ D.wd ∧ D.wd ≤ 7)
theorem the_day {J y m d : Int} (bJ : 2374479 ≤ J ∧ J < 5274479) (G : Greg J y m d) (h9 : y ≤ 9999) (hn : ¬ (y % 400 = 0 ∧ m = 12 ∧ d = 31)) : ∃ D : Day, D.J = J ∧ D.Ok := by
  have hy : 1700 ≤ y ∧ y < 19000 := by
    have h := doy_month G.m1 G.m2 G.d1 G.d2 rfl rfl
    have h5 : doy y m d ≤ 365 := by have := h.2.1; split at this <;> omega
    have e := G.eq
    unfold gJ gY at e
    omega
  obtain ⟨jy, jm, jd, W, aa, b, c, dd, e, hj⟩ := jul_of J (by omega)
  obtain ⟨iy, im, iday, hi⟩ := isl_of J (by omega)
  obtain ⟨cy, cm, cd, Y, D2, hc⟩ := cop_of J (by omega)
  obtain ⟨r, ny, nm, nd, hind⟩ := ind_of G hy
  obtain ⟨py, pm, pd, E0, E1, E2, E3, pa, pc, pn, yi, y1, R, hp⟩ := pos_of G (by omega) hn
  obtain ⟨mb, mc, mt, mu, mn, D0, D1, D22, D3, D4, hm⟩ := may_of J (by omega)
  obtain ⟨ay, am, ad, aD, ay0, am0, aD2, ha⟩ := arm_of J (by omega)
  obtain ⟨sy, sm, sd, sD, sy0, sR, sm0, sD2, syd, hs⟩ := sar_of J (by omega)
  obtain ⟨wy, wn, wd, hw, hwJ, hw1, hw2, hw3⟩ := iso_back G (by omega)
  obtain ⟨b1, b2, b3, b4⟩ := hj.back
  have hj1 : 1 ≤ jy ∧ jy < 100000 := by
    have hjl : jd ≤ 31 := by rcases jlen_cases (y := jy) (m := jm) with h | h | h | h | h | h | h <;> omega
    refine ⟨?_, b3.2⟩
    by_cases q : jm ≤ 2
    · rw [jJ_le q] at b4; omega
    · rw [jJ_gt q] at b4; omega
  exact ⟨⟨J, y, m, d, jy, jm, jd, iy, im, iday, cy, cm, cd, ny, nm, nd, py, pm, pd, mb, mc, mt, mu, mn, ay, am, ad, sy, sm, sd, wy, wn, wd⟩, rfl,
    bJ, G, h9, ⟨W, aa, b, c, dd, e, hj⟩, hj1, hi, ⟨Y, D2, hc⟩, ⟨r, hind⟩, ⟨E0, E1, E2, E3, pa, pc, pn, yi, y1, R, hp⟩, ⟨D0, D1, D22, D3, D4, hm⟩, ⟨aD, ay0, am0, aD2, ha⟩, ⟨sD, sy0, sR, sm0, sD2, syd, hs⟩, hw, hwJ, ⟨hw1, hw2, hw3⟩⟩
/-- the object is the day's date by the way -/
inductive Rep (D : Day) (ep : Int) : Int → Obj → Prop
  | w0 (t : Tok) (h : t ≠ 0) : Rep D ep 0 { cls := .type "tuple", data := .seq #[.float (H (2 * D.J + 1)) t] }
  | w1 (t1 t2 t3 : Tok) : Rep D ep 1 { cls := .type "tuple", data := .seq #[.int D.gy t1, .int D.gm t2, .int D.gd t3] }
  | w2 (t1 t2 t3 : Tok) : Rep D ep 2 { cls := .type "tuple", data := .seq #[.int D.jy t1, .int D.jm t2, .int D.jd t3] }
  | w3 (t1 t2 t3 : Tok) : Rep D ep 3 { cls := .type "tuple", data := .seq #[.int D.iy t1, .int D.im t2, .int D.iday t3] }
  | w4 (t1 t2 t3 : Tok) : Rep D ep 4 { cls := .type "tuple", data := .seq #[.int D.cy t1, .int D.cm t2, .int D.cd t3] }
  | w5 (t1 t2 t3 : Tok) : Rep D ep 5 { cls := .type "tuple", data := .seq #[.int D.ny t1, .int D.nm t2, .int D.nd t3] }
  | w6 (t1 t2 : Tok) : Rep D ep 6 { cls := .type "tuple", data := .seq #[.int D.gy t1, .int (doy D.gy D.gm D.gd + 1) t2] }
  | w7 (tk : Nat) : Rep D ep 7 (isoObj (D.wy, D.wn, D.wd) tk)
  | w8 (t1 t2 t3 : Tok) : Rep D ep 8 { cls := .type "tuple", data := .seq #[.int D.py t1, .int D.pm t2, .int D.pd t3] }
  | w9 (t1 t2 t3 t4 t5 : Tok) : Rep D ep 9 { cls := .type "tuple", data := .seq #[.int D.mb t1, .int D.mc t2, .int D.mt t3, .int D.mu t4, .int D.mn t5] }
  | w10 (t1 t2 t3 : Tok) : Rep D ep 10 { cls := .type "tuple", data := .seq #[.int D.ay t1, .int D.am t2, .int D.ad t3] }
  | w11 (t1 t2 t3 : Tok) : Rep D ep 11 { cls := .type "tuple", data := .seq #[.int D.sy t1, .int D.sm t2, .int D.sd t3] }
  | w12 (t : Tok) (h : t ≠ 0) : Rep D ep 12 { cls := .type "tuple", data := .seq #[.float (H (2 * D.J + 1 - 2 * ep)) t] }
abbrev EpB (ep : Int) : Prop := -100000000 < ep ∧ ep < 100000000
section
variable {w : World} {f : Addr} {dD uD dD' uD' : Nat} {vs : List Value} {pre pre' : Led → Prop} {post post' : Led → Value → Prop}
theorem Con.weak (C : Con w f dD uD vs pre post) (hp : ∀ ns, pre' ns → pre ns) (hq : ∀ new v, post new v → post' new v) : Con w f dD uD vs pre' post' := by
  unfold Con at *
  intro p loose mean mg mb dp un gd cn cs a ccd cl outer A₀ base h₀ L m news s Q E B F X N T hk hpre hd hu htk hret
  exact C p loose mean mg mb dp un gd cn cs a ccd cl outer A₀ base h₀ L m news s Q E B F X N T hk (hp _ hpre) hd hu htk fun v h' tk' new F' N' q => hret v h' tk' new F' N' (hq _ _ q)
theorem Con.ex {a : Addr} {R : Obj → Prop} (C : ∀ o, R o → Con w f dD uD vs (fun ns => (a, o) ∈ ns) post) : Con w f dD uD vs (fun ns => ∃ o, (a, o) ∈ ns ∧ R o) post := by
  unfold Con at *
  intro p loose mean mg mb dp un gd cn cs a ccd cl outer A₀ base h₀ L m news s Q E B F X N T hk hpre hd hu htk hret
  obtain ⟨o, hin, hr⟩ := hpre
  exact C o hr p loose mean mg mb dp un gd cn cs a ccd cl outer A₀ base h₀ L m news s Q E B F X N T hk hin hd hu htk hret
end
theorem con_num (w : World) (D : Day) (K : D.Ok) (way ep : Int) (hep : EpB ep) (a : Addr) (t u : Tok) :
    Con w 537 8 64 [.int way t, .ref a, .int ep u] (fun ns => ∃ o, (a, o) ∈ ns ∧ Rep D ep way o) (fun new v => new = [] ∧ ∃ tk, tk ≠ 0 ∧ v = .float (H (2 * D.J + 1)) tk) := by
  have hJ := K.bJ
  refine Con.ex fun o hr => ?_
  cases hr with
  | w0 t1 h => exact (con_num0 w _ _ _ a t u).weak (fun ns q => ⟨q, h⟩) fun _ _ q => q
  | w1 t1 t2 t3 => exact (con_num1 w _ _ _ _ _ _ _ a t u).weak (fun ns q => ⟨q, ⟨K.g.y1, by have := K.g9; omega⟩, ⟨K.g.m1, K.g.m2⟩, K.g.d1, K.g.d2⟩) fun _ _ q => by rw [← K.g.eq] at q; exact q
  | w2 t1 t2 t3 =>
    obtain ⟨_, _, _, _, _, _, G⟩ := K.jul
    obtain ⟨b1, b2, b3, b4⟩ := G.back
    exact (con_num2 w _ _ _ _ _ _ _ a t u).weak (fun ns q => ⟨q, K.jb, b1, b2⟩) fun _ _ q => by rw [b4] at q; exact q
  | w3 t1 t2 t3 =>
    have G := K.isl
    have b1 := G.y1; have b2 := G.m1; have b3 := G.d1
    exact (con_num3 w _ _ _ _ _ _ _ a t u).weak (fun ns q => ⟨q, by omega, by omega, by omega⟩) fun _ _ q => by rw [G.back] at q; exact q
  | w4 t1 t2 t3 =>
    obtain ⟨_, _, G⟩ := K.cop
    have b1 := G.by'; have b2 := G.bY; have b3 := G.hd
    exact (con_num4 w _ _ _ _ _ _ _ a t u).weak (fun ns q => ⟨q, by omega, by omega, by omega⟩) fun _ _ q => by rw [G.back] at q; exact q
  | w5 t1 t2 t3 =>
    obtain ⟨_, G⟩ := K.ind
    exact (con_num5 w _ _ _ _ _ _ _ a t u).weak (fun ns q => ⟨q, G.bnd⟩) fun _ _ q => by rw [G.back] at q; exact q
  | w6 t1 t2 =>
    have h := doy_month K.g.m1 K.g.m2 K.g.d1 K.g.d2 rfl rfl
    have h5 : doy D.gy D.gm D.gd ≤ 365 := by have := h.2.1; split at this <;> omega
    have e : gJ D.gy 1 1 + (doy D.gy D.gm D.gd + 1) - 1 = D.J := by
      rw [K.g.eq]; unfold gJ; have : doy D.gy 1 1 = 0 := by { unfold doy; simp }
      omega
    exact (con_num6 w _ _ _ _ _ a t u).weak (fun ns q => ⟨q, ⟨K.g.y1, K.g.y2⟩, by omega⟩) fun _ _ q => by rw [e] at q; exact q
  | w7 tk => exact (con_num7 w _ _ _ _ _ a t u).weak (fun ns q => ⟨q, K.isoB⟩) fun _ _ q => by rw [K.isoJ] at q; exact q
  | w8 t1 t2 t3 =>
    obtain ⟨_, _, _, _, _, _, _, _, _, _, G⟩ := K.pos
    exact (con_num8 w _ _ _ _ _ _ _ a t u).weak (fun ns q => ⟨q, G.bnd⟩) fun _ _ q => by rw [G.back] at q; exact q
  | w9 t1 t2 t3 t4 t5 =>
    obtain ⟨_, _, _, _, _, G⟩ := K.may
    exact (con_num9 w _ _ _ _ _ _ _ _ _ _ _ a t u).weak (fun ns q => ⟨q, G.bnd⟩) fun _ _ q => by rw [G.back] at q; exact q
  | w10 t1 t2 t3 =>
    obtain ⟨_, _, _, _, G⟩ := K.arm
    exact (con_num10 w _ _ _ _ _ _ _ a t u).weak (fun ns q => ⟨q, G.bnd⟩) fun _ _ q => by rw [G.back] at q; exact q
  | w11 t1 t2 t3 =>
    obtain ⟨_, _, _, _, _, _, G⟩ := K.sar
    exact (con_num11 w _ _ _ _ _ _ _ a t u).weak (fun ns q => ⟨q, G.bnd⟩) fun _ _ q => by rw [G.back] at q; exact q
  | w12 t1 h => exact con_num12 w _ _ _ a t u ⟨by omega, hep⟩
/-- a new date object that is the day's by the way -/
abbrev Gives (D : Day) (ep way : Int) (new : Led) (v : Value) : Prop := ∃ b o, new = [(b, o)] ∧ v = .ref b ∧ Rep D ep way o
theorem ways {k : Int} (h : 0 ≤ k ∧ k < 13) : k = 0 ∨ k = 1 ∨ k = 2 ∨ k = 3 ∨ k = 4 ∨ k = 5 ∨ k = 6 ∨ k = 7 ∨ k = 8 ∨ k = 9 ∨ k = 10 ∨ k = 11 ∨ k = 12 := by omega
theorem con_dat (w : World) (D : Day) (K : D.Ok) (way ep : Int) (hw : 0 ≤ way ∧ way < 13) (hep : EpB ep) (A : Int) (hA : A = 2 * D.J + 1) (t x z : Tok) :
    Con w 544 8 64 [.int way t, .float (H A) x, .int ep z] (fun _ => x ≠ 0) (fun new v => Gives D ep way new v) := by
  have hJ := K.bJ
  subst hA
  rcases ways hw with h | h | h | h | h | h | h | h | h | h | h | h | h <;> subst h
  · exact (con_dat0 w _ _ _ _ _).weak (fun _ q => q) fun new v ⟨b, t1, h, e, e2⟩ => ⟨b, _, e, e2, .w0 t1 h⟩
  · exact (con_dat1 w _ _ _ _ _ _ _ _ K.g).weak (fun _ _ => trivial) fun new v ⟨b, t1, t2, t3, e, e2⟩ => ⟨b, _, e, e2, .w1 t1 t2 t3⟩
  · obtain ⟨_, _, _, _, _, _, G⟩ := K.jul
    exact (con_dat2 w _ _ _ _ _ _ _ _ _ _ _ _ _ _ G).weak (fun _ _ => trivial) fun new v ⟨b, t1, t2, t3, e, e2⟩ => ⟨b, _, e, e2, .w2 t1 t2 t3⟩
  · exact (con_dat3 w _ _ _ _ _ _ _ _ K.isl).weak (fun _ _ => trivial) fun new v ⟨b, t1, t2, t3, e, e2⟩ => ⟨b, _, e, e2, .w3 t1 t2 t3⟩
  · obtain ⟨_, _, G⟩ := K.cop
    exact (con_dat4 w _ _ _ _ _ _ _ _ _ _ G).weak (fun _ _ => trivial) fun new v ⟨b, t1, t2, t3, e, e2⟩ => ⟨b, _, e, e2, .w4 t1 t2 t3⟩
  · obtain ⟨_, G⟩ := K.ind
    exact (con_dat5 w _ _ _ _ _ _ _ _ _ _ _ _ G).weak (fun _ _ => trivial) fun new v ⟨b, t1, t2, t3, e, e2⟩ => ⟨b, _, e, e2, .w5 t1 t2 t3⟩
  · exact (con_dat6 w _ _ _ _ _ _ _ _ K.g).weak (fun _ _ => trivial) fun new v ⟨b, t1, t2, e, e2⟩ => ⟨b, _, e, e2, .w6 t1 t2⟩
  · exact (con_dat7 w _ _ _ _ _ _ _ _ K.g K.g9).weak (fun _ _ => trivial) fun new v ⟨b, tk, e, e2⟩ => ⟨b, _, e, e2, by rw [K.iso]; exact .w7 tk⟩
  · obtain ⟨_, _, _, _, _, _, _, _, _, _, G⟩ := K.pos
    exact (con_dat8 w _ _ _ _ _ _ _ _ _ _ _ _ _ _ _ _ _ _ G).weak (fun _ _ => trivial) fun new v ⟨b, t1, t2, t3, e, e2⟩ => ⟨b, _, e, e2, .w8 t1 t2 t3⟩
  · obtain ⟨_, _, _, _, _, G⟩ := K.may
    exact (con_dat9 w _ _ _ _ _ _ _ _ _ _ _ _ _ _ _ G).weak (fun _ _ => trivial) fun new v ⟨b, t1, t2, t3, t4, t5, e, e2⟩ => ⟨b, _, e, e2, .w9 t1 t2 t3 t4 t5⟩
  · obtain ⟨_, _, _, _, G⟩ := K.arm
    exact (con_dat10 w _ _ _ _ _ _ _ _ _ _ _ _ G).weak (fun _ _ => trivial) fun new v ⟨b, t1, t2, t3, e, e2⟩ => ⟨b, _, e, e2, .w10 t1 t2 t3⟩
  · obtain ⟨_, _, _, _, _, _, G⟩ := K.sar
    exact (con_dat11 w _ _ _ _ _ _ _ _ _ _ _ _ _ _ G).weak (fun _ _ => trivial) fun new v ⟨b, t1, t2, t3, e, e2⟩ => ⟨b, _, e, e2, .w11 t1 t2 t3⟩
  · exact (con_dat12 w _ _ _ _ _ ⟨by omega, hep⟩).weak (fun _ _ => trivial) fun new v ⟨b, t1, h, e, e2⟩ => ⟨b, _, e, e2, .w12 t1 h⟩
theorem con_gre (w : World) (D : Day) (K : D.Ok) (way ep : Int) (hep : EpB ep) (a : Addr) (t z : Tok) :
    Con w 551 8 64 [.int way t, .ref a, .int ep z] (fun ns => ∃ o, (a, o) ∈ ns ∧ Rep D ep way o) (fun new v => Gives D ep 1 new v) := by
  have hJ := K.bJ
  have fin : ∀ new v, (∃ a t1 t2 t3, new = [(a, ({ cls := .type "tuple", data := .seq #[.int D.gy t1, .int D.gm t2, .int D.gd t3] } : Obj))] ∧ v = .ref a) → Gives D ep 1 new v := fun new v ⟨b, t1, t2, t3, e, e2⟩ => ⟨b, _, e, e2, .w1 t1 t2 t3⟩
  refine Con.ex fun o hr => ?_
  cases hr with
  | w0 t1 h => exact (con_gre0 w _ _ _ _ _ a t z _ K.g).weak (fun _ q => q) fin
  | w1 t1 t2 t3 => exact (con_gre1 w _ _ _ _ a t z _ _ _).weak (fun _ q => q) fin
  | w2 t1 t2 t3 =>
    obtain ⟨_, _, _, _, _, _, G⟩ := K.jul
    exact (con_gre2 w _ _ _ _ _ _ _ _ _ _ _ _ _ _ a t z _ _ _ K.g G K.jb.1).weak (fun _ q => q) fin
  | w3 t1 t2 t3 => exact (con_gre3 w _ _ _ _ _ _ _ _ a t z _ _ _ K.g K.isl).weak (fun _ q => q) fin
  | w4 t1 t2 t3 =>
    obtain ⟨_, _, G⟩ := K.cop
    exact (con_gre4 w _ _ _ _ _ _ _ _ _ _ a t z _ _ _ K.g G).weak (fun _ q => q) fin
  | w5 t1 t2 t3 =>
    obtain ⟨_, G⟩ := K.ind
    exact (con_gre5 w _ _ _ _ _ _ _ _ _ a t z _ _ _ K.g G).weak (fun _ q => q) fin
  | w6 t1 t2 => exact (con_gre6 w _ _ _ _ _ a t z _ _ K.g).weak (fun _ q => q) fin
  | w7 tk => exact (con_gre7 w _ _ _ _ _ _ _ _ _ a t z K.g K.isoJ K.isoB).weak (fun _ q => q) fin
  | w8 t1 t2 t3 =>
    obtain ⟨_, _, _, _, _, _, _, _, _, _, G⟩ := K.pos
    exact (con_gre8 w _ _ _ _ _ _ _ _ _ _ _ _ _ _ _ _ _ _ a t z _ _ _ K.g G).weak (fun _ q => q) fin
  | w9 t1 t2 t3 t4 t5 =>
    obtain ⟨_, _, _, _, _, G⟩ := K.may
    exact (con_gre9 w _ _ _ _ _ _ _ _ _ _ _ _ _ _ _ a t z _ _ _ _ _ K.g G).weak (fun _ q => q) fin
  | w10 t1 t2 t3 =>
    obtain ⟨_, _, _, _, G⟩ := K.arm
    exact (con_gre10 w _ _ _ _ _ _ _ _ _ _ _ _ a t z _ _ _ K.g G).weak (fun _ q => q) fin
  | w11 t1 t2 t3 =>
    obtain ⟨_, _, _, _, _, _, G⟩ := K.sar
    exact (con_gre11 w _ _ _ _ _ _ _ _ _ _ _ _ _ _ a t z _ _ _ K.g G).weak (fun _ q => q) fin
  | w12 t1 h => exact (con_gre12 w _ _ _ _ _ a t z _ K.g ⟨by omega, hep⟩).weak (fun _ q => q) fin
theorem con_bac (w : World) (D : Day) (K : D.Ok) (way ep : Int) (hw : 0 ≤ way ∧ way < 13) (hep : EpB ep) (a : Addr) (t z : Tok) :
    Con w 558 8 64 [.int way t, .ref a, .int ep z] (fun ns => ∃ o, (a, o) ∈ ns ∧ Rep D ep 1 o) (fun new v => Gives D ep way new v) := by
  have hJ := K.bJ
  refine Con.ex fun o hr => ?_
  cases hr with
  | w1 u1 u2 u3 =>
    rcases ways hw with h | h | h | h | h | h | h | h | h | h | h | h | h <;> subst h
    · exact (con_bac0 w _ _ _ _ _ a t z _ _ _ K.g).weak (fun _ q => q) fun new v ⟨b, t1, h, e, e2⟩ => ⟨b, _, e, e2, .w0 t1 h⟩
    · exact (con_bac1 w _ _ _ _ a t z _ _ _).weak (fun _ q => q) fun new v ⟨b, t1, t2, t3, e, e2⟩ => ⟨b, _, e, e2, .w1 t1 t2 t3⟩
    · obtain ⟨_, _, _, _, _, _, G⟩ := K.jul
      exact (con_bac2 w _ _ _ _ _ _ _ _ _ _ _ _ _ _ a t z _ _ _ K.g G).weak (fun _ q => q) fun new v ⟨b, t1, t2, t3, e, e2⟩ => ⟨b, _, e, e2, .w2 t1 t2 t3⟩
    · exact (con_bac3 w _ _ _ _ _ _ _ _ a t z _ _ _ K.g K.isl).weak (fun _ q => q) fun new v ⟨b, t1, t2, t3, e, e2⟩ => ⟨b, _, e, e2, .w3 t1 t2 t3⟩
    · obtain ⟨_, _, G⟩ := K.cop
      exact (con_bac4 w _ _ _ _ _ _ _ _ _ _ a t z _ _ _ K.g G).weak (fun _ q => q) fun new v ⟨b, t1, t2, t3, e, e2⟩ => ⟨b, _, e, e2, .w4 t1 t2 t3⟩
    · obtain ⟨_, G⟩ := K.ind
      exact (con_bac5 w _ _ _ _ _ _ _ _ _ a t z _ _ _ K.g G).weak (fun _ q => q) fun new v ⟨b, t1, t2, t3, e, e2⟩ => ⟨b, _, e, e2, .w5 t1 t2 t3⟩
    · exact (con_bac6 w _ _ _ _ _ a t z _ _ _ K.g).weak (fun _ q => q) fun new v ⟨b, t1, t2, e, e2⟩ => ⟨b, _, e, e2, .w6 t1 t2⟩
    · exact (con_bac7 w _ _ _ _ _ a t z _ _ _ K.g K.g9).weak (fun _ q => q) fun new v ⟨b, tk, e, e2⟩ => ⟨b, _, e, e2, by rw [K.iso]; exact .w7 tk⟩
    · obtain ⟨_, _, _, _, _, _, _, _, _, _, G⟩ := K.pos
      exact (con_bac8 w _ _ _ _ _ _ _ _ _ _ _ _ _ _ _ _ _ _ a t z _ _ _ K.g G).weak (fun _ q => q) fun new v ⟨b, t1, t2, t3, e, e2⟩ => ⟨b, _, e, e2, .w8 t1 t2 t3⟩
    · obtain ⟨_, _, _, _, _, G⟩ := K.may
      exact (con_bac9 w _ _ _ _ _ _ _ _ _ _ _ _ _ _ _ a t z _ _ _ K.g G).weak (fun _ q => q) fun new v ⟨b, t1, t2, t3, t4, t5, e, e2⟩ => ⟨b, _, e, e2, .w9 t1 t2 t3 t4 t5⟩
    · obtain ⟨_, _, _, _, G⟩ := K.arm
      exact (con_bac10 w _ _ _ _ _ _ _ _ _ _ _ _ a t z _ _ _ K.g G).weak (fun _ q => q) fun new v ⟨b, t1, t2, t3, e, e2⟩ => ⟨b, _, e, e2, .w10 t1 t2 t3⟩
    · obtain ⟨_, _, _, _, _, _, G⟩ := K.sar
      exact (con_bac11 w _ _ _ _ _ _ _ _ _ _ _ _ _ _ a t z _ _ _ K.g G).weak (fun _ q => q) fun new v ⟨b, t1, t2, t3, e, e2⟩ => ⟨b, _, e, e2, .w11 t1 t2 t3⟩
    · exact (con_bac12 w _ _ _ _ _ a t z _ _ _ K.g ⟨by omega, hep⟩).weak (fun _ q => q) fun new v ⟨b, t1, h, e, e2⟩ => ⟨b, _, e, e2, .w12 t1 h⟩
end
section
local macro_rules | `(tactic| kxt_pos) => `(tactic| (k_here; (with_reducible show wpAny _ _ (call (Value.ref 102) [Value.int _ _]) _ _ _); k_dflt (refine' Con.use (con_isleap _ _ _ _) ?k1 ?k2 ?k3 ?k4 ?k5 ?kK ?kp ?kd ?ku ?k0 ?_; (case k1 => k_asm); (case k2 => k_asm); (case k3 => k_asm); (case k4 => k_asm); (case k5 => k_asm); (case kK => first | exact rfl | assumption); (case kp => first | assumption | exact rfl); (case kd => ktr_room); (case ku => ktr_units); (case k0 => (dsimp only; omega))); intro v9 h9 tk9 new9 le9 F9 N9 p9; (try dsimp only at le9); obtain ⟨e9, e8⟩ := p9; subst e9 e8; (try simp only [List.nil_append, List.cons_append] at N9); (try dsimp only); (try k_sweep); (try k_fold)))
local macro_rules | `(tactic| kxt_pos) => `(tactic| (k_here; (with_reducible show wpAny _ _ (call (Value.ref 109) [Value.int _ _, Value.int _ _, Value.int _ _]) _ _ _); k_dflt (refine' Con.use (con_legal _ _ _ _ _ _ _) ?k1 ?k2 ?k3 ?k4 ?k5 ?kK ?kp ?kd ?ku ?k0 ?_; (case k1 => k_asm); (case k2 => k_asm); (case k3 => k_asm); (case k4 => k_asm); (case k5 => k_asm); (case kK => first | exact rfl | assumption); (case kp => first | assumption | omega); (case kd => ktr_room); (case ku => ktr_units); (case k0 => (dsimp only; omega))); intro v9 h9 tk9 new9 le9 F9 N9 p9; (try dsimp only at le9); obtain ⟨e9, e8⟩ := p9; subst e9 e8; (try simp only [List.nil_append, List.cons_append] at N9); (try dsimp only); (try k_sweep); (try k_fold)))
local macro_rules | `(tactic| kxt_pos) => `(tactic| (k_here; (with_reducible show wpAny _ _ (call (Value.ref 116) [Value.int _ _, Value.int _ _, Value.int _ _]) _ _ _); k_dflt (refine' Con.use (con_tojd _ _ _ _ _ _ _) ?k1 ?k2 ?k3 ?k4 ?k5 ?kK ?kp ?kd ?ku ?k0 ?_; (case k1 => k_asm); (case k2 => k_asm); (case k3 => k_asm); (case k4 => k_asm); (case k5 => k_asm); (case kK => first | exact rfl | assumption); (case kp => first | ((refine tojd_pre ?_ ?_ ?_) <;> omega) | omega); (case kd => ktr_room); (case ku => ktr_units); (case k0 => (dsimp only; omega))); intro v9 h9 tk9 new9 le9 F9 N9 p9; (try dsimp only at le9); obtain ⟨e9, b9, t9, n9, e8⟩ := p9; subst e9 e8; (try simp only [List.nil_append, List.cons_append] at N9); (try dsimp only); (try k_sweep); (try k_fold)))
local macro_rules | `(tactic| kxt_pos) => `(tactic| (k_here; (with_reducible show wpAny _ _ (call (Value.ref 123) [Value.float _ _]) _ _ _); k_dflt (refine' Con.use (con_fromjd' _ _ _ _ _ (by assumption) _ (by first | rfl | assumption | omega) _) ?k1 ?k2 ?k3 ?k4 ?k5 ?kK ?kp ?kd ?ku ?k0 ?_; (case k1 => k_asm); (case k2 => k_asm); (case k3 => k_asm); (case k4 => k_asm); (case k5 => k_asm); (case kK => first | exact rfl | assumption); (case kp => trivial); (case kd => ktr_room); (case ku => ktr_units); (case k0 => (dsimp only; omega))); intro v9 h9 tk9 new9 le9 F9 N9 p9; (try dsimp only at le9); obtain ⟨a9, t9, u9, v9, e9, e8⟩ := p9; subst e9 e8; (try simp only [List.nil_append, List.cons_append] at N9); (try dsimp only); (try k_sweep); (try k_fold)))
local macro_rules | `(tactic| kxt_pos) => `(tactic| (k_here; (with_reducible show wpAny _ _ (call (Value.ref 131) [Value.int _ _]) _ _ _); k_dflt (refine' Con.use (con_leapj _ _ _ _) ?k1 ?k2 ?k3 ?k4 ?k5 ?kK ?kp ?kd ?ku ?k0 ?_; (case k1 => k_asm); (case k2 => k_asm); (case k3 => k_asm); (case k4 => k_asm); (case k5 => k_asm); (case kK => first | exact rfl | assumption); (case kp => first | assumption | exact rfl); (case kd => ktr_room); (case ku => ktr_units); (case k0 => (dsimp only; omega))); intro v9 h9 tk9 new9 le9 F9 N9 p9; (try dsimp only at le9); obtain ⟨e9, e8⟩ := p9; subst e9 e8; (try simp only [List.nil_append, List.cons_append] at N9); (try dsimp only); (try k_sweep); (try k_fold)))
local macro_rules | `(tactic| kxt_pos) => `(tactic| (k_here; (with_reducible show wpAny _ _ (call (Value.ref 138) [Value.int _ _, Value.int _ _]) _ _ _); k_dflt (refine' Con.use (con_mlenj _ _ _ _ _) ?k1 ?k2 ?k3 ?k4 ?k5 ?kK ?kp ?kd ?ku ?k0 ?_; (case k1 => k_asm); (case k2 => k_asm); (case k3 => k_asm); (case k4 => k_asm); (case k5 => k_asm); (case kK => first | exact rfl | assumption); (case kp => trivial); (case kd => ktr_room); (case ku => ktr_units); (case k0 => (dsimp only; omega))); intro v9 h9 tk9 new9 le9 F9 N9 p9; (try dsimp only at le9); obtain ⟨e9, t9, e8⟩ := p9; subst e9 e8; (try simp only [List.nil_append, List.cons_append] at N9); (try dsimp only); (try k_sweep); (try k_fold)))
local macro_rules | `(tactic| kxt_pos) => `(tactic| (k_here; (with_reducible show wpAny _ _ (call (Value.ref 145) [Value.int _ _, Value.int _ _, Value.int _ _]) _ _ _); k_dflt (refine' Con.use (con_legalj _ _ _ _ _ _ _) ?k1 ?k2 ?k3 ?k4 ?k5 ?kK ?kp ?kd ?ku ?k0 ?_; (case k1 => k_asm); (case k2 => k_asm); (case k3 => k_asm); (case k4 => k_asm); (case k5 => k_asm); (case kK => first | exact rfl | assumption); (case kp => first | assumption | omega); (case kd => ktr_room); (case ku => ktr_units); (case k0 => (dsimp only; omega))); intro v9 h9 tk9 new9 le9 F9 N9 p9; (try dsimp only at le9); obtain ⟨e9, e8⟩ := p9; subst e9 e8; (try simp only [List.nil_append, List.cons_append] at N9); (try dsimp only); (try k_sweep); (try k_fold)))
local macro_rules | `(tactic| kxt_pos) => `(tactic| (k_here; (with_reducible show wpAny _ _ (call (Value.ref 159) [Value.int _ _, Value.int _ _, Value.int _ _]) _ _ _); k_dflt (refine' Con.use (con_tojdj _ _ _ _ _ _ _) ?k1 ?k2 ?k3 ?k4 ?k5 ?kK ?kp ?kd ?ku ?k0 ?_; (case k1 => k_asm); (case k2 => k_asm); (case k3 => k_asm); (case k4 => k_asm); (case k5 => k_asm); (case kK => first | exact rfl | assumption); (case kp => first | assumption | omega); (case kd => ktr_room); (case ku => ktr_units); (case k0 => (dsimp only; omega))); intro v9 h9 tk9 new9 le9 F9 N9 p9; (try dsimp only at le9); obtain ⟨e9, t9, n9, e8⟩ := p9; subst e9 e8; (try simp only [List.nil_append, List.cons_append] at N9); (try dsimp only); (try k_sweep); (try k_fold)))
local macro_rules | `(tactic| kxt_pos) => `(tactic| (k_here; (with_reducible show wpAny _ _ (call (Value.ref 251) [Value.int _ _]) _ _ _); k_dflt (refine' Con.use (con_leapt _ _ _) ?k1 ?k2 ?k3 ?k4 ?k5 ?kK ?kp ?kd ?ku ?k0 ?_; (case k1 => k_asm); (case k2 => k_asm); (case k3 => k_asm); (case k4 => k_asm); (case k5 => k_asm); (case kK => first | exact rfl | assumption); (case kp => omega); (case kd => ktr_room); (case ku => ktr_units); (case k0 => (dsimp only; omega))); intro v9 h9 tk9 new9 le9 F9 N9 p9; (try dsimp only at le9); obtain ⟨e9, e8⟩ := p9; subst e9 e8; (try simp only [List.nil_append, List.cons_append] at N9); (try dsimp only); (try k_sweep); (try k_fold)))
local macro_rules | `(tactic| kxt_pos) => `(tactic| (k_here; (with_reducible show wpAny _ _ (call (Value.ref 251) [Value.int _ _]) _ _ _); k_dflt (refine' Con.use (con_leapf _ _ _) ?k1 ?k2 ?k3 ?k4 ?k5 ?kK ?kp ?kd ?ku ?k0 ?_; (case k1 => k_asm); (case k2 => k_asm); (case k3 => k_asm); (case k4 => k_asm); (case k5 => k_asm); (case kK => first | exact rfl | assumption); (case kp => omega); (case kd => ktr_room); (case ku => ktr_units); (case k0 => (dsimp only; omega))); intro v9 h9 tk9 new9 le9 F9 N9 p9; (try dsimp only at le9); obtain ⟨e9, e8⟩ := p9; subst e9 e8; (try simp only [List.nil_append, List.cons_append] at N9); (try dsimp only); (try k_sweep); (try k_fold)))
local macro_rules | `(tactic| kxt_pos) => `(tactic| (k_here; (with_reducible show wpAny _ _ (call (Value.ref 244) [Value.int _ _, Value.int _ _, Value.int _ _, Value.none]) _ _ _); k_dflt (refine' Con.use (con_valid _ _ _ _ _ _ _) ?k1 ?k2 ?k3 ?k4 ?k5 ?kK ?kp ?kd ?ku ?k0 ?_; (case k1 => k_asm); (case k2 => k_asm); (case k3 => k_asm); (case k4 => k_asm); (case k5 => k_asm); (case kK => first | exact rfl | assumption); (case kp => first | assumption | omega); (case kd => ktr_room); (case ku => ktr_units); (case k0 => (dsimp only; omega))); intro v9 h9 tk9 new9 le9 F9 N9 p9; (try dsimp only at le9); obtain ⟨e9, e8⟩ := p9; subst e9 e8; (try simp only [List.nil_append, List.cons_append] at N9); (try dsimp only); (try k_sweep); (try k_fold)))
local macro_rules | `(tactic| kxt_pos) => `(tactic| (k_here; (with_reducible show wpAny _ _ (call (Value.ref 244) [Value.int _ _, Value.int _ _, Value.int _ _, Value.str _ _]) _ _ _); k_dflt (refine' Con.use (con_valids _ _ _ _ _ _ _ _) ?k1 ?k2 ?k3 ?k4 ?k5 ?kK ?kp ?kd ?ku ?k0 ?_; (case k1 => k_asm); (case k2 => k_asm); (case k3 => k_asm); (case k4 => k_asm); (case k5 => k_asm); (case kK => first | exact rfl | assumption); (case kp => first | assumption | omega); (case kd => ktr_room); (case ku => ktr_units); (case k0 => (dsimp only; omega))); intro v9 h9 tk9 new9 le9 F9 N9 p9; (try dsimp only at le9); obtain ⟨e9, e8⟩ := p9; subst e9 e8; (try simp only [List.nil_append, List.cons_append] at N9); (try dsimp only); (try k_sweep); (try k_fold)))
local macro_rules | `(tactic| kxt_pos) => `(tactic| (k_here; (with_reducible show wpAny _ _ (call (Value.ref 259) [Value.int _ _, Value.int _ _, Value.int _ _, Value.none]) _ _ _); k_dflt (refine' Con.use (con_tojda _ _ _ _ _ _ _) ?k1 ?k2 ?k3 ?k4 ?k5 ?kK ?kp ?kd ?ku ?k0 ?_; (case k1 => k_asm); (case k2 => k_asm); (case k3 => k_asm); (case k4 => k_asm); (case k5 => k_asm); (case kK => first | exact rfl | assumption); (case kp => first | assumption | omega); (case kd => ktr_room); (case ku => ktr_units); (case k0 => (dsimp only; omega))); intro v9 h9 tk9 new9 le9 F9 N9 p9; (try dsimp only at le9); obtain ⟨e9, t9, n9, e8⟩ := p9; subst e9 e8; (try simp only [List.nil_append, List.cons_append] at N9); (try dsimp only); (try k_sweep); (try k_fold)))
local macro_rules | `(tactic| kxt_pos) => `(tactic| (k_here; (with_reducible show wpAny _ _ (call (Value.ref 259) [Value.int _ _, Value.int _ _, Value.int _ _]) _ _ _); k_dflt (refine' Con.use (con_tojda3 _ _ _ _ _ _ _) ?k1 ?k2 ?k3 ?k4 ?k5 ?kK ?kp ?kd ?ku ?k0 ?_; (case k1 => k_asm); (case k2 => k_asm); (case k3 => k_asm); (case k4 => k_asm); (case k5 => k_asm); (case kK => first | exact rfl | assumption); (case kp => first | assumption | omega); (case kd => ktr_room); (case ku => ktr_units); (case k0 => (dsimp only; omega))); intro v9 h9 tk9 new9 le9 F9 N9 p9; (try dsimp only at le9); obtain ⟨e9, t9, n9, e8⟩ := p9; subst e9 e8; (try simp only [List.nil_append, List.cons_append] at N9); (try dsimp only); (try k_sweep); (try k_fold)))
local macro_rules | `(tactic| kxt_pos) => `(tactic| (k_here; (with_reducible show wpAny _ _ (call (Value.ref 259) [Value.int _ _, Value.int _ _, Value.int _ _, Value.str _ _]) _ _ _); k_dflt (refine' Con.use (con_tojds _ _ _ _ _ _ _ _) ?k1 ?k2 ?k3 ?k4 ?k5 ?kK ?kp ?kd ?ku ?k0 ?_; (case k1 => k_asm); (case k2 => k_asm); (case k3 => k_asm); (case k4 => k_asm); (case k5 => k_asm); (case kK => first | exact rfl | assumption); (case kp => first | assumption | omega); (case kd => ktr_room); (case ku => ktr_units); (case k0 => (dsimp only; omega))); intro v9 h9 tk9 new9 le9 F9 N9 p9; (try dsimp only at le9); obtain ⟨e9, t9, n9, e8⟩ := p9; subst e9 e8; (try simp only [List.nil_append, List.cons_append] at N9); (try dsimp only); (try k_sweep); (try k_fold)))
local macro_rules | `(tactic| kxt_pos) => `(tactic| (k_here; (with_reducible show wpAny _ _ (call (Value.ref 267) [Value.float (H (2 * _ + 1)) _, Value.none]) _ _ _); k_dflt (refine' Con.use (con_fromjda _ _ _ _ _ _ _ _ _ _ (by assumption)) ?k1 ?k2 ?k3 ?k4 ?k5 ?kK ?kp ?kd ?ku ?k0 ?_; (case k1 => k_asm); (case k2 => k_asm); (case k3 => k_asm); (case k4 => k_asm); (case k5 => k_asm); (case kK => first | exact rfl | assumption); (case kp => trivial); (case kd => ktr_room); (case ku => ktr_units); (case k0 => (dsimp only; omega))); intro v9 h9 tk9 new9 le9 F9 N9 p9; (try dsimp only at le9); obtain ⟨a9, t9, u9, v9, e9, e8⟩ := p9; subst e9 e8; (try simp only [List.nil_append, List.cons_append] at N9); (try dsimp only); (try k_sweep); (try k_fold)))
local macro_rules | `(tactic| kxt_pos) => `(tactic| (k_here; (with_reducible show wpAny _ _ (call (Value.ref 267) [Value.float (H (2 * _ + 1)) _]) _ _ _); k_dflt (refine' Con.use (con_fromjda1 _ _ _ _ _ _ _ _ _ _ (by assumption)) ?k1 ?k2 ?k3 ?k4 ?k5 ?kK ?kp ?kd ?ku ?k0 ?_; (case k1 => k_asm); (case k2 => k_asm); (case k3 => k_asm); (case k4 => k_asm); (case k5 => k_asm); (case kK => first | exact rfl | assumption); (case kp => trivial); (case kd => ktr_room); (case ku => ktr_units); (case k0 => (dsimp only; omega))); intro v9 h9 tk9 new9 le9 F9 N9 p9; (try dsimp only at le9); obtain ⟨a9, t9, u9, v9, e9, e8⟩ := p9; subst e9 e8; (try simp only [List.nil_append, List.cons_append] at N9); (try dsimp only); (try k_sweep); (try k_fold)))
local macro_rules | `(tactic| kxt_pos) => `(tactic| (k_here; (with_reducible show wpAny _ _ (call (Value.ref 267) [Value.float (H (2 * _ + 1)) _, Value.str _ _]) _ _ _); k_dflt (refine' Con.use (con_fromjds _ _ _ _ _ _ _ _ _ _ _ _ _ (by assumption)) ?k1 ?k2 ?k3 ?k4 ?k5 ?kK ?kp ?kd ?ku ?k0 ?_; (case k1 => k_asm); (case k2 => k_asm); (case k3 => k_asm); (case k4 => k_asm); (case k5 => k_asm); (case kK => first | exact rfl | assumption); (case kp => trivial); (case kd => ktr_room); (case ku => ktr_units); (case k0 => (dsimp only; omega))); intro v9 h9 tk9 new9 le9 F9 N9 p9; (try dsimp only at le9); obtain ⟨a9, t9, u9, v9, e9, e8⟩ := p9; subst e9 e8; (try simp only [List.nil_append, List.cons_append] at N9); (try dsimp only); (try k_sweep); (try k_fold)))
local macro_rules | `(tactic| k_room) => `(tactic| ktr_room)
local macro_rules | `(tactic| k_mem) => `(tactic| first | (refine List.mem_cons_of_mem _ ?_; assumption) | (refine List.mem_cons_of_mem _ (List.mem_cons_of_mem _ ?_); assumption) | (refine List.mem_cons_of_mem _ (List.mem_cons_of_mem _ (List.mem_cons_of_mem _ ?_)); assumption))
local macro_rules | `(tactic| kxt_pos) => `(tactic| (k_here; (with_reducible show wpAny _ _ (call (Value.ref 152) [Value.float _ _]) _ _ _); k_dflt (refine' Con.use (con_fromjdjE _ _ _ _ _ _ _ _ _ _ _ (by assumption) _ (by first | rfl | assumption | omega) _) ?k1 ?k2 ?k3 ?k4 ?k5 ?kK ?kp ?kd ?ku ?k0 ?_; (case k1 => k_asm); (case k2 => k_asm); (case k3 => k_asm); (case k4 => k_asm); (case k5 => k_asm); (case kK => first | exact rfl | assumption); (case kp => trivial); (case kd => ktr_room); (case ku => ktr_units); (case k0 => (dsimp only; omega))); intro v9 h9 tk9 new9 le9 F9 N9 p9; (try dsimp only at le9); obtain ⟨a9, t9, u9, v9, e9, e8⟩ := p9; subst e9 e8; (try simp only [List.nil_append, List.cons_append] at N9); (try dsimp only); (try k_sweep); (try k_fold)))
local macro_rules | `(tactic| kxt_pos) => `(tactic| (k_here; (with_reducible show wpAny _ _ (call (Value.ref 313) [Value.float _ _]) _ _ _); k_dflt (refine' Con.use (con_fromjdcE _ _ _ _ _ _ _ (by assumption) _ (by first | rfl | assumption | omega) _) ?k1 ?k2 ?k3 ?k4 ?k5 ?kK ?kp ?kd ?ku ?k0 ?_; (case k1 => k_asm); (case k2 => k_asm); (case k3 => k_asm); (case k4 => k_asm); (case k5 => k_asm); (case kK => first | exact rfl | assumption); (case kp => trivial); (case kd => ktr_room); (case ku => ktr_units); (case k0 => (dsimp only; omega))); intro v9 h9 tk9 new9 le9 F9 N9 p9; (try dsimp only at le9); obtain ⟨a9, t9, u9, v9, e9, e8⟩ := p9; subst e9 e8; (try simp only [List.nil_append, List.cons_append] at N9); (try dsimp only); (try k_sweep); (try k_fold)))
local macro_rules | `(tactic| kxt_pos) => `(tactic| (k_here; (with_reducible show wpAny _ _ (call (Value.ref 369) [Value.float _ _]) _ _ _); k_dflt (refine' Con.use (con_fromjdiE _ _ _ _ _ (by assumption) _ (by first | rfl | assumption | omega) _) ?k1 ?k2 ?k3 ?k4 ?k5 ?kK ?kp ?kd ?ku ?k0 ?_; (case k1 => k_asm); (case k2 => k_asm); (case k3 => k_asm); (case k4 => k_asm); (case k5 => k_asm); (case kK => first | exact rfl | assumption); (case kp => trivial); (case kd => ktr_room); (case ku => ktr_units); (case k0 => (dsimp only; omega))); intro v9 h9 tk9 new9 le9 F9 N9 p9; (try dsimp only at le9); obtain ⟨a9, t9, u9, v9, e9, e8⟩ := p9; subst e9 e8; (try simp only [List.nil_append, List.cons_append] at N9); (try dsimp only); (try k_sweep); (try k_fold)))
local macro_rules | `(tactic| kxt_pos) => `(tactic| (k_here; (with_reducible show wpAny _ _ (call (Value.ref 341) [Value.float _ _]) _ _ _); k_dflt (refine' Con.use (con_fromjdnE _ _ _ _ _ _ _ _ _ (by assumption) _ (by first | rfl | assumption | omega) _) ?k1 ?k2 ?k3 ?k4 ?k5 ?kK ?kp ?kd ?ku ?k0 ?_; (case k1 => k_asm); (case k2 => k_asm); (case k3 => k_asm); (case k4 => k_asm); (case k5 => k_asm); (case kK => first | exact rfl | assumption); (case kp => trivial); (case kd => ktr_room); (case ku => ktr_units); (case k0 => (dsimp only; omega))); intro v9 h9 tk9 new9 le9 F9 N9 p9; (try dsimp only at le9); obtain ⟨a9, t9, u9, v9, e9, e8⟩ := p9; subst e9 e8; (try simp only [List.nil_append, List.cons_append] at N9); (try dsimp only); (try k_sweep); (try k_fold)))
local macro_rules | `(tactic| kxt_pos) => `(tactic| (k_here; (with_reducible show wpAny _ _ (call (Value.ref 516) [Value.float _ _]) _ _ _); k_dflt (refine' Con.use (con_fromjdpE _ _ _ _ _ _ _ _ _ _ _ _ _ _ _ (by assumption) _ (by first | rfl | assumption | omega) _) ?k1 ?k2 ?k3 ?k4 ?k5 ?kK ?kp ?kd ?ku ?k0 ?_; (case k1 => k_asm); (case k2 => k_asm); (case k3 => k_asm); (case k4 => k_asm); (case k5 => k_asm); (case kK => first | exact rfl | assumption); (case kp => trivial); (case kd => ktr_room); (case ku => ktr_units); (case k0 => (dsimp only; omega))); intro v9 h9 tk9 new9 le9 F9 N9 p9; (try dsimp only at le9); obtain ⟨a9, t9, u9, v9, e9, e8⟩ := p9; subst e9 e8; (try simp only [List.nil_append, List.cons_append] at N9); (try dsimp only); (try k_sweep); (try k_fold)))
local macro_rules | `(tactic| kxt_pos) => `(tactic| (k_here; (with_reducible show wpAny _ _ (call (Value.ref 453) [Value.float _ _]) _ _ _); k_dflt (refine' Con.use (con_fromjdmE _ _ _ _ _ _ _ _ _ _ _ _ (by assumption) _ (by first | rfl | assumption | omega) _) ?k1 ?k2 ?k3 ?k4 ?k5 ?kK ?kp ?kd ?ku ?k0 ?_; (case k1 => k_asm); (case k2 => k_asm); (case k3 => k_asm); (case k4 => k_asm); (case k5 => k_asm); (case kK => first | exact rfl | assumption); (case kp => trivial); (case kd => ktr_room); (case ku => ktr_units); (case k0 => (dsimp only; omega))); intro v9 h9 tk9 new9 le9 F9 N9 p9; (try dsimp only at le9); obtain ⟨a9, t9, u9, v9, w9, x9, e9, e8⟩ := p9; subst e9 e8; (try simp only [List.nil_append, List.cons_append] at N9); (try dsimp only); (try k_sweep); (try k_fold)))
local macro_rules | `(tactic| kxt_pos) => `(tactic| (k_here; (with_reducible show wpAny _ _ (call (Value.ref 267) [Value.float _ _, Value.none]) _ _ _); k_dflt (refine' Con.use (con_fromjdaE _ _ _ _ _ _ _ _ _ (by assumption) _ (by first | rfl | assumption | omega) _) ?k1 ?k2 ?k3 ?k4 ?k5 ?kK ?kp ?kd ?ku ?k0 ?_; (case k1 => k_asm); (case k2 => k_asm); (case k3 => k_asm); (case k4 => k_asm); (case k5 => k_asm); (case kK => first | exact rfl | assumption); (case kp => trivial); (case kd => ktr_room); (case ku => ktr_units); (case k0 => (dsimp only; omega))); intro v9 h9 tk9 new9 le9 F9 N9 p9; (try dsimp only at le9); obtain ⟨a9, t9, u9, v9, e9, e8⟩ := p9; subst e9 e8; (try simp only [List.nil_append, List.cons_append] at N9); (try dsimp only); (try k_sweep); (try k_fold)))
local macro_rules | `(tactic| kxt_pos) => `(tactic| (k_here; (with_reducible show wpAny _ _ (call (Value.ref 267) [Value.float _ _]) _ _ _); k_dflt (refine' Con.use (con_fromjda1E _ _ _ _ _ _ _ _ _ (by assumption) _ (by first | rfl | assumption | omega) _) ?k1 ?k2 ?k3 ?k4 ?k5 ?kK ?kp ?kd ?ku ?k0 ?_; (case k1 => k_asm); (case k2 => k_asm); (case k3 => k_asm); (case k4 => k_asm); (case k5 => k_asm); (case kK => first | exact rfl | assumption); (case kp => trivial); (case kd => ktr_room); (case ku => ktr_units); (case k0 => (dsimp only; omega))); intro v9 h9 tk9 new9 le9 F9 N9 p9; (try dsimp only at le9); obtain ⟨a9, t9, u9, v9, e9, e8⟩ := p9; subst e9 e8; (try simp only [List.nil_append, List.cons_append] at N9); (try dsimp only); (try k_sweep); (try k_fold)))
local macro_rules | `(tactic| kxt_pos) => `(tactic| (k_here; (with_reducible show wpAny _ _ (call (Value.ref 267) [Value.float _ _, Value.str _ _]) _ _ _); k_dflt (refine' Con.use (con_fromjdsE _ _ _ _ _ _ _ _ _ _ _ (by assumption) _ (by first | rfl | assumption | omega) _ _) ?k1 ?k2 ?k3 ?k4 ?k5 ?kK ?kp ?kd ?ku ?k0 ?_; (case k1 => k_asm); (case k2 => k_asm); (case k3 => k_asm); (case k4 => k_asm); (case k5 => k_asm); (case kK => first | exact rfl | assumption); (case kp => trivial); (case kd => ktr_room); (case ku => ktr_units); (case k0 => (dsimp only; omega))); intro v9 h9 tk9 new9 le9 F9 N9 p9; (try dsimp only at le9); obtain ⟨a9, t9, u9, v9, e9, e8⟩ := p9; subst e9 e8; (try simp only [List.nil_append, List.cons_append] at N9); (try dsimp only); (try k_sweep); (try k_fold)))
local macro_rules | `(tactic| kxt_pos) => `(tactic| (k_here; (with_reducible show wpAny _ _ (call (Value.ref 481) [Value.float _ _]) _ _ _); k_dflt (refine' Con.use (con_fromjdoE _ _ _ _ _ (by assumption) _ (by first | rfl | assumption | omega) _) ?k1 ?k2 ?k3 ?k4 ?k5 ?kK ?kp ?kd ?ku ?k0 ?_; (case k1 => k_asm); (case k2 => k_asm); (case k3 => k_asm); (case k4 => k_asm); (case k5 => k_asm); (case kK => first | exact rfl | assumption); (case kp => trivial); (case kd => ktr_room); (case ku => ktr_units); (case k0 => (dsimp only; omega))); intro v9 h9 tk9 new9 le9 F9 N9 p9; (try dsimp only at le9); obtain ⟨a9, t9, u9, e9, e8⟩ := p9; subst e9 e8; (try simp only [List.nil_append, List.cons_append] at N9); (try dsimp only); (try k_sweep); (try k_fold)))
local macro_rules | `(tactic| kxt_pos) => `(tactic| (k_here; (with_reducible show wpAny _ _ (call (Value.ref 397) [Value.float _ _]) _ _ _); k_dflt (refine' Con.use (con_fromjdwE _ _ _ _ _ (by assumption) (by assumption) _ (by first | rfl | assumption | omega) _) ?k1 ?k2 ?k3 ?k4 ?k5 ?kK ?kp ?kd ?ku ?k0 ?_; (case k1 => k_asm); (case k2 => k_asm); (case k3 => k_asm); (case k4 => k_asm); (case k5 => k_asm); (case kK => first | exact rfl | assumption); (case kp => trivial); (case kd => ktr_room); (case ku => ktr_units); (case k0 => (dsimp only; omega))); intro v9 h9 tk9 new9 le9 F9 N9 p9; (try dsimp only at le9); obtain ⟨a9, t9, e9, e8⟩ := p9; subst e9 e8; (try simp only [List.nil_append, List.cons_append] at N9); (try dsimp only); (try k_sweep); (try k_fold)))
local macro_rules | `(tactic| kxt_pos) => `(tactic| (k_here; (with_reducible show wpAny _ _ (call (Value.ref 537) [Value.int _ _, Value.ref _, Value.int _ _]) _ _ _); k_dflt (refine' Con.use (con_num _ _ (by assumption) _ _ (by assumption) _ _ _) ?k1 ?k2 ?k3 ?k4 ?k5 ?kK ?kp ?kd ?ku ?k0 ?_; (case k1 => k_asm); (case k2 => k_asm); (case k3 => k_asm); (case k4 => k_asm); (case k5 => k_asm); (case kK => first | exact rfl | assumption); (case kp => (refine' ⟨_, ?m9, ?r9⟩; (case m9 => first | assumption | exact List.mem_cons_self | k_mem); (case r9 => assumption))); (case kd => ktr_room); (case ku => ktr_units); (case k0 => (dsimp only; omega))); intro v9 h9 tk9 new9 le9 F9 N9 p9; (try dsimp only at le9); obtain ⟨e9, t9, n9, e8⟩ := p9; subst e9 e8; (try simp only [List.nil_append, List.cons_append] at N9); (try dsimp only); (try k_sweep); (try k_fold)))
local macro_rules | `(tactic| kxt_pos) => `(tactic| (k_here; (with_reducible show wpAny _ _ (call (Value.ref 544) [Value.int _ _, Value.float _ _, Value.int _ _]) _ _ _); k_dflt (refine' Con.use (con_dat _ _ (by assumption) _ _ (by assumption) (by assumption) _ (by first | rfl | assumption | omega) _ _ _) ?k1 ?k2 ?k3 ?k4 ?k5 ?kK ?kp ?kd ?ku ?k0 ?_; (case k1 => k_asm); (case k2 => k_asm); (case k3 => k_asm); (case k4 => k_asm); (case k5 => k_asm); (case kK => first | exact rfl | assumption); (case kp => assumption); (case kd => ktr_room); (case ku => ktr_units); (case k0 => (dsimp only; omega))); intro v9 h9 tk9 new9 le9 F9 N9 p9; (try dsimp only at le9); obtain ⟨b9, o9, e9, e8, r9⟩ := p9; subst e9 e8; (try simp only [List.nil_append, List.cons_append] at N9); (try dsimp only); (try k_sweep); (try k_fold)))
local macro_rules | `(tactic| kxt_pos) => `(tactic| (k_here; (with_reducible show wpAny _ _ (call (Value.ref 551) [Value.int _ _, Value.ref _, Value.int _ _]) _ _ _); k_dflt (refine' Con.use (con_gre _ _ (by assumption) _ _ (by assumption) _ _ _) ?k1 ?k2 ?k3 ?k4 ?k5 ?kK ?kp ?kd ?ku ?k0 ?_; (case k1 => k_asm); (case k2 => k_asm); (case k3 => k_asm); (case k4 => k_asm); (case k5 => k_asm); (case kK => first | exact rfl | assumption); (case kp => (refine' ⟨_, ?m9, ?r9⟩; (case m9 => first | assumption | exact List.mem_cons_self | k_mem); (case r9 => assumption))); (case kd => ktr_room); (case ku => ktr_units); (case k0 => (dsimp only; omega))); intro v9 h9 tk9 new9 le9 F9 N9 p9; (try dsimp only at le9); obtain ⟨b9, o9, e9, e8, r9⟩ := p9; subst e9 e8; (try simp only [List.nil_append, List.cons_append] at N9); (try dsimp only); (try k_sweep); (try k_fold)))
local macro_rules | `(tactic| kxt_pos) => `(tactic| (k_here; (with_reducible show wpAny _ _ (call (Value.ref 558) [Value.int _ _, Value.ref _, Value.int _ _]) _ _ _); k_dflt (refine' Con.use (con_bac _ _ (by assumption) _ _ (by assumption) (by assumption) _ _ _) ?k1 ?k2 ?k3 ?k4 ?k5 ?kK ?kp ?kd ?ku ?k0 ?_; (case k1 => k_asm); (case k2 => k_asm); (case k3 => k_asm); (case k4 => k_asm); (case k5 => k_asm); (case kK => first | exact rfl | assumption); (case kp => (refine' ⟨_, ?m9, ?r9⟩; (case m9 => first | assumption | exact List.mem_cons_self | k_mem); (case r9 => assumption))); (case kd => ktr_room); (case ku => ktr_units); (case k0 => (dsimp only; omega))); intro v9 h9 tk9 new9 le9 F9 N9 p9; (try dsimp only at le9); obtain ⟨b9, o9, e9, e8, r9⟩ := p9; subst e9 e8; (try simp only [List.nil_append, List.cons_append] at N9); (try dsimp only); (try k_sweep); (try k_fold)))
local macro_rules | `(tactic| walk_at "compareOp In int ref") => `(tactic| (k_here; (with_reducible rename News _ _ _ _ => kN); k_dflt (first | (refine' r_in4My kN ?k1 ?k3 ?_; (case k1 => exact List.mem_cons_self); (case k3 => omega)) | (refine' r_in4Mn kN ?k1 ?k3 ?_; (case k1 => exact List.mem_cons_self); (case k3 => omega)))))
theorem con_road1 (w : World) (D : Day) (K : D.Ok) (one other kind ep : Int) (hep : EpB ep) (h1 : 0 ≤ one ∧ one < 13) (h2 : 0 ≤ other ∧ other < 13) (a : Addr) (t u v x : Tok) : Con w 565 12 96 [.int one t, .int other u, .int 1 v, .ref a, .int ep x] (fun ns => ∃ o, (a, o) ∈ ns ∧ Rep D ep one o) (fun new v => Gives D ep other new v) := Apart.get (by simp (disch := k_dflt (
  unfold Con
  k_fill
  intro p loose mean mg mb dp un gd' cn cs a' ccd cl outer A₀ base h₀ L ma news s Q E B F X N T hk hpre hdp hun htk0 hret
  obtain ⟨o, hin, hr⟩ := hpre
  (refine wpAny_call ?_; refine' code_def (binds := [(Str.ofString "one", Value.int one t), (Str.ofString "other", Value.int other u), (Str.ofString "kind", Value.int 1 v), (Str.ofString "date_v", Value.ref a), (Str.ofString "epoch", Value.int ep x)]) B F X N T rfl rfl hk ?k6 ?k7 ?k8 ?k9 ?kB ?_ ?c2 ?c3 ?c4 ?c5; (case k6 => k_is); (case k7 => k_is); (case k8 => ktr_room); (case k9 => first | exact BindsTo.of_eq rfl | exact binds_K (by k_in) rfl (by k_is) rfl rfl rfl); (case kB => exact locs rfl); (case c2 => exact rfl); (case c3 => exact rfl); (case c4 => exact rfl); (case c5 => decide); intro g' L' h' FG' F' N' B' X' T'; dsimp only; k_fold)
  k_steps
  all_goals (refine hret _ _ _ [_] (by k_asm) (by first | k_asm | exact drop1 (by k_asm) | exact drop2 (by k_asm) | exact drop3 (by k_asm) | exact drop4 (by k_asm)) ⟨_, _, rfl, rfl, by assumption⟩)
  )) only [↓apart])
theorem con_road0 (w : World) (D : Day) (K : D.Ok) (one other kind ep : Int) (hep : EpB ep) (h1 : 0 ≤ one ∧ one < 13) (h2 : 0 ≤ other ∧ other < 13) (a : Addr) (t u v x : Tok) : Con w 565 12 96 [.int one t, .int other u, .int 0 v, .ref a, .int ep x] (fun ns => ∃ o, (a, o) ∈ ns ∧ Rep D ep one o) (fun new v => Gives D ep other new v) := Apart.get (by simp (disch := k_dflt (
  unfold Con
  k_fill
  intro p loose mean mg mb dp un gd' cn cs a' ccd cl outer A₀ base h₀ L ma news s Q E B F X N T hk hpre hdp hun htk0 hret
  obtain ⟨o, hin, hr⟩ := hpre
  (refine wpAny_call ?_; refine' code_def (binds := [(Str.ofString "one", Value.int one t), (Str.ofString "other", Value.int other u), (Str.ofString "kind", Value.int 0 v), (Str.ofString "date_v", Value.ref a), (Str.ofString "epoch", Value.int ep x)]) B F X N T rfl rfl hk ?k6 ?k7 ?k8 ?k9 ?kB ?_ ?c2 ?c3 ?c4 ?c5; (case k6 => k_is); (case k7 => k_is); (case k8 => ktr_room); (case k9 => first | exact BindsTo.of_eq rfl | exact binds_K (by k_in) rfl (by k_is) rfl rfl rfl); (case kB => exact locs rfl); (case c2 => exact rfl); (case c3 => exact rfl); (case c4 => exact rfl); (case c5 => decide); intro g' L' h' FG' F' N' B' X' T'; dsimp only; k_fold)
  k_steps
  all_goals (refine hret _ _ _ [_] (by k_asm) (by first | k_asm | exact drop1 (by k_asm) | exact drop2 (by k_asm) | exact drop3 (by k_asm) | exact drop4 (by k_asm)) ⟨_, _, rfl, rfl, by assumption⟩)
  )) only [↓apart])
theorem con_road2a (w : World) (D : Day) (K : D.Ok) (one other kind ep : Int) (hep : EpB ep) (h1 : 0 ≤ one ∧ one < 13) (h2 : 0 ≤ other ∧ other < 13) (h4 : one ≠ 2) (h5 : other ≠ 2) (a : Addr) (t u v x : Tok) : Con w 565 12 96 [.int one t, .int other u, .int 2 v, .ref a, .int ep x] (fun ns => ∃ o, (a, o) ∈ ns ∧ Rep D ep one o) (fun new v => Gives D ep other new v) := Apart.get (by simp (disch := k_dflt (
  unfold Con
  k_fill
  intro p loose mean mg mb dp un gd' cn cs a' ccd cl outer A₀ base h₀ L ma news s Q E B F X N T hk hpre hdp hun htk0 hret
  obtain ⟨o, hin, hr⟩ := hpre
  (refine wpAny_call ?_; refine' code_def (binds := [(Str.ofString "one", Value.int one t), (Str.ofString "other", Value.int other u), (Str.ofString "kind", Value.int 2 v), (Str.ofString "date_v", Value.ref a), (Str.ofString "epoch", Value.int ep x)]) B F X N T rfl rfl hk ?k6 ?k7 ?k8 ?k9 ?kB ?_ ?c2 ?c3 ?c4 ?c5; (case k6 => k_is); (case k7 => k_is); (case k8 => ktr_room); (case k9 => first | exact BindsTo.of_eq rfl | exact binds_K (by k_in) rfl (by k_is) rfl rfl rfl); (case kB => exact locs rfl); (case c2 => exact rfl); (case c3 => exact rfl); (case c4 => exact rfl); (case c5 => decide); intro g' L' h' FG' F' N' B' X' T'; dsimp only; k_fold)
  k_steps
  all_goals (refine hret _ _ _ [_] (by k_asm) (by first | k_asm | exact drop1 (by k_asm) | exact drop2 (by k_asm) | exact drop3 (by k_asm) | exact drop4 (by k_asm)) ⟨_, _, rfl, rfl, by assumption⟩)
  )) only [↓apart])
theorem con_road2b (w : World) (D : Day) (K : D.Ok) (one other kind ep : Int) (hep : EpB ep) (h2 : 0 ≤ other ∧ other < 13) (h4 : other ≠ 0 ∧ other ≠ 2 ∧ other ≠ 10 ∧ other ≠ 11 ∧ other ≠ 12) (a : Addr) (t u v x : Tok) : Con w 565 12 96 [.int 2 t, .int other u, .int 2 v, .ref a, .int ep x] (fun ns => ∃ o, (a, o) ∈ ns ∧ Rep D ep 2 o) (fun new v => Gives D ep other new v) := Apart.get (by simp (disch := k_dflt (
  unfold Con
  k_fill
  intro p loose mean mg mb dp un gd' cn cs a' ccd cl outer A₀ base h₀ L ma news s Q E B F X N T hk hpre hdp hun htk0 hret
  obtain ⟨o, hin, hr⟩ := hpre
  have h1 : (0 : Int) ≤ 2 ∧ (2 : Int) < 13 := by decide
  (refine wpAny_call ?_; refine' code_def (binds := [(Str.ofString "one", Value.int 2 t), (Str.ofString "other", Value.int other u), (Str.ofString "kind", Value.int 2 v), (Str.ofString "date_v", Value.ref a), (Str.ofString "epoch", Value.int ep x)]) B F X N T rfl rfl hk ?k6 ?k7 ?k8 ?k9 ?kB ?_ ?c2 ?c3 ?c4 ?c5; (case k6 => k_is); (case k7 => k_is); (case k8 => ktr_room); (case k9 => first | exact BindsTo.of_eq rfl | exact binds_K (by k_in) rfl (by k_is) rfl rfl rfl); (case kB => exact locs rfl); (case c2 => exact rfl); (case c3 => exact rfl); (case c4 => exact rfl); (case c5 => decide); intro g' L' h' FG' F' N' B' X' T'; dsimp only; k_fold)
  k_steps
  all_goals (refine hret _ _ _ [_] (by k_asm) (by first | k_asm | exact drop1 (by k_asm) | exact drop2 (by k_asm) | exact drop3 (by k_asm) | exact drop4 (by k_asm)) ⟨_, _, rfl, rfl, by assumption⟩)
  )) only [↓apart])
theorem con_road2c (w : World) (D : Day) (K : D.Ok) (one other kind ep : Int) (hep : EpB ep) (h1 : 0 ≤ one ∧ one < 13) (h4 : one ≠ 0 ∧ one ≠ 2 ∧ one ≠ 10 ∧ one ≠ 11 ∧ one ≠ 12) (a : Addr) (t u v x : Tok) : Con w 565 12 96 [.int one t, .int 2 u, .int 2 v, .ref a, .int ep x] (fun ns => ∃ o, (a, o) ∈ ns ∧ Rep D ep one o) (fun new v => Gives D ep 2 new v) := Apart.get (by simp (disch := k_dflt (
  unfold Con
  k_fill
  intro p loose mean mg mb dp un gd' cn cs a' ccd cl outer A₀ base h₀ L ma news s Q E B F X N T hk hpre hdp hun htk0 hret
  obtain ⟨o, hin, hr⟩ := hpre
  have h2 : (0 : Int) ≤ 2 ∧ (2 : Int) < 13 := by decide
  (refine wpAny_call ?_; refine' code_def (binds := [(Str.ofString "one", Value.int one t), (Str.ofString "other", Value.int 2 u), (Str.ofString "kind", Value.int 2 v), (Str.ofString "date_v", Value.ref a), (Str.ofString "epoch", Value.int ep x)]) B F X N T rfl rfl hk ?k6 ?k7 ?k8 ?k9 ?kB ?_ ?c2 ?c3 ?c4 ?c5; (case k6 => k_is); (case k7 => k_is); (case k8 => ktr_room); (case k9 => first | exact BindsTo.of_eq rfl | exact binds_K (by k_in) rfl (by k_is) rfl rfl rfl); (case kB => exact locs rfl); (case c2 => exact rfl); (case c3 => exact rfl); (case c4 => exact rfl); (case c5 => decide); intro g' L' h' FG' F' N' B' X' T'; dsimp only; k_fold)
  k_steps
  all_goals (refine hret _ _ _ [_] (by k_asm) (by first | k_asm | exact drop1 (by k_asm) | exact drop2 (by k_asm) | exact drop3 (by k_asm) | exact drop4 (by k_asm)) ⟨_, _, rfl, rfl, by assumption⟩)
  )) only [↓apart])
theorem con_road22 (w : World) (D : Day) (K : D.Ok) (one other kind ep : Int) (hep : EpB ep) (a : Addr) (t u v x : Tok) : Con w 565 12 96 [.int 2 t, .int 2 u, .int 2 v, .ref a, .int ep x] (fun ns => ∃ o, (a, o) ∈ ns ∧ Rep D ep 2 o) (fun new v => Gives D ep 2 new v) := Apart.get (by simp (disch := k_dflt (
  unfold Con
  k_fill
  intro p loose mean mg mb dp un gd' cn cs a' ccd cl outer A₀ base h₀ L ma news s Q E B F X N T hk hpre hdp hun htk0 hret
  obtain ⟨o, hin, hr⟩ := hpre
  have h2 : (0 : Int) ≤ 2 ∧ (2 : Int) < 13 := by decide
  (refine wpAny_call ?_; refine' code_def (binds := [(Str.ofString "one", Value.int 2 t), (Str.ofString "other", Value.int 2 u), (Str.ofString "kind", Value.int 2 v), (Str.ofString "date_v", Value.ref a), (Str.ofString "epoch", Value.int ep x)]) B F X N T rfl rfl hk ?k6 ?k7 ?k8 ?k9 ?kB ?_ ?c2 ?c3 ?c4 ?c5; (case k6 => k_is); (case k7 => k_is); (case k8 => ktr_room); (case k9 => first | exact BindsTo.of_eq rfl | exact binds_K (by k_in) rfl (by k_is) rfl rfl rfl); (case kB => exact locs rfl); (case c2 => exact rfl); (case c3 => exact rfl); (case c4 => exact rfl); (case c5 => decide); intro g' L' h' FG' F' N' B' X' T'; dsimp only; k_fold)
  k_steps
  all_goals (refine hret _ _ _ [_] (by k_asm) (by first | k_asm | exact drop1 (by k_asm) | exact drop2 (by k_asm) | exact drop3 (by k_asm) | exact drop4 (by k_asm)) ⟨_, _, rfl, rfl, by assumption⟩)
  )) only [↓apart])
theorem con_road2_0 (w : World) (D : Day) (K : D.Ok) (one other kind ep : Int) (hep : EpB ep) (a : Addr) (t u v x : Tok) : Con w 565 12 96 [.int 2 t, .int 0 u, .int 2 v, .ref a, .int ep x] (fun ns => ∃ o, (a, o) ∈ ns ∧ Rep D ep 2 o) (fun new v => Gives D ep 0 new v) := Apart.get (by simp (disch := k_dflt (
  unfold Con
  k_fill
  intro p loose mean mg mb dp un gd' cn cs a' ccd cl outer A₀ base h₀ L ma news s Q E B F X N T hk hpre hdp hun htk0 hret
  obtain ⟨o, hin, hr⟩ := hpre
  obtain ⟨_, _, _, _, _, _, GJ⟩ := K.jul
  obtain ⟨bm, bd, _, hbk⟩ := GJ.back
  have hjb := K.jb
  have hJ := K.bJ
  clear GJ
  cases hr
  (refine wpAny_call ?_; refine' code_def (binds := [(Str.ofString "one", Value.int 2 t), (Str.ofString "other", Value.int 0 u), (Str.ofString "kind", Value.int 2 v), (Str.ofString "date_v", Value.ref a), (Str.ofString "epoch", Value.int ep x)]) B F X N T rfl rfl hk ?k6 ?k7 ?k8 ?k9 ?kB ?_ ?c2 ?c3 ?c4 ?c5; (case k6 => k_is); (case k7 => k_is); (case k8 => ktr_room); (case k9 => first | exact BindsTo.of_eq rfl | exact binds_K (by k_in) rfl (by k_is) rfl rfl rfl); (case kB => exact locs rfl); (case c2 => exact rfl); (case c3 => exact rfl); (case c4 => exact rfl); (case c5 => decide); intro g' L' h' FG' F' N' B' X' T'; dsimp only; k_fold)
  k_steps
  all_goals (refine hret _ _ _ [_] (by k_asm) (by first | k_asm | exact drop1 (by k_asm) | exact drop2 (by k_asm) | exact drop3 (by k_asm) | exact drop4 (by k_asm)) ⟨_, _, rfl, rfl, by { rw [hbk]; exact .w0 _ (by assumption) }⟩)
  )) only [↓apart])
theorem con_road2_10 (w : World) (D : Day) (K : D.Ok) (one other kind ep : Int) (hep : EpB ep) (a : Addr) (t u v x : Tok) : Con w 565 12 96 [.int 2 t, .int 10 u, .int 2 v, .ref a, .int ep x] (fun ns => ∃ o, (a, o) ∈ ns ∧ Rep D ep 2 o) (fun new v => Gives D ep 10 new v) := Apart.get (by simp (disch := k_dflt (
  unfold Con
  k_fill
  intro p loose mean mg mb dp un gd' cn cs a' ccd cl outer A₀ base h₀ L ma news s Q E B F X N T hk hpre hdp hun htk0 hret
  obtain ⟨o, hin, hr⟩ := hpre
  obtain ⟨_, _, _, _, _, _, GJ⟩ := K.jul
  obtain ⟨bm, bd, _, hbk⟩ := GJ.back
  have hjb := K.jb
  have hJ := K.bJ
  clear GJ
  cases hr
  obtain ⟨_, _, _, _, GA⟩ := K.arm
  (refine wpAny_call ?_; refine' code_def (binds := [(Str.ofString "one", Value.int 2 t), (Str.ofString "other", Value.int 10 u), (Str.ofString "kind", Value.int 2 v), (Str.ofString "date_v", Value.ref a), (Str.ofString "epoch", Value.int ep x)]) B F X N T rfl rfl hk ?k6 ?k7 ?k8 ?k9 ?kB ?_ ?c2 ?c3 ?c4 ?c5; (case k6 => k_is); (case k7 => k_is); (case k8 => ktr_room); (case k9 => first | exact BindsTo.of_eq rfl | exact binds_K (by k_in) rfl (by k_is) rfl rfl rfl); (case kB => exact locs rfl); (case c2 => exact rfl); (case c3 => exact rfl); (case c4 => exact rfl); (case c5 => decide); intro g' L' h' FG' F' N' B' X' T'; dsimp only; k_fold)
  k_steps
  all_goals (refine hret _ _ _ [_] (by k_asm) (by first | k_asm | exact drop1 (by k_asm) | exact drop2 (by k_asm) | exact drop3 (by k_asm) | exact drop4 (by k_asm)) ⟨_, _, rfl, rfl, .w10 _ _ _⟩)
  )) only [↓apart])
theorem con_road2_11 (w : World) (D : Day) (K : D.Ok) (one other kind ep : Int) (hep : EpB ep) (a : Addr) (t u v x : Tok) : Con w 565 12 96 [.int 2 t, .int 11 u, .int 2 v, .ref a, .int ep x] (fun ns => ∃ o, (a, o) ∈ ns ∧ Rep D ep 2 o) (fun new v => Gives D ep 11 new v) := Apart.get (by simp (disch := k_dflt (
  unfold Con
  k_fill
  intro p loose mean mg mb dp un gd' cn cs a' ccd cl outer A₀ base h₀ L ma news s Q E B F X N T hk hpre hdp hun htk0 hret
  obtain ⟨o, hin, hr⟩ := hpre
  obtain ⟨_, _, _, _, _, _, GJ⟩ := K.jul
  obtain ⟨bm, bd, _, hbk⟩ := GJ.back
  have hjb := K.jb
  have hJ := K.bJ
  clear GJ
  cases hr
  obtain ⟨_, _, _, _, _, _, GS⟩ := K.sar
  (refine wpAny_call ?_; refine' code_def (binds := [(Str.ofString "one", Value.int 2 t), (Str.ofString "other", Value.int 11 u), (Str.ofString "kind", Value.int 2 v), (Str.ofString "date_v", Value.ref a), (Str.ofString "epoch", Value.int ep x)]) B F X N T rfl rfl hk ?k6 ?k7 ?k8 ?k9 ?kB ?_ ?c2 ?c3 ?c4 ?c5; (case k6 => k_is); (case k7 => k_is); (case k8 => ktr_room); (case k9 => first | exact BindsTo.of_eq rfl | exact binds_K (by k_in) rfl (by k_is) rfl rfl rfl); (case kB => exact locs rfl); (case c2 => exact rfl); (case c3 => exact rfl); (case c4 => exact rfl); (case c5 => decide); intro g' L' h' FG' F' N' B' X' T'; dsimp only; k_fold)
  k_steps
  all_goals (refine hret _ _ _ [_] (by k_asm) (by first | k_asm | exact drop1 (by k_asm) | exact drop2 (by k_asm) | exact drop3 (by k_asm) | exact drop4 (by k_asm)) ⟨_, _, rfl, rfl, .w11 _ _ _⟩)
  )) only [↓apart])
theorem con_road2_12 (w : World) (D : Day) (K : D.Ok) (one other kind ep : Int) (hep : EpB ep) (a : Addr) (t u v x : Tok) : Con w 565 12 96 [.int 2 t, .int 12 u, .int 2 v, .ref a, .int ep x] (fun ns => ∃ o, (a, o) ∈ ns ∧ Rep D ep 2 o) (fun new v => Gives D ep 12 new v) := Apart.get (by simp (disch := k_dflt (
  unfold Con
  k_fill
  intro p loose mean mg mb dp un gd' cn cs a' ccd cl outer A₀ base h₀ L ma news s Q E B F X N T hk hpre hdp hun htk0 hret
  obtain ⟨o, hin, hr⟩ := hpre
  obtain ⟨_, _, _, _, _, _, GJ⟩ := K.jul
  obtain ⟨bm, bd, _, hbk⟩ := GJ.back
  have hjb := K.jb
  have hJ := K.bJ
  clear GJ
  cases hr
  (refine wpAny_call ?_; refine' code_def (binds := [(Str.ofString "one", Value.int 2 t), (Str.ofString "other", Value.int 12 u), (Str.ofString "kind", Value.int 2 v), (Str.ofString "date_v", Value.ref a), (Str.ofString "epoch", Value.int ep x)]) B F X N T rfl rfl hk ?k6 ?k7 ?k8 ?k9 ?kB ?_ ?c2 ?c3 ?c4 ?c5; (case k6 => k_is); (case k7 => k_is); (case k8 => ktr_room); (case k9 => first | exact BindsTo.of_eq rfl | exact binds_K (by k_in) rfl (by k_is) rfl rfl rfl); (case kB => exact locs rfl); (case c2 => exact rfl); (case c3 => exact rfl); (case c4 => exact rfl); (case c5 => decide); intro g' L' h' FG' F' N' B' X' T'; dsimp only; k_fold)
  k_steps
  all_goals (refine hret _ _ _ [_] (by k_asm) (by first | k_asm | exact drop1 (by k_asm) | exact drop2 (by k_asm) | exact drop3 (by k_asm) | exact drop4 (by k_asm)) ⟨_, _, rfl, rfl, by { rw [hbk]; exact .w12 _ (Nat.succ_ne_zero _) }⟩)
  )) only [↓apart])
theorem con_road0_2 (w : World) (D : Day) (K : D.Ok) (one other kind ep : Int) (hep : EpB ep) (a : Addr) (t u v x : Tok) : Con w 565 12 96 [.int 0 t, .int 2 u, .int 2 v, .ref a, .int ep x] (fun ns => ∃ o, (a, o) ∈ ns ∧ Rep D ep 0 o) (fun new v => Gives D ep 2 new v) := Apart.get (by simp (disch := k_dflt (
  unfold Con
  k_fill
  intro p loose mean mg mb dp un gd' cn cs a' ccd cl outer A₀ base h₀ L ma news s Q E B F X N T hk hpre hdp hun htk0 hret
  obtain ⟨o, hin, hr⟩ := hpre
  obtain ⟨_, _, _, _, _, _, GJ⟩ := K.jul
  obtain ⟨bm, bd, _, hbk⟩ := GJ.back
  have hjb := K.jb
  have hJ := K.bJ
  cases hr
  (refine wpAny_call ?_; refine' code_def (binds := [(Str.ofString "one", Value.int 0 t), (Str.ofString "other", Value.int 2 u), (Str.ofString "kind", Value.int 2 v), (Str.ofString "date_v", Value.ref a), (Str.ofString "epoch", Value.int ep x)]) B F X N T rfl rfl hk ?k6 ?k7 ?k8 ?k9 ?kB ?_ ?c2 ?c3 ?c4 ?c5; (case k6 => k_is); (case k7 => k_is); (case k8 => ktr_room); (case k9 => first | exact BindsTo.of_eq rfl | exact binds_K (by k_in) rfl (by k_is) rfl rfl rfl); (case kB => exact locs rfl); (case c2 => exact rfl); (case c3 => exact rfl); (case c4 => exact rfl); (case c5 => decide); intro g' L' h' FG' F' N' B' X' T'; dsimp only; k_fold)
  k_steps
  all_goals (refine hret _ _ _ [_] (by k_asm) (by first | k_asm | exact drop1 (by k_asm) | exact drop2 (by k_asm) | exact drop3 (by k_asm) | exact drop4 (by k_asm)) ⟨_, _, rfl, rfl, .w2 _ _ _⟩)
  )) only [↓apart])
theorem con_road12_2 (w : World) (D : Day) (K : D.Ok) (one other kind ep : Int) (hep : EpB ep) (a : Addr) (t u v x : Tok) : Con w 565 12 96 [.int 12 t, .int 2 u, .int 2 v, .ref a, .int ep x] (fun ns => ∃ o, (a, o) ∈ ns ∧ Rep D ep 12 o) (fun new v => Gives D ep 2 new v) := Apart.get (by simp (disch := k_dflt (
  unfold Con
  k_fill
  intro p loose mean mg mb dp un gd' cn cs a' ccd cl outer A₀ base h₀ L ma news s Q E B F X N T hk hpre hdp hun htk0 hret
  obtain ⟨o, hin, hr⟩ := hpre
  obtain ⟨_, _, _, _, _, _, GJ⟩ := K.jul
  obtain ⟨bm, bd, _, hbk⟩ := GJ.back
  have hjb := K.jb
  have hJ := K.bJ
  cases hr
  (refine wpAny_call ?_; refine' code_def (binds := [(Str.ofString "one", Value.int 12 t), (Str.ofString "other", Value.int 2 u), (Str.ofString "kind", Value.int 2 v), (Str.ofString "date_v", Value.ref a), (Str.ofString "epoch", Value.int ep x)]) B F X N T rfl rfl hk ?k6 ?k7 ?k8 ?k9 ?kB ?_ ?c2 ?c3 ?c4 ?c5; (case k6 => k_is); (case k7 => k_is); (case k8 => ktr_room); (case k9 => first | exact BindsTo.of_eq rfl | exact binds_K (by k_in) rfl (by k_is) rfl rfl rfl); (case kB => exact locs rfl); (case c2 => exact rfl); (case c3 => exact rfl); (case c4 => exact rfl); (case c5 => decide); intro g' L' h' FG' F' N' B' X' T'; dsimp only; k_fold)
  k_steps
  all_goals (refine hret _ _ _ [_] (by k_asm) (by first | k_asm | exact drop1 (by k_asm) | exact drop2 (by k_asm) | exact drop3 (by k_asm) | exact drop4 (by k_asm)) ⟨_, _, rfl, rfl, .w2 _ _ _⟩)
  )) only [↓apart])
theorem con_road10_2 (w : World) (D : Day) (K : D.Ok) (one other kind ep : Int) (hep : EpB ep) (a : Addr) (t u v x : Tok) : Con w 565 12 96 [.int 10 t, .int 2 u, .int 2 v, .ref a, .int ep x] (fun ns => ∃ o, (a, o) ∈ ns ∧ Rep D ep 10 o) (fun new v => Gives D ep 2 new v) := Apart.get (by simp (disch := k_dflt (
  unfold Con
  k_fill
  intro p loose mean mg mb dp un gd' cn cs a' ccd cl outer A₀ base h₀ L ma news s Q E B F X N T hk hpre hdp hun htk0 hret
  obtain ⟨o, hin, hr⟩ := hpre
  obtain ⟨_, _, _, _, _, _, GJ⟩ := K.jul
  obtain ⟨bm, bd, _, hbk⟩ := GJ.back
  have hjb := K.jb
  have hJ := K.bJ
  cases hr
  obtain ⟨_, _, _, _, GA⟩ := K.arm
  have gb := GA.bnd
  have gk := GA.back
  clear GA
  (refine wpAny_call ?_; refine' code_def (binds := [(Str.ofString "one", Value.int 10 t), (Str.ofString "other", Value.int 2 u), (Str.ofString "kind", Value.int 2 v), (Str.ofString "date_v", Value.ref a), (Str.ofString "epoch", Value.int ep x)]) B F X N T rfl rfl hk ?k6 ?k7 ?k8 ?k9 ?kB ?_ ?c2 ?c3 ?c4 ?c5; (case k6 => k_is); (case k7 => k_is); (case k8 => ktr_room); (case k9 => first | exact BindsTo.of_eq rfl | exact binds_K (by k_in) rfl (by k_is) rfl rfl rfl); (case kB => exact locs rfl); (case c2 => exact rfl); (case c3 => exact rfl); (case c4 => exact rfl); (case c5 => decide); intro g' L' h' FG' F' N' B' X' T'; dsimp only; k_fold)
  k_steps
  all_goals (refine hret _ _ _ [_] (by k_asm) (by first | k_asm | exact drop1 (by k_asm) | exact drop2 (by k_asm) | exact drop3 (by k_asm) | exact drop4 (by k_asm)) ⟨_, _, rfl, rfl, .w2 _ _ _⟩)
  )) only [↓apart])
theorem con_road11_2 (w : World) (D : Day) (K : D.Ok) (one other kind ep : Int) (hep : EpB ep) (a : Addr) (t u v x : Tok) : Con w 565 12 96 [.int 11 t, .int 2 u, .int 2 v, .ref a, .int ep x] (fun ns => ∃ o, (a, o) ∈ ns ∧ Rep D ep 11 o) (fun new v => Gives D ep 2 new v) := Apart.get (by simp (disch := k_dflt (
  unfold Con
  k_fill
  intro p loose mean mg mb dp un gd' cn cs a' ccd cl outer A₀ base h₀ L ma news s Q E B F X N T hk hpre hdp hun htk0 hret
  obtain ⟨o, hin, hr⟩ := hpre
  obtain ⟨_, _, _, _, _, _, GJ⟩ := K.jul
  obtain ⟨bm, bd, _, hbk⟩ := GJ.back
  have hjb := K.jb
  have hJ := K.bJ
  cases hr
  obtain ⟨_, _, _, _, _, _, GS⟩ := K.sar
  have gb := GS.bnd
  have gk := GS.back
  clear GS
  (refine wpAny_call ?_; refine' code_def (binds := [(Str.ofString "one", Value.int 11 t), (Str.ofString "other", Value.int 2 u), (Str.ofString "kind", Value.int 2 v), (Str.ofString "date_v", Value.ref a), (Str.ofString "epoch", Value.int ep x)]) B F X N T rfl rfl hk ?k6 ?k7 ?k8 ?k9 ?kB ?_ ?c2 ?c3 ?c4 ?c5; (case k6 => k_is); (case k7 => k_is); (case k8 => ktr_room); (case k9 => first | exact BindsTo.of_eq rfl | exact binds_K (by k_in) rfl (by k_is) rfl rfl rfl); (case kB => exact locs rfl); (case c2 => exact rfl); (case c3 => exact rfl); (case c4 => exact rfl); (case c5 => decide); intro g' L' h' FG' F' N' B' X' T'; dsimp only; k_fold)
  k_steps
  all_goals (refine hret _ _ _ [_] (by k_asm) (by first | k_asm | exact drop1 (by k_asm) | exact drop2 (by k_asm) | exact drop3 (by k_asm) | exact drop4 (by k_asm)) ⟨_, _, rfl, rfl, .w2 _ _ _⟩)
  )) only [↓apart])
end
section
open PySem PySem.W PySem.Spec PySem.Calls PyProof.Rows
set_option maxHeartbeats 4000000
theorem con_road (w : World) (D : Day) (K : D.Ok) (one other kind ep : Int) (h1 : 0 ≤ one ∧ one < 13) (h2 : 0 ≤ other ∧ other < 13) (h3 : 0 ≤ kind ∧ kind < 3) (hep : EpB ep) (a : Addr) (t u v x : Tok) :
    Con w 565 12 96 [.int one t, .int other u, .int kind v, .ref a, .int ep x] (fun ns => ∃ o, (a, o) ∈ ns ∧ Rep D ep one o) (fun new v => Gives D ep other new v) := by
  have h : kind = 0 ∨ kind = 1 ∨ kind = 2 := by omega
  rcases h with rfl | rfl | rfl
  · exact con_road0 w D K one other 0 ep hep h1 h2 a t u v x
  · exact con_road1 w D K one other 1 ep hep h1 h2 a t u v x
  by_cases q1 : one = 2
  · subst q1
    by_cases c0 : other = 0
    · subst c0; exact con_road2_0 w D K 2 0 2 ep hep a t u v x
    by_cases c1 : other = 10
    · subst c1; exact con_road2_10 w D K 2 10 2 ep hep a t u v x
    by_cases c2 : other = 11
    · subst c2; exact con_road2_11 w D K 2 11 2 ep hep a t u v x
    by_cases c3 : other = 12
    · subst c3; exact con_road2_12 w D K 2 12 2 ep hep a t u v x
    by_cases c4 : other = 2
    · subst c4; exact con_road22 w D K 2 2 2 ep hep a t u v x
    exact con_road2b w D K 2 other 2 ep hep h2 ⟨c0, c4, c1, c2, c3⟩ a t u v x
  by_cases q2 : other = 2
  · subst q2
    by_cases c0 : one = 0
    · subst c0; exact con_road0_2 w D K 0 2 2 ep hep a t u v x
    by_cases c1 : one = 10
    · subst c1; exact con_road10_2 w D K 10 2 2 ep hep a t u v x
    by_cases c2 : one = 11
    · subst c2; exact con_road11_2 w D K 11 2 2 ep hep a t u v x
    by_cases c3 : one = 12
    · subst c3; exact con_road12_2 w D K 12 2 2 ep hep a t u v x
    exact con_road2c w D K one 2 2 ep hep h1 ⟨c0, q1, c1, c2, c3⟩ a t u v x
  exact con_road2a w D K one other 2 ep hep h1 h2 q1 q2 a t u v x
section
variable {prog : Program} {w : World} {A : Around} {E : Value → Shared → Prop} {s : Shared} {h₀ : Heap} {L : Addr} {mp : Str → Option Value} {news : List (Addr × Obj)} {Q : Value → Shared → Prop}
theorem Rep.same {D : Day} {ep way : Int} {o o' : Obj} (K : D.Ok) (hep : EpB ep) (r : Rep D ep way o) (r' : Rep D ep way o') {a b : Addr} (N : News h₀ L s.heap news) (ha : (a, o) ∈ news) (hb : (b, o') ∈ news) (hu : A.units < cLine) (hnb : NoneBooked s.heap) (h : Q (.bool true) s) :
    wpAny (model prog w) A (compareOp .Eq (.ref a) (.ref b)) Q E s := by
  have hJ := K.bJ
  cases r with
  | w0 t e => cases r' with | w0 t' e' => exact tup_eq (r := [_]) (q := [_]) N ha hb hu (.flt _ (by omega) _ _ e e' .nil) hnb h
  | w1 t1 t2 t3 => cases r' with | w1 => exact tup_eq (r := [_, _, _]) (q := [_, _, _]) N ha hb hu (.int _ _ _ (.int _ _ _ (.int _ _ _ .nil))) hnb h
  | w2 t1 t2 t3 => cases r' with | w2 => exact tup_eq (r := [_, _, _]) (q := [_, _, _]) N ha hb hu (.int _ _ _ (.int _ _ _ (.int _ _ _ .nil))) hnb h
  | w3 t1 t2 t3 => cases r' with | w3 => exact tup_eq (r := [_, _, _]) (q := [_, _, _]) N ha hb hu (.int _ _ _ (.int _ _ _ (.int _ _ _ .nil))) hnb h
  | w4 t1 t2 t3 => cases r' with | w4 => exact tup_eq (r := [_, _, _]) (q := [_, _, _]) N ha hb hu (.int _ _ _ (.int _ _ _ (.int _ _ _ .nil))) hnb h
  | w5 t1 t2 t3 => cases r' with | w5 => exact tup_eq (r := [_, _, _]) (q := [_, _, _]) N ha hb hu (.int _ _ _ (.int _ _ _ (.int _ _ _ .nil))) hnb h
  | w6 t1 t2 => cases r' with | w6 => exact tup_eq (r := [_, _]) (q := [_, _]) N ha hb hu (.int _ _ _ (.int _ _ _ .nil)) hnb h
  | w7 tk => cases r' with | w7 => exact iso_eq N ha hb hu h
  | w8 t1 t2 t3 => cases r' with | w8 => exact tup_eq (r := [_, _, _]) (q := [_, _, _]) N ha hb hu (.int _ _ _ (.int _ _ _ (.int _ _ _ .nil))) hnb h
  | w9 t1 t2 t3 t4 t5 => cases r' with | w9 => exact tup_eq (r := [_, _, _, _, _]) (q := [_, _, _, _, _]) N ha hb hu (.int _ _ _ (.int _ _ _ (.int _ _ _ (.int _ _ _ (.int _ _ _ .nil))))) hnb h
  | w10 t1 t2 t3 => cases r' with | w10 => exact tup_eq (r := [_, _, _]) (q := [_, _, _]) N ha hb hu (.int _ _ _ (.int _ _ _ (.int _ _ _ .nil))) hnb h
  | w11 t1 t2 t3 => cases r' with | w11 => exact tup_eq (r := [_, _, _]) (q := [_, _, _]) N ha hb hu (.int _ _ _ (.int _ _ _ (.int _ _ _ .nil))) hnb h
  | w12 t e => cases r' with | w12 t' e' => exact tup_eq (r := [_]) (q := [_]) N ha hb hu (.flt _ (by omega) _ _ e e' .nil) hnb h
theorem Rep.cls {D : Day} {ep way : Int} {o : Obj} (r : Rep D ep way o) : o.cls ≠ .type "range_iterator" := by
  cases r <;> (intro h; injection h with h; exact absurd h (by decide))
end
end
section
open PySem PySem.W PySem.Spec PySem.Calls PyProof.Rows
set_option maxHeartbeats 4000000
theorem day_keep {J W y m d : Int} (hW : W = 2 * J + 1) (hJ : 2374479 ≤ J ∧ J < 5274479) (G : Greg J y m d) (h9 : y ≤ 9999) (hn : ¬ (y % 400 = 0 ∧ m = 12 ∧ d = 31)) : ∃ D : Day, D.Ok ∧ W = 2 * D.J + 1 := by
  obtain ⟨D, e, K⟩ := the_day hJ G h9 hn
  exact ⟨D, K, by rw [e]; exact hW⟩
theorem day_back {J W Z y m d : Int} (hW : W = 2 * J + 1) (hJ : 2374479 ≤ J ∧ J < 5274479) (G : Greg J y m d) (h9 : y ≤ 9999) (hy : y % 400 = 0) (hm : m = 12) (hd : d = 31) (hZ : Z = W - 2 * 1) : ∃ D : Day, D.Ok ∧ Z = 2 * D.J + 1 := by
  subst hm hd
  have e := G.eq
  have e1 : J - 1 = gJ y 12 30 := by rw [e]; unfold gJ doy; omega
  have hb : 2374479 ≤ J - 1 := by
    have hl : leapB y = true := by rw [leap_iff]; omega
    unfold gJ gY doy at e
    rw [hl] at e
    simp only [show ((12 : Int) ≤ 2) = False from by decide, if_true, if_false] at e
    omega
  obtain ⟨D, e2, K⟩ := the_day (J := J - 1) (y := y) (m := 12) (d := 30) (by omega) ⟨G.y1, G.y2, by decide, by decide, by decide, by unfold mlen; simp, e1⟩ h9 (by omega)
  exact ⟨D, K, by rw [e2]; omega⟩
theorem day_back' {J W Z y m d : Int} (hW : W = 2 * J + 1) (hJ : 2374479 ≤ J ∧ J < 5274479) (G : Greg J y m d) (h9 : y ≤ 9999) (hy : y % 400 = 0) (hb : (m == 12 && d == 31) = true) (hZ : Z = W - 2 * 1) : ∃ D : Day, D.Ok ∧ Z = 2 * D.J + 1 := by
  simp only [Bool.and_eq_true, beq_iff_eq] at hb
  exact day_back hW hJ G h9 hy hb.1 hb.2 hZ
theorem day_keep' {J W y m d : Int} (hW : W = 2 * J + 1) (hJ : 2374479 ≤ J ∧ J < 5274479) (G : Greg J y m d) (h9 : y ≤ 9999) (hb : (m == 12 && d == 31) = false) : ∃ D : Day, D.Ok ∧ W = 2 * D.J + 1 :=
  day_keep hW hJ G h9 (by
    rintro ⟨_, h1, h2⟩
    subst h1 h2
    cases hb)
theorem day_keep2 {J W y m d : Int} (hW : W = 2 * J + 1) (hJ : 2374479 ≤ J ∧ J < 5274479) (G : Greg J y m d) (h9 : y ≤ 9999) (hb : y % 400 ≠ 0) : ∃ D : Day, D.Ok ∧ W = 2 * D.J + 1 :=
  day_keep hW hJ G h9 fun h => hb h.1
section
variable {M : Model} {A : Around} {E : Value → Shared → Prop} {s : Shared} {env : Env} {x : Str} {t : Tok}
theorem st_num {Q : Unit → Shared → Prop} {r : Int} (h : ∀ J W y m d, W = 2 * J + 1 → (2374479 ≤ J ∧ J < 5274479) → Greg J y m d → y ≤ 9999 → wpAny M A (storeName env x (.float (H W) t)) Q E s) :
    wpAny M A (storeName env x (.float (H (4748959 + 2 * (r % 2900000))) t)) Q E s := by
  obtain ⟨y, m, d, G, h9⟩ := greg_of (2374479 + r % 2900000) (by omega)
  exact h _ _ y m d (by omega) (by omega) G h9
/-- behind the statement that steps back from a year's last day -/
def IfPost (h₀ : Heap) (L : Addr) (m : Str → Option Value) (news : Led) (s : Shared) (f : Flow) (s' : Shared) : Prop :=
  f = .next ∧ ∃ D : Day, D.Ok ∧ ∃ W t h' tk, W = 2 * D.J + 1 ∧ t ≠ 0 ∧ 0 < tk ∧ s' = { s with heap := h', toks := tk } ∧ Fr h₀ L h' (fun y => if y = Str.ofString "number" then some (.float (H W) t) else m y) ∧ News h₀ L h' news
theorem if_num {h₀ : Heap} {L : Addr} {m : Str → Option Value} {news : Led} {st : Stmt} {Q : Flow → Shared → Prop} (_F : Fr h₀ L s.heap m) (_N : News h₀ L s.heap news)
    (walk : wpAny M A (exec st env) (IfPost h₀ L m news s) E s)
    (cont : ∀ (D : Day), D.Ok → ∀ W t h' tk, W = 2 * D.J + 1 → t ≠ 0 → 0 < tk → Fr h₀ L h' (fun y => if y = Str.ofString "number" then some (.float (H W) t) else m y) → News h₀ L h' news → Q .next { s with heap := h', toks := tk }) :
    wpAny M A (exec st env) Q E s :=
  wpAny_mono walk (fun f s' p => by
    obtain ⟨rfl, D, K, W, t, h', tk, hW, ht, htk, rfl, F', N'⟩ := p
    exact cont D K W t h' tk hW ht htk F' N') fun _ _ x => x
theorem IfPost.new {h₀ : Heap} {L : Addr} {m : Str → Option Value} {news : Led} {W : Int} {h' : Heap} {tk : Nat} (F : Fr h₀ L h' (fun y => if y = Str.ofString "number" then some (.float (H W) t) else m y)) (N : News h₀ L h' news) (hD : ∃ D : Day, D.Ok ∧ W = 2 * D.J + 1) (ht : t ≠ 0) (htk : 0 < tk) :
    IfPost h₀ L m news s .next { s with heap := h', toks := tk } := by
  obtain ⟨D, K, hW⟩ := hD
  exact ⟨rfl, D, K, W, t, h', tk, hW, ht, htk, rfl, F, N⟩
theorem IfPost.keep {h₀ : Heap} {L : Addr} {m : Str → Option Value} {news : Led} {W : Int} {h' : Heap} {tk : Nat} (F : Fr h₀ L h' m) (N : News h₀ L h' news) (hD : ∃ D : Day, D.Ok ∧ W = 2 * D.J + 1) (hm : m (Str.ofString "number") = some (.float (H W) t)) (ht : t ≠ 0) (htk : 0 < tk) :
    IfPost h₀ L m news s .next { s with heap := h', toks := tk } := by
  refine IfPost.new (W := W) (t := t) ?_ N hD ht htk
  have e : (fun y => if y = Str.ofString "number" then some (.float (H W) t) else m y) = m := by
    funext y
    by_cases h : y = Str.ofString "number"
    · rw [if_pos h, h, hm]
    · rw [if_neg h]
  rw [e]; exact F
theorem st_m13 {Q : Unit → Shared → Prop} {r : Int} (h : ∀ z, 0 ≤ z ∧ z < 13 → wpAny M A (storeName env x (.int z t)) Q E s) : wpAny M A (storeName env x (.int (r % 13) t)) Q E s := h _ (by omega)
theorem st_ep {Q : Unit → Shared → Prop} {r : Int} (hb : EpB r) (h : ∀ z, EpB z → wpAny M A (storeName env x (.int z t)) Q E s) : wpAny M A (storeName env x (.int r t)) Q E s := h _ hb
theorem getD_bound (l : List Int) (i : Nat) (h : ∀ x ∈ l, EpB x) : EpB (l.getD i 0) := by
  rw [List.getD_eq_getElem?_getD]
  cases e : l[i]? with
  | none => exact ⟨by decide, by decide⟩
  | some v => exact h v (List.mem_of_getElem? e)
end
end
section
open PySem PySem.W PySem.Spec PySem.Calls PyProof.Rows
set_option maxHeartbeats 4000000
theorem range_small {b : Int} (h : -100 ≤ b ∧ b ≤ 100) : Builtin.Range.small 2 b 2 = true := by
  unfold Builtin.Range.small Builtin.Range.rangeSize
  simp only [Builtin.Range.rangeFitsLong, Bool.and_eq_true, Bool.or_eq_true, decide_eq_true_eq, beq_iff_eq, show (2 : Int) > 0 by decide, if_true]
  split <;> omega
theorem range_n {b : Int} (h : -100 ≤ b ∧ b ≤ 100) : ∃ n : Nat, Builtin.Range.rangeSize 2 b 2 = (n : Int) ∧ ∀ i : Nat, i < n → (2 : Int) + (i : Int) * 2 < b := by
  unfold Builtin.Range.rangeSize
  rw [if_pos (by decide)]
  split
  · refine ⟨((b - 2 - 1) / 2 + 1).toNat, by omega, fun i hi => by omega⟩
  · exact ⟨0, rfl, fun i hi => absurd hi (by omega)⟩
/-- the law's names between two turns -/
def LMap (z : Int) (t : Tok) (b : Addr) (u1 u2 : Option Value) (m₀ : Str → Option Value) : Str → Option Value := fun y =>
  if y = Str.ofString "way" then some (.int z t) else if y = Str.ofString "date_v" then some (.ref b) else if y = Str.ofString "other" then u1 else if y = Str.ofString "k" then u2 else m₀ y
theorem LMap.start {z : Int} {t : Tok} {b : Addr} {m₀ : Str → Option Value} (h1 : m₀ (Str.ofString "way") = some (.int z t)) (h2 : m₀ (Str.ofString "date_v") = some (.ref b)) :
    m₀ = LMap z t b (m₀ (Str.ofString "other")) (m₀ (Str.ofString "k")) m₀ := by
  funext y
  unfold LMap
  split
  · next h => rw [h, h1]
  split
  · next h => rw [h, h2]
  split
  · next h => rw [h]
  split
  · next h => rw [h]
  rfl
theorem LMap.step {z z' : Int} {t t' tk : Tok} {k : Int} {b b' : Addr} {v u1 u2 : Option Value} {m₀ : Str → Option Value} :
    (fun y => if y = Str.ofString "way" then some (Value.int z' t') else if y = Str.ofString "date_v" then some (.ref b') else if y = Str.ofString "other" then v else if y = Str.ofString "k" then some (.int k tk) else LMap z t b u1 u2 m₀ y) = LMap z' t' b' v (some (.int k tk)) m₀ := by
  funext y
  unfold LMap
  split
  · rfl
  split
  · rfl
  split
  · rfl
  split
  · rfl
  rfl
/-- behind a turn -/
def TurnPost (h₀ : Heap) (L : Addr) (m₀ : Str → Option Value) (news : Led) (D : Day) (ep : Int) (I : Addr) (it : Obj) (s₁ : Shared) (f : Flow) (s₂ : Shared) : Prop :=
  f = .next ∧ ∃ h' tk z t b o u1 u2, s₂ = { s₁ with heap := h', toks := tk } ∧ Fr h₀ L h' (LMap z t b u1 u2 m₀) ∧ News h₀ L h' ((I, it) :: (b, o) :: news) ∧ (0 ≤ z ∧ z < 13) ∧ Rep D ep z o
section
variable {prog : Program} {w : World} {A : Around} {E : Value → Shared → Prop} {s : Shared} {env : Env} {h₀ : Heap} {body : List Stmt} {Q : Flow → Shared → Prop}
theorem law_loop {r : Addr} {b₀ : Int} {t₀ u₀ v₀ : Tok} {m₀ : Str → Option Value} {news : Led} {D : Day} {ep z₀ : Int} {t₁ : Tok} {b₁ : Addr} {o₁ : Obj}
    (hh : A.handled = none) (hr : IsRange s.heap r 2 b₀ 2 t₀ u₀ v₀) (hb : -100 ≤ b₀ ∧ b₀ ≤ 100) (F : Fr h₀ env.locals s.heap m₀) (N : News h₀ env.locals s.heap news)
    (hway : m₀ (Str.ofString "way") = some (.int z₀ t₁)) (hdate : m₀ (Str.ofString "date_v") = some (.ref b₁)) (hz : 0 ≤ z₀ ∧ z₀ < 13) (hin : (b₁, o₁) ∈ news) (hrep : Rep D ep z₀ o₁)
    (turn : ∀ (k : Int) (I : Addr) (it : Obj) (z : Int) (t : Tok) (b : Addr) (o : Obj) (u1 u2 : Option Value) (t' : Tok) (h : Heap) (tk : Nat), it.cls = .type "range_iterator" → (2 ≤ k ∧ k < b₀) → (0 ≤ z ∧ z < 13) → Rep D ep z o →
      Fr h₀ env.locals h (fun y => if y = Str.ofString "k" then some (.int k t') else LMap z t b u1 u2 m₀ y) → News h₀ env.locals h ((I, it) :: (b, o) :: news) →
      wpAny (model prog w) A (execs body env) (TurnPost h₀ env.locals m₀ news D ep I it { s with heap := h, toks := tk }) E { s with heap := h, toks := tk })
    (done : ∀ (z : Int) (t : Tok) (b : Addr) (o : Obj) (u1 u2 : Option Value) (h : Heap) (tk : Nat), (0 ≤ z ∧ z < 13) → Rep D ep z o → Fr h₀ env.locals h (LMap z t b u1 u2 m₀) → News h₀ env.locals h ((b, o) :: news) → Q .next { s with heap := h, toks := tk }) :
    wpAny (model prog w) A (pyIter (.ref r)) (fun it s₂ => LoopAtV prog w A h₀ env (Str.ofString "k") body Q E it s₂) E s := by
  obtain ⟨n, hn, hk⟩ := range_n hb
  refine krs_iter hh hr (range_small hb) hn F N fun I hI => ?_
  let J : (Str → Option Value) → Led → Prop := fun m nx => ∃ z t b o u1 u2, m = LMap z t b u1 u2 m₀ ∧ (0 ≤ z ∧ z < 13) ∧ Rep D ep z o ∧ (b, o) ∈ nx ∧ ∀ p ∈ news, p ∈ nx
  have all : ∀ (k i : Nat) (m : Str → Option Value) (nx : Led), k + i = n → J m nx → KrsRest prog w A E h₀ env (Str.ofString "k") body Q s I 2 2 n k i m nx := by
    intro k
    induction k with
    | zero =>
      rintro i m nx _ ⟨z, t, b, o, u1, u2, rfl, hz, hr, hb, hs⟩
      refine KrsRest.zero fun h tk F' N' => done z t b o u1 u2 h tk hz hr F' fun p hp => ?_
      rcases List.mem_cons.1 hp with e | e
      · exact e ▸ N' _ hb
      · exact N' _ (hs _ e)
    | succ k ih =>
      rintro i m nx hki ⟨z, t, b, o, u1, u2, rfl, hz, hr, hbo, hs⟩
      refine KrsRest.succ rfl fun t' h tk F' N' => ?_
      have N2 : News h₀ env.locals h ((I, krsIt (2 + ((i + 1 : Nat) : Int) * 2) ((n : Int) - ((i + 1 : Nat) : Int)) 2) :: (b, o) :: news) := fun p hp => by
        rcases List.mem_cons.1 hp with e | e
        · exact e ▸ N' _ List.mem_cons_self
        · rcases List.mem_cons.1 e with e | e
          · exact e ▸ N' _ (List.mem_cons_of_mem _ hbo)
          · exact N' _ (List.mem_cons_of_mem _ (hs _ e))
      have hlt := hk i (by omega)
      refine wpAny_mono (turn (2 + (i : Int) * 2) I _ z t b o u1 u2 t' h tk rfl ⟨by omega, hlt⟩ hz hr F' N2) (fun f s₂ p => ?_) fun _ _ e => e
      obtain ⟨rfl, h', tk', z', t'', b', o', v1, v2, rfl, F3, N3, hz', hr'⟩ := p
      refine ⟨h', tk', _, (b', o') :: news, rfl, F3, N3, ?_, ih (i + 1) _ _ (by omega) ⟨z', t'', b', o', v1, v2, rfl, hz', hr', List.mem_cons_self, fun p hp => List.mem_cons_of_mem _ hp⟩⟩
      intro p hp
      rcases List.mem_cons.1 hp with e | e
      · subst e
        intro e2
        have h1 := (N3 _ List.mem_cons_self).1
        have h2 := (N3 _ (List.mem_cons_of_mem _ List.mem_cons_self)).1
        dsimp only at h1 h2 e2
        rw [e2, h1] at h2
        exact hr'.cls (by rw [← Option.some.inj h2]; rfl)
      · exact Nat.ne_of_lt (hI p e)
  exact all n 0 m₀ news (by omega) ⟨z₀, t₁, b₁, o₁, _, _, LMap.start hway hdate, hz, hrep, hin, fun _ h => h⟩
theorem TurnPost.end {L I : Addr} {m₀ : Str → Option Value} {news : Led} {D : Day} {ep : Int} {it : Obj} {z z' : Int} {t t' tk0 : Tok} {k : Int} {b b' : Addr} {o' o : Obj} {v u1 u2 : Option Value} {h' : Heap} {tk : Nat}
    (F : Fr h₀ L h' (fun y => if y = Str.ofString "way" then some (Value.int z' t') else if y = Str.ofString "date_v" then some (.ref b') else if y = Str.ofString "other" then v else if y = Str.ofString "k" then some (.int k tk0) else LMap z t b u1 u2 m₀ y))
    (N : News h₀ L h' ((b', o') :: (I, it) :: (b, o) :: news)) (hz : 0 ≤ z' ∧ z' < 13) (hr : Rep D ep z' o') : TurnPost h₀ L m₀ news D ep I it s .next { s with heap := h', toks := tk } := by
  rw [LMap.step] at F
  refine ⟨rfl, h', tk, z', t', b', o', _, _, rfl, F, fun p hp => ?_, hz, hr⟩
  rcases List.mem_cons.1 hp with e | e
  · exact e ▸ N _ (List.mem_cons_of_mem _ List.mem_cons_self)
  · rcases List.mem_cons.1 e with e | e
    · exact e ▸ N _ List.mem_cons_self
    · exact N _ (List.mem_cons_of_mem _ (List.mem_cons_of_mem _ (List.mem_cons_of_mem _ e)))
end
section
variable {prog : Program} {w : World} {A : Around} {E : Value → Shared → Prop} {s : Shared} {t u : Tok} {Q : Value → Shared → Prop} {a b : Int} {x y : UInt64}
theorem f_ne_f (hx : x = H a) (hy : y = H b) (h1 : (Sm a ∧ Sm b) ∧ a = b) (h : Q (.bool false) s) : wpAny (model prog w) A (compareOp .NotEq (.float x t) (.float y u)) Q E s := r_ne_ff hx hy h1.1 (by rw [decide_eq_true h1.2]; exact h)
end
end
section
local macro_rules | `(tactic| kxt_pos) => `(tactic| (k_here; (with_reducible show wpAny _ _ (call (Value.ref 123) [Value.float _ _]) _ _ _); k_dflt (refine' Con.use (con_fromjd' _ _ _ _ _ (by assumption) _ (by first | rfl | assumption | omega) _) ?k1 ?k2 ?k3 ?k4 ?k5 ?kK ?kp ?kd ?ku ?k0 ?_; (case k1 => k_asm); (case k2 => k_asm); (case k3 => k_asm); (case k4 => k_asm); (case k5 => k_asm); (case kK => first | exact rfl | assumption); (case kp => trivial); (case kd => ktr_room); (case ku => ktr_units); (case k0 => (dsimp only; omega))); intro v9 h9 tk9 new9 le9 F9 N9 p9; (try dsimp only at le9); obtain ⟨a9, t9, u9, v9, e9, e8⟩ := p9; subst e9 e8; (try simp only [List.nil_append, List.cons_append] at N9); (try dsimp only); (try k_sweep); (try k_fold)))
local macro_rules | `(tactic| k_room) => `(tactic| ktr_room)
local macro_rules | `(tactic| k_mem) => `(tactic| first | (refine List.mem_cons_of_mem _ ?_; assumption) | (refine List.mem_cons_of_mem _ (List.mem_cons_of_mem _ ?_); assumption) | (refine List.mem_cons_of_mem _ (List.mem_cons_of_mem _ (List.mem_cons_of_mem _ ?_)); assumption))
local macro_rules | `(tactic| kxt_pos) => `(tactic| (k_here; (with_reducible show wpAny _ _ (call (Value.ref 537) [Value.int _ _, Value.ref _, Value.int _ _]) _ _ _); k_dflt (refine' Con.use (con_num _ _ (by assumption) _ _ (by assumption) _ _ _) ?k1 ?k2 ?k3 ?k4 ?k5 ?kK ?kp ?kd ?ku ?k0 ?_; (case k1 => k_asm); (case k2 => k_asm); (case k3 => k_asm); (case k4 => k_asm); (case k5 => k_asm); (case kK => first | exact rfl | assumption); (case kp => (refine' ⟨_, ?m9, ?r9⟩; (case m9 => first | assumption | exact List.mem_cons_self | k_mem); (case r9 => assumption))); (case kd => ktr_room); (case ku => ktr_units); (case k0 => (dsimp only; omega))); intro v9 h9 tk9 new9 le9 F9 N9 p9; (try dsimp only at le9); obtain ⟨e9, t9, n9, e8⟩ := p9; subst e9 e8; (try simp only [List.nil_append, List.cons_append] at N9); (try dsimp only); (try k_sweep); (try k_fold)))
local macro_rules | `(tactic| kxt_pos) => `(tactic| (k_here; (with_reducible show wpAny _ _ (call (Value.ref 544) [Value.int _ _, Value.float _ _, Value.int _ _]) _ _ _); k_dflt (refine' Con.use (con_dat _ _ (by assumption) _ _ (by assumption) (by assumption) _ (by first | rfl | assumption | omega) _ _ _) ?k1 ?k2 ?k3 ?k4 ?k5 ?kK ?kp ?kd ?ku ?k0 ?_; (case k1 => k_asm); (case k2 => k_asm); (case k3 => k_asm); (case k4 => k_asm); (case k5 => k_asm); (case kK => first | exact rfl | assumption); (case kp => assumption); (case kd => ktr_room); (case ku => ktr_units); (case k0 => (dsimp only; omega))); intro v9 h9 tk9 new9 le9 F9 N9 p9; (try dsimp only at le9); obtain ⟨b9, o9, e9, e8, r9⟩ := p9; subst e9 e8; (try simp only [List.nil_append, List.cons_append] at N9); (try dsimp only); (try k_sweep); (try k_fold)))
local macro_rules | `(tactic| kxt_pos) => `(tactic| (k_here; (with_reducible show wpAny _ _ (call (Value.ref 551) [Value.int _ _, Value.ref _, Value.int _ _]) _ _ _); k_dflt (refine' Con.use (con_gre _ _ (by assumption) _ _ (by assumption) _ _ _) ?k1 ?k2 ?k3 ?k4 ?k5 ?kK ?kp ?kd ?ku ?k0 ?_; (case k1 => k_asm); (case k2 => k_asm); (case k3 => k_asm); (case k4 => k_asm); (case k5 => k_asm); (case kK => first | exact rfl | assumption); (case kp => (refine' ⟨_, ?m9, ?r9⟩; (case m9 => first | assumption | exact List.mem_cons_self | k_mem); (case r9 => assumption))); (case kd => ktr_room); (case ku => ktr_units); (case k0 => (dsimp only; omega))); intro v9 h9 tk9 new9 le9 F9 N9 p9; (try dsimp only at le9); obtain ⟨b9, o9, e9, e8, r9⟩ := p9; subst e9 e8; (try simp only [List.nil_append, List.cons_append] at N9); (try dsimp only); (try k_sweep); (try k_fold)))
local macro_rules | `(tactic| kxt_pos) => `(tactic| (k_here; (with_reducible show wpAny _ _ (call (Value.ref 558) [Value.int _ _, Value.ref _, Value.int _ _]) _ _ _); k_dflt (refine' Con.use (con_bac _ _ (by assumption) _ _ (by assumption) (by assumption) _ _ _) ?k1 ?k2 ?k3 ?k4 ?k5 ?kK ?kp ?kd ?ku ?k0 ?_; (case k1 => k_asm); (case k2 => k_asm); (case k3 => k_asm); (case k4 => k_asm); (case k5 => k_asm); (case kK => first | exact rfl | assumption); (case kp => (refine' ⟨_, ?m9, ?r9⟩; (case m9 => first | assumption | exact List.mem_cons_self | k_mem); (case r9 => assumption))); (case kd => ktr_room); (case ku => ktr_units); (case k0 => (dsimp only; omega))); intro v9 h9 tk9 new9 le9 F9 N9 p9; (try dsimp only at le9); obtain ⟨b9, o9, e9, e8, r9⟩ := p9; subst e9 e8; (try simp only [List.nil_append, List.cons_append] at N9); (try dsimp only); (try k_sweep); (try k_fold)))
theorem ep_of (ns : List Int) (i : Nat) : EpB ((List.map (fun k' : Int => if -10000000 < k' ∧ k' < 10000000 then k' else if -10000000 < k' ∧ ¬k' < 10000000 then k' % 10000000 else k' % 10000000) ns ++ [0, 0]).getD i 0) := by
  refine getD_bound _ _ fun x hx => ?_
  rcases List.mem_append.1 hx with h | h
  · obtain ⟨k, _, rfl⟩ := List.mem_map.1 h
    split
    · omega
    · split <;> omega
  · simp only [List.mem_cons, List.not_mem_nil, or_false, or_self] at h
    subst h; exact ⟨by decide, by decide⟩
theorem nm_ne {a b : String} (h : ¬ a = b) : ¬ Str.ofString a = Str.ofString b := fun e => h ((ofString_inj a b).mp e)
local macro_rules | `(tactic| kxt_pos) => `(tactic| (k_here; (with_reducible show wpAny _ _ (call (Value.ref 565) [Value.int _ _, Value.int _ _, Value.int _ _, Value.ref _, Value.int _ _]) _ _ _); k_dflt (refine' Con.use (con_road _ _ (by assumption) _ _ _ _ (by assumption) (by assumption) (by omega) (by assumption) _ _ _ _ _) ?k1 ?k2 ?k3 ?k4 ?k5 ?kK ?kp ?kd ?ku ?k0 ?_; (case k1 => k_asm); (case k2 => k_asm); (case k3 => k_asm); (case k4 => k_asm); (case k5 => k_asm); (case kK => first | exact rfl | assumption); (case kp => (refine' ⟨_, ?m9, ?r9⟩; (case m9 => first | assumption | exact List.mem_cons_self | k_mem); (case r9 => assumption))); (case kd => ktr_room); (case ku => ktr_units); (case k0 => (dsimp only; omega))); intro v9 h9 tk9 new9 le9 F9 N9 p9; (try dsimp only at le9); obtain ⟨b9, o9, e9, e8, r9⟩ := p9; subst e9 e8; (try simp only [List.nil_append, List.cons_append] at N9); (try dsimp only); (try k_sweep); (try k_fold)))
local macro_rules | `(tactic| walk_at "compareOp NotEq float float") => `(tactic| (refine' f_ne_f ?hx ?hy ?h1 ?_; (case hx => tb_start); (case hy => tb_start); (case h1 => omega); try dsimp only))
local macro_rules | `(tactic| walk_at "compareOp Eq ref ref") => `(tactic| (k_here; (with_reducible rename News _ _ _ _ => kN); (with_reducible rename Fr _ _ _ _ => kF); k_dflt (refine' Rep.same ?kK ?ke ?r1 ?r2 kN ?ha ?hb ?hu ?nb ?_; (case ha => k_mem); (case hb => k_mem); (case r1 => assumption); (case r2 => assumption); (case kK => assumption); (case ke => assumption); (case hu => ktr_units); (case nb => exact noneBooked (by k_asm) (by k_asm) kF (by k_is)); try dsimp only)))
local macro_rules | `(tactic| walk_at "storeName float") => `(tactic| (k_here; (with_reducible show wpAny _ _ (storeName _ _ (Value.float (H (4748959 + _)) _)) _ _ _); (with_reducible refine st_num ?_); intro J9 W9 y9 m9 d9 hW9 hJ9 hG9 hy9))
local macro_rules | `(tactic| walk_at "storeName int") => `(tactic| (k_here; (with_reducible show wpAny _ _ (storeName _ _ (Value.int (_ % 13) _)) _ _ _); (with_reducible refine st_m13 ?_); intro z hz))
local macro_rules | `(tactic| walk_at "storeName int") => `(tactic| (k_here; (with_reducible show wpAny _ _ (storeName _ _ (Value.int (List.getD _ _ _) _)) _ _ _); (with_reducible refine st_ep (ep_of _ _) ?_); intro z hz))
local macro_rules | `(tactic| walk_at "exec If") => `(tactic| (k_here; (with_reducible show wpAny _ _ (exec (Stmt.If (Expr.BoolOp _ _ _) _ _ _) _) _ _ _); focus ((rename Fr _ _ _ _ => kF); (rename News _ _ _ _ => kN); refine if_num kF kN (wpAny_If ?_) ?_; rotate_left; (try clear kN); (try clear kF); (intro D9 K9 W8 t8 h8 tk8 hW8 ht8 htk8 F8 N8); (have bJ9 := Day.Ok.bJ K9); (try dsimp only); rotate_left)))
def Stop (p : Prop) : Prop := p
theorem stop_at {p : Prop} (h : Stop p) : p := h
local macro_rules | `(tactic| walk_at "pyIter ref") => `(tactic| (k_here; refine stop_at ?_))
theorem t1 : PySem.Challenge.rw_ak5024_01.Holds := hd (by
  w_strict (k_go0; (all_goals try k_fold); k_steps)
  · rename Fr _ _ _ _ => lF
    rename News _ _ _ _ => lN
    refine IfPost.new lF ?n1 (day_back' (by assumption) (by assumption) (by assumption) (by assumption) (by assumption) (by assumption) (by assumption)) (Nat.succ_ne_zero _) (by omega)
    case n1 => first | exact lN | exact fun p hp => lN p (List.mem_cons_of_mem _ (List.mem_cons_of_mem _ hp))
  · rename Fr _ _ _ _ => lF
    rename News _ _ _ _ => lN
    refine IfPost.keep lF ?n1 (day_keep' (by assumption) (by assumption) (by assumption) (by assumption) (by assumption)) ((if_neg (nm_ne (by decide))).trans ((if_neg (nm_ne (by decide))).trans ((if_neg (nm_ne (by decide))).trans (if_pos rfl)))) (Nat.succ_ne_zero _) (by omega)
    case n1 => first | exact lN | exact fun p hp => lN p (List.mem_cons_of_mem _ (List.mem_cons_of_mem _ hp))
  · rename Fr _ _ _ _ => lF
    rename News _ _ _ _ => lN
    refine IfPost.keep lF ?n1 (day_keep2 (by assumption) (by assumption) (by assumption) (by assumption) (by assumption)) ((if_neg (nm_ne (by decide))).trans ((if_neg (nm_ne (by decide))).trans ((if_neg (nm_ne (by decide))).trans (if_pos rfl)))) (Nat.succ_ne_zero _) (by omega)
    case n1 => first | exact lN | exact fun p hp => lN p (List.mem_cons_of_mem _ (List.mem_cons_of_mem _ hp))
  unfold Stop
  rename Fr _ _ _ _ => lF
  rename News _ _ _ _ => lN
  rename IsRange _ _ _ _ _ _ _ _ => rgX
  rename Rep _ _ _ _ => rpX
  with_unfolding_all refine' law_loop (by rfl) rgX ?hb lF lN ?hw ?hd ?hz ?hin rpX ?turn ?done
  case hb => omega
  case hw => exact if_pos rfl
  case hd => exact (if_neg (nm_ne (by decide))).trans (if_pos rfl)
  case hz => assumption
  case hin =>
    refine List.mem_cons_of_mem _ ?_
    refine List.mem_cons_of_mem _ ?_
    exact List.mem_cons_self
  case turn =>
    clear lF lN rpX
    intro k9 I9 it9 z9 t9 b9 o9 u1 u2 t' h' tk' hit9 hk9 hz9 hr9 F' N'
    dsimp only [LMap] at F'
    k_steps
    rename Fr _ _ _ _ => lF
    rename News _ _ _ _ => lN
    with_unfolding_all refine TurnPost.end (z := z9) (t := t9) (b := b9) (u1 := u1) (u2 := u2) lF lN ?tz ?tr
    case tz => assumption
    case tr => assumption
  case done =>
    clear lF lN
    intro z9 t9 b9 o9 u1 u2 h' tk' hz9 hr9 F' N'
    dsimp only [LMap] at F'
    dsimp only
    k_steps)
end
end Mine
theorem PySem.Challenge.cw_ak5024_01_holds : PySem.Challenge.rw_ak5024_01.Holds := by
  exact Mine.t1
