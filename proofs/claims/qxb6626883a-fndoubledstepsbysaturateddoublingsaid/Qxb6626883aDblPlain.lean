/- THE PLAIN LAW: what the doubled delay is, with no Go in sight. -/
namespace Go.Proofs.Qxb6626883a
/-- The shift count that the walk shows. -/
def shN (a : Int) : Nat := min (a.toNat - 1) 64
/-- What '(Backoff).doubled' computes. -/
def dblF (b c a : Int) : Int := if b ≤ 0 ∨ c ≤ 0 then 0 else if c / 2 ^ shN a < b then c else b * 2 ^ shN a
/-- What 'zzMin64' computes. -/
def mnF (a b : Int) : Int := if a < b then a else b

theorem pow_pos2 (n : Nat) : (0 : Int) < 2 ^ n := Int.pow_pos (by decide)

theorem dblF_pos (b c a : Int) (hb : 0 < b) (hc : 0 < c) : dblF b c a = if c < b * 2 ^ shN a then c else b * 2 ^ shN a := by
  unfold dblF
  rw [if_neg (by omega)]
  have e : (c / 2 ^ shN a < b) ↔ (c < b * 2 ^ shN a) := Int.ediv_lt_iff_lt_mul (pow_pos2 _)
  by_cases h : c < b * 2 ^ shN a
  · rw [if_pos h, if_pos (e.2 h)]
  · rw [if_neg h, if_neg (fun g => h (e.1 g))]

theorem dblF_zero (b c a : Int) (h : b ≤ 0 ∨ c ≤ 0) : dblF b c a = 0 := by unfold dblF; rw [if_pos h]

theorem shN_low (a : Int) (h : a ≤ 1) : shN a = 0 := by unfold shN; omega
theorem shN_succ (a : Int) (h : 1 ≤ a) (h' : a ≤ 64) : shN (a + 1) = shN a + 1 := by unfold shN; omega
theorem shN_high (a : Int) (h : 65 ≤ a) : shN a = 64 := by unfold shN; omega

theorem dblF_low (b c a : Int) (hb : 0 < b) (hc : 0 < c) (h : a ≤ 1) : dblF b c a = mnF b c := by
  rw [dblF_pos b c a hb hc, shN_low a h]
  unfold mnF
  simp only [Int.pow_zero, Int.mul_one]
  split <;> split <;> omega

theorem mul_pow_ge (b : Int) (n : Nat) (hb : 0 < b) : b ≤ b * 2 ^ n := by
  have h : (1 : Int) ≤ 2 ^ n := pow_pos2 n
  have := Int.mul_le_mul_of_nonneg_left h (Int.le_of_lt hb)
  omega

theorem dblF_range (b c a : Int) (hb : 0 < b) (hc : 0 < c) : mnF b c ≤ dblF b c a ∧ dblF b c a ≤ c ∧ 0 < dblF b c a := by
  rw [dblF_pos b c a hb hc]
  have h := mul_pow_ge b (shN a) hb
  unfold mnF
  split <;> split <;> omega

theorem dblF_high (b c a : Int) (hb : 0 < b) (hc : 0 < c) (hc' : c ≤ 9223372036854775807) (h : 65 ≤ a) : dblF b c a = c := by
  rw [dblF_pos b c a hb hc, shN_high a h, if_pos (by omega)]

/-- The next attempt: twice, or the cap. -/
theorem dblF_next (b c a : Int) (hb : 0 < b) (hc : 0 < c) (hc' : c ≤ 9223372036854775807) (h : 1 ≤ a) :
    dblF b c (a + 1) = if c - dblF b c a < dblF b c a then c else dblF b c a + dblF b c a := by
  by_cases g : a ≤ 64
  · rw [dblF_pos b c a hb hc, dblF_pos b c (a + 1) hb hc, shN_succ a h g, Int.pow_succ, ← Int.mul_assoc]
    generalize b * 2 ^ shN a = x
    split <;> split <;> split <;> omega
  · rw [dblF_high b c a hb hc hc' (by omega), dblF_high b c (a + 1) hb hc hc' (by omega), if_pos (by omega)]

theorem dblF_twice (b c a : Int) (hb : 0 < b) (hc : 0 < c) (hc' : c ≤ 9223372036854775807) (h : 1 ≤ a) :
    dblF b c (a + 1) = dblF (b + b) c a := by
  by_cases g : a ≤ 64
  · rw [dblF_pos (b + b) c a (by omega) hc, dblF_pos b c (a + 1) hb hc, shN_succ a h g, Int.pow_succ, ← Int.mul_assoc, Int.add_mul]
    generalize b * 2 ^ shN a = x
    rw [show x * 2 = x + x from by omega]
  · rw [dblF_high (b + b) c a (by omega) hc hc' (by omega), dblF_high b c (a + 1) hb hc hc' (by omega)]

theorem mul_le_of (b c : Int) (n : Nat) (h : b ≤ c / 2 ^ n) : b * 2 ^ n ≤ c := (Int.le_ediv_iff_mul_le (pow_pos2 n)).1 h
end Go.Proofs.Qxb6626883a
