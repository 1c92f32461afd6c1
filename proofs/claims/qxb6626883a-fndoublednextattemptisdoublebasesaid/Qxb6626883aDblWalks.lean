/- THE WALKS: 'retriesAtOnce', 'doubled', 'ZZdoubled', 'zzMin64' each compute their plain function. -/
import Derived.Test.Qxb6626883aRows
import Derived.Test.Qxb6626883aDblPlain
import Derived.WalkKit
import Derived.WalkSpells
import Derived.WalkLawsBesides
import Derived.BigQuiet
import Derived.Deep.QuietTactic
import Derived.RowKit3
namespace Go.Proofs.Qxb6626883a
open Go.RowKit

theorem grown_trans {a b c : World} (h : Grown a b) (k : Grown b c) : Grown a c :=
  ⟨World.keptBut_trans h.1 k.1, fun x => (k.2.1 x).trans (h.2.1 x), Nat.le_trans h.2.2 k.2.2⟩
theorem grown_drewN {a b : World} (h : Grown a b) (n : Nat) : Grown a (b.drewN n) := h
theorem ret_i64 {a b : Int} (h : a = b) : Ending.returned (.int .i64 a) = .returned (.int .i64 b) := by rw [h]

set_option maxHeartbeats 400000 in
theorem once_any (b c : Int) (j : Nat) (w : World) :
    Calls Try.prog 8 #[.agg #[.int .i64 b, .int .i64 c, .float .f64 j]] w fun e w' => e = .returned (.bool (decide (b ≤ 0) || decide (c ≤ 0))) ∧ ∃ o, w' = w.alloc (.cells o 28) := by
  by_cases h : b ≤ 0
  · go_enter Try.func8, Try.ntmps8
    go_wp2
    go_ret
    exact ⟨by simp [h], _, rfl⟩
  · have hd : decide (b ≤ 0) = false := by simpa using h
    go_enter Try.func8, Try.ntmps8
    go_wp2
    go_ret
    exact ⟨by simp, _, rfl⟩

/-- Base or Cap is 0 or less. -/
theorem dbl_zero (b c a : Int) (j : Nat) (w : World) (h : (decide (b ≤ 0) || decide (c ≤ 0)) = true) :
    Calls Try.prog 7 #[.agg #[.int .i64 b, .int .i64 c, .float .f64 j], .int .i64 a] w fun e w' => e = .returned (.int .i64 0) ∧ Grown w w' := by
  go_enter Try.func7, Try.ntmps7
  go_wp2_with (go_at_call 8; refine (once_any _ _ _ _).mono ?_; rintro e w' ⟨rfl, o, rfl⟩; rw [h]; clear h)
  go_ret
  exact ⟨rfl, ((Grown.refl _).alloc _ _).alloc _ _⟩

set_option maxHeartbeats 400000 in
theorem dbl_up (b c a : Int) (j : Nat) (w : World) (hb : 0 < b) (hc : 0 < c) (hcm : c ≤ 9223372036854775807) (h1 : 1 ≤ a) (h2 : a ≤ 9223372036854775807) :
    Calls Try.prog 7 #[.agg #[.int .i64 b, .int .i64 c, .float .f64 j], .int .i64 a] w fun e w' => e = .returned (.int .i64 (dblF b c a)) ∧ Grown w w' := by
  have hb' : decide (b ≤ 0) = false := by simp; omega
  have hc' : decide (c ≤ 0) = false := by simp; omega
  have HF : Hid (dblF b c a = if c / 2 ^ min (a.toNat - 1) 64 < b then c else b * 2 ^ min (a.toNat - 1) 64) := by
    show _ = _
    unfold dblF shN
    rw [if_neg (by omega)]
  go_enter Try.func7, Try.ntmps7
  go_wp2_with (go_at_call 8; refine (once_any _ _ _ _).mono ?_; rintro e w' ⟨rfl, o, rfl⟩)
  go_quiet (fail)
  go_wp2
  · go_ret
    refine ⟨ret_i64 ?_, grown_drewN (((Grown.refl _).alloc _ _).alloc _ _) _⟩
    rw [HF.out, if_pos ‹_›]
  · go_ret
    refine ⟨ret_i64 ?_, grown_drewN (((Grown.refl _).alloc _ _).alloc _ _) _⟩
    have hle := ‹b ≤ c / 2 ^ min (a.toNat - 1) 64›
    have hm := mul_le_of b c _ hle
    have hg := mul_pow_ge b (min (a.toNat - 1) 64) hb
    rw [HF.out, if_neg (by omega), IntWalk.wrap64_in _ (by omega)]

set_option maxHeartbeats 400000 in
theorem dbl_down (b c a : Int) (j : Nat) (w : World) (hb : 0 < b) (hc : 0 < c) (hcm : c ≤ 9223372036854775807) (h1 : a < 1) :
    Calls Try.prog 7 #[.agg #[.int .i64 b, .int .i64 c, .float .f64 j], .int .i64 a] w fun e w' => e = .returned (.int .i64 (dblF b c a)) ∧ Grown w w' := by
  have hb' : decide (b ≤ 0) = false := by simp; omega
  have hc' : decide (c ≤ 0) = false := by simp; omega
  have HF : Hid (dblF b c a = if b < c then b else c) := dblF_low b c a hb hc (by omega)
  go_enter Try.func7, Try.ntmps7
  go_wp2_with (go_at_call 8; refine (once_any _ _ _ _).mono ?_; rintro e w' ⟨rfl, o, rfl⟩)
  go_quiet (fail)
  go_wp2
  · go_ret
    refine ⟨ret_i64 ?_, grown_drewN (((Grown.refl _).alloc _ _).alloc _ _) _⟩
    rw [HF.out, if_neg (by omega)]
  · go_ret
    refine ⟨ret_i64 ?_, grown_drewN (((Grown.refl _).alloc _ _).alloc _ _) _⟩
    rw [HF.out]
    split <;> omega

theorem dbl_any (b c a : Int) (j : Nat) (w : World) (hcm : c ≤ 9223372036854775807) (h2 : a ≤ 9223372036854775807) :
    Calls Try.prog 7 #[.agg #[.int .i64 b, .int .i64 c, .float .f64 j], .int .i64 a] w fun e w' => e = .returned (.int .i64 (dblF b c a)) ∧ Grown w w' := by
  by_cases h : b ≤ 0 ∨ c ≤ 0
  · rw [dblF_zero b c a h]
    exact dbl_zero b c a j w (by simpa using h)
  · by_cases h1 : 1 ≤ a
    · exact dbl_up b c a j w (by omega) (by omega) hcm h1 h2
    · exact dbl_down b c a j w (by omega) (by omega) hcm (by omega)

theorem zz_any (b c a : Int) (j : Nat) (w : World) (hcm : c ≤ 9223372036854775807) (h2 : a ≤ 9223372036854775807) :
    Calls Try.prog 5 #[.int .i64 b, .int .i64 c, .float .f64 j, .int .i64 a] w fun e w' => e = .returned (.int .i64 (dblF b c a)) ∧ Grown w w' := by
  go_enter Try.func5, Try.ntmps5
  go_wp2_with (go_at_call 7; refine (dbl_any _ _ _ _ _ hcm h2).mono ?_; rintro e w' ⟨rfl, hg⟩)
  go_ret
  exact ⟨rfl, hg⟩

theorem mn_any (a b : Int) (w : World) :
    Calls Try.prog 6 #[.int .i64 a, .int .i64 b] w fun e w' => e = .returned (.int .i64 (mnF a b)) ∧ w' = w := by
  unfold mnF
  by_cases h : a < b
  · rw [if_pos h]
    go_enter Try.func6, Try.ntmps6
    go_wp2
    go_ret
    exact ⟨rfl, rfl⟩
  · rw [if_neg h]
    go_enter Try.func6, Try.ntmps6
    go_wp2
    go_ret
    exact ⟨rfl, rfl⟩
end Go.Proofs.Qxb6626883a
