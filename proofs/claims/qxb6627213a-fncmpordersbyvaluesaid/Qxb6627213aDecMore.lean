/- MORE WALKS: the comparisons of the library, 'ZZnewDecimal', 'zzNeg', 'zzShiftScale', the bounds on lengths. -/
import Derived.Test.Qxb6627213aDecWalks
namespace Go.Proofs.Qxb6627213a
open Go.RowKit

theorem cmpStr_any (a b : ByteArray) (w : World) :
    (callFunc 26 #[.string a, .string b]).run Try.prog w = .ok (.value (.int .i64 (Lib.compareBytes a.data.toList b.data.toList))) w := by
  rw [run_callFunc_extern Try.func26 (by kernel_rfl) (by kernel_rfl) (by kernel_rfl) (e := Extern.BytealgCompare.compare) (by kernel_rfl), Lib.run_compareString]
  rfl

set_option maxHeartbeats 400000 in
/-- 'strings.Compare' -/
theorem strCmp_any (a b : ByteArray) (w : World) :
    Calls Try.prog 20 #[.string a, .string b] w fun e w' => e = .returned (.int .i64 (Lib.compareBytes a.data.toList b.data.toList)) ∧ w = w' := by
  have hc := cmpStr_any a b
  go_enter Try.func20, Try.ntmps20
  go_wp2
  go_ret
  exact ⟨rfl, rfl⟩

set_option maxHeartbeats 400000 in
/-- 'cmp.Compare[int]' -/
theorem intCmp_any (x y : Int) (w : World) :
    Calls Try.prog 17 #[.int .i64 x, .int .i64 y] w fun e w' => e = .returned (.int .i64 (Lib.compareInt x y)) ∧ w = w' := by
  unfold Lib.compareInt
  by_cases h1 : x < y
  · rw [if_pos h1]
    go_enter Try.func17, Try.ntmps17
    go_wp2
    go_ret
    exact ⟨rfl, rfl⟩
  · by_cases h2 : y < x
    · rw [if_neg h1, if_pos h2]
      go_enter Try.func17, Try.ntmps17
      go_wp2
      go_ret
      exact ⟨rfl, rfl⟩
    · rw [if_neg h1, if_neg h2]
      go_enter Try.func17, Try.ntmps17
      go_wp2
      go_ret
      exact ⟨rfl, rfl⟩

set_option maxHeartbeats 400000 in
/-- 'cmp.Or[int]' of two -/
theorem or_any (b : Nat) (x y : Int) (w : World) (h0 : w.cell? ⟨b, 0, none⟩ = some (.int .i64 x)) (h1 : w.cell? ⟨b, 1, none⟩ = some (.int .i64 y)) :
    Calls Try.prog 19 #[.slice (some ⟨b, 0, none⟩) 2 2] w fun e w' => e = .returned (.int .i64 (orI x y)) ∧ w = w' := by
  unfold orI
  by_cases hx : x = 0
  · have hx' : (x != 0) = false := by simpa using hx
    rw [if_neg (by simpa using hx)]
    clear hx
    by_cases hy : y = 0
    · have hy' : (y != 0) = false := by simpa using hy
      have HY : Hid (y = 0) := hy
      clear hy
      go_enter Try.func19, Try.ntmps19
      go_wp2
      refine wp_loop_rounds 3 ?_
      rw [rounds_succ]
      go_wp2
      rw [rounds_succ]
      go_wp2
      rw [rounds_succ]
      go_wp2
      go_ret
      exact ⟨ret_i64 HY.out.symm, rfl⟩
    · have hy' : (y != 0) = true := by simpa using hy
      clear hy
      go_enter Try.func19, Try.ntmps19
      go_wp2
      refine wp_loop_rounds 2 ?_
      rw [rounds_succ]
      go_wp2
      rw [rounds_succ]
      go_wp2
      go_ret
      exact ⟨rfl, rfl⟩
  · have hx' : (x != 0) = true := by simpa using hx
    rw [if_pos (by simpa using hx)]
    clear hx
    go_enter Try.func19, Try.ntmps19
    go_wp2
    refine wp_loop_rounds 1 ?_
    rw [rounds_succ]
    go_wp2
    go_ret
    exact ⟨rfl, rfl⟩

set_option maxHeartbeats 400000 in
/-- 'ZZnewDecimal' -/
theorem new_any (u : ByteArray) (s : Int) (w : World) :
    Calls Try.prog 7 #[.string u, .int .i64 s] w fun e w' => e = .returned (.agg #[.string u, .int .i64 s]) ∧ w' = w.alloc (.cells #[.string u, .int .i64 s] 25) := by
  go_enter Try.func7, Try.ntmps7
  go_wp2
  simp [bodyPost, results, Try.results7, go_sem]

/-- The text of the negated number. -/
def negB (u : ByteArray) : ByteArray := if sgnB u = 0 then ⟨#[]⟩ else if sgnB u = -1 then u.extract 1 u.size else ⟨#[45]⟩ ++ u
set_option maxHeartbeats 400000 in
/-- 'zzNeg' -/
theorem neg_any (u : ByteArray) (hu : u.size ≤ 1048576) (w : World) :
    Calls Try.prog 12 #[.string u] w fun e w' => e = .returned (.string (negB u)) ∧ w = w' := by
  rcases sgnB_cases u with ⟨h0, hs, he⟩ | ⟨h0, he, ⟨h45, hs⟩ | ⟨h45, hs⟩⟩
  · have hm : negB u = ⟨#[]⟩ := by unfold negB; rw [hs, if_pos rfl]
    rw [hm]
    clear hs hm
    go_enter Try.func12, Try.ntmps12
    go_wp2
    go_ret
    exact ⟨rfl, rfl⟩
  · have hm : negB u = u.extract 1 u.size := by unfold negB; rw [hs, if_neg (by decide), if_pos rfl]
    rw [hm]
    clear hs hm
    go_enter Try.func12, Try.ntmps12
    go_wp2
    go_ret
    exact ⟨rfl, rfl⟩
  · have hm : negB u = ⟨#[45]⟩ ++ u := by unfold negB; rw [hs, if_neg (by decide), if_neg (by decide)]
    rw [hm]
    clear hs hm
    go_enter Try.func12, Try.ntmps12
    go_wp2
    go_ret
    exact ⟨rfl, rfl⟩

/-- The scale of the number times 10^k. -/
def shiftI (u : ByteArray) (s k : Int) : Int := if sgnB u = 0 then 0 else s - k
set_option maxHeartbeats 400000 in
/-- 'zzShiftScale' -/
theorem shift_any (u : ByteArray) (s k : Int) (w : World) (h1 : -65536 ≤ s) (h2 : s ≤ 65536) (h3 : -65536 ≤ k) (h4 : k ≤ 65536) :
    Calls Try.prog 11 #[.string u, .int .i64 s, .int .i64 k] w fun e w' => e = .returned (.int .i64 (shiftI u s k)) ∧ w = w' := by
  rcases sgnB_cases u with ⟨h0, hs, he⟩ | ⟨h0, he, hh⟩
  · have hm : shiftI u s k = 0 := by unfold shiftI; rw [if_pos hs]
    rw [hm]
    clear hs hm
    go_enter Try.func11, Try.ntmps11
    go_wp2
    go_ret
    exact ⟨rfl, rfl⟩
  · have hm : shiftI u s k = s - k := by
      unfold shiftI
      rw [if_neg (by rcases hh with ⟨_, g⟩ | ⟨_, g⟩ <;> rw [g] <;> decide)]
    rw [hm]
    clear hh hm
    go_enter Try.func11, Try.ntmps11
    go_wp2
    go_ret
    exact ⟨rfl, rfl⟩

/-- Both lengths within the bound on their sum. -/
def fitsB (u v : ByteArray) : Bool := decide (u.size + v.size ≤ 1048576)
set_option maxHeartbeats 400000 in
theorem bytes4_any (u v : ByteArray) (s t : Int) (w : World) (hu : u.size ≤ maxLen) (hv : v.size ≤ maxLen) :
    Calls Try.prog 5 #[.string u, .int .i64 s, .string v, .int .i64 t] w fun e w' => e = .returned (.bool (fitsB u v)) ∧ w = w' := by
  unfold maxLen at hu hv
  by_cases h : u.size + v.size ≤ 1048576
  · have hf : fitsB u v = true := decide_eq_true h
    rw [hf]
    clear hf
    go_enter Try.func5, Try.ntmps5
    go_wp2
    go_ret
    exact ⟨rfl, rfl⟩
  · have hf : fitsB u v = false := decide_eq_false h
    rw [hf]
    clear hf
    by_cases h1 : 1048576 < u.size
    · go_enter Try.func5, Try.ntmps5
      go_wp2
      go_ret
      exact ⟨rfl, rfl⟩
    · by_cases h2 : 1048576 < v.size
      · go_enter Try.func5, Try.ntmps5
        go_wp2
        go_ret
        exact ⟨rfl, rfl⟩
      · go_enter Try.func5, Try.ntmps5
        go_wp2
        go_ret
        exact ⟨rfl, rfl⟩
set_option maxHeartbeats 400000 in
theorem bytes5_any (u v : ByteArray) (s t k : Int) (w : World) (hu : u.size ≤ maxLen) (hv : v.size ≤ maxLen) :
    Calls Try.prog 10 #[.string u, .int .i64 s, .string v, .int .i64 t, .int .i64 k] w fun e w' => e = .returned (.bool (fitsB u v)) ∧ w = w' := by
  unfold maxLen at hu hv
  by_cases h : u.size + v.size ≤ 1048576
  · have hf : fitsB u v = true := decide_eq_true h
    rw [hf]
    clear hf
    go_enter Try.func10, Try.ntmps10
    go_wp2
    go_ret
    exact ⟨rfl, rfl⟩
  · have hf : fitsB u v = false := decide_eq_false h
    rw [hf]
    clear hf
    by_cases h1 : 1048576 < u.size
    · go_enter Try.func10, Try.ntmps10
      go_wp2
      go_ret
      exact ⟨rfl, rfl⟩
    · by_cases h2 : 1048576 < v.size
      · go_enter Try.func10, Try.ntmps10
        go_wp2
        go_ret
        exact ⟨rfl, rfl⟩
      · go_enter Try.func10, Try.ntmps10
        go_wp2
        go_ret
        exact ⟨rfl, rfl⟩
end Go.Proofs.Qxb6627213a
