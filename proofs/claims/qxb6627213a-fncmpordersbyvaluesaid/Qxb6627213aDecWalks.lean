/- THE WALKS OF THE SMALL FUNCTIONS: each computes its plain function. -/
import Derived.Test.Qxb6627213aRows
import Derived.WalkKit
import Derived.WalkSpells
import Derived.WalkLawsBesides
import Derived.Deep.RegionHeld3
import Derived.RowKit3
import Derived.Lib.Bytealg
import Derived.Lib.Small
import Derived.Lib.Strings
namespace Go.Proofs.Qxb6627213a
open Go.RowKit

/-- The sign of a number's text. -/
def sgnB (u : ByteArray) : Int := if h : 0 < u.size then if (u[0].toNat : Int) = 45 then -1 else 1 else 0
/-- The text without its sign. -/
def magB (u : ByteArray) : ByteArray := if sgnB u = -1 then u.extract 1 u.size else u
/-- The first that is not 0. -/
def orI (x y : Int) : Int := if x ≠ 0 then x else y

theorem sgnB_three (u : ByteArray) : sgnB u = -1 ∨ sgnB u = 0 ∨ sgnB u = 1 := by
  unfold sgnB
  split
  · split
    · exact .inl rfl
    · exact .inr (.inr rfl)
  · exact .inr (.inl rfl)
theorem empty_size (u : ByteArray) : u.toList.isEmpty = decide (u.size = 0) := by
  obtain ⟨⟨l⟩⟩ := u
  have e : (ByteArray.mk ⟨l⟩).toList = l := by rw [ByteArray.toList_eq]
  rw [e]
  show l.isEmpty = decide (l.length = 0)
  cases l <;> simp
theorem sgnB_cases (u : ByteArray) : (u.size = 0 ∧ sgnB u = 0 ∧ u.toList.isEmpty = true) ∨ ∃ h : 0 < u.size, u.toList.isEmpty = false ∧ ((((u[0]'h).toNat : Int) == 45) = true ∧ sgnB u = -1 ∨ (((u[0]'h).toNat : Int) == 45) = false ∧ sgnB u = 1) := by
  by_cases h : 0 < u.size
  · refine .inr ⟨h, by rw [empty_size]; exact decide_eq_false (by omega), ?_⟩
    by_cases g : ((u[0]'h).toNat : Int) = 45
    · exact .inl ⟨by simpa using g, by unfold sgnB; rw [dif_pos h, if_pos g]⟩
    · exact .inr ⟨by simpa using g, by unfold sgnB; rw [dif_pos h, if_neg g]⟩
  · exact .inl ⟨by omega, by unfold sgnB; rw [dif_neg h], by rw [empty_size]; exact decide_eq_true (by omega)⟩

theorem ret_i64 {a b : Int} (h : a = b) : Ending.returned (.int .i64 a) = .returned (.int .i64 b) := by rw [h]
theorem ret_str {a b : ByteArray} (h : a = b) : Ending.returned (.string a) = .returned (.string b) := by rw [h]

set_option maxHeartbeats 400000 in
/-- 'zzSignOf' -/
theorem signOf_any (u : ByteArray) (w : World) :
    Calls Try.prog 13 #[.string u] w fun e w' => e = .returned (.int .i64 (sgnB u)) ∧ w = w' := by
  rcases sgnB_cases u with ⟨h0, hs, he⟩ | ⟨h0, he, ⟨h45, hs⟩ | ⟨h45, hs⟩⟩
  all_goals
    rw [hs]
    clear hs
    go_enter Try.func13, Try.ntmps13
    go_wp2
    go_ret
    exact ⟨rfl, rfl⟩

set_option maxHeartbeats 400000 in
/-- '(Decimal).sign' -/
theorem sign_any (u : ByteArray) (s : Int) (w : World) :
    Calls Try.prog 16 #[.agg #[.string u, .int .i64 s]] w fun e w' => e = .returned (.int .i64 (sgnB u)) ∧ w' = w.alloc (.cells #[.string u, .int .i64 s] 25) := by
  rcases sgnB_cases u with ⟨h0, hs, he⟩ | ⟨h0, he, ⟨h45, hs⟩ | ⟨h45, hs⟩⟩
  all_goals
    rw [hs]
    clear hs
    go_enter Try.func16, Try.ntmps16
    go_wp2
    go_ret
    exact ⟨rfl, rfl⟩

set_option maxHeartbeats 400000 in
/-- 'zzMag' -/
theorem mag_any (u : ByteArray) (w : World) :
    Calls Try.prog 15 #[.string u] w fun e w' => e = .returned (.string (magB u)) ∧ w = w' := by
  rcases sgnB_cases u with ⟨h0, hs, he⟩ | ⟨h0, he, ⟨h45, hs⟩ | ⟨h45, hs⟩⟩
  · have hm : magB u = u := by unfold magB; rw [hs, if_neg (by decide)]
    rw [hm]
    clear hs hm
    go_enter Try.func15, Try.ntmps15
    go_wp2
    go_ret
    exact ⟨rfl, rfl⟩
  · have hm : magB u = u.extract 1 u.size := by unfold magB; rw [hs, if_pos rfl]
    rw [hm]
    clear hs hm
    go_enter Try.func15, Try.ntmps15
    go_wp2
    go_ret
    exact ⟨rfl, rfl⟩
  · have hm : magB u = u := by unfold magB; rw [hs, if_neg (by decide)]
    rw [hm]
    clear hs hm
    go_enter Try.func15, Try.ntmps15
    go_wp2
    go_ret
    exact ⟨rfl, rfl⟩

theorem first_is (u : ByteArray) (h : 0 < u.size) : ((u.extract 0 1).toList == [45]) = (((u[0]'h).toNat : Int) == 45) := by
  obtain ⟨⟨l⟩⟩ := u
  rw [Lib.extract_toList]
  match l, h with
  | c :: t, h =>
    show (([c] : List UInt8) == [45]) = ((c.toNat : Int) == 45)
    rw [Bool.eq_iff_iff]
    simp only [beq_iff_eq, List.cons.injEq, and_true]
    constructor
    · rintro rfl; rfl
    · intro g
      exact UInt8.toNat_inj.1 (by simpa using Int.ofNat_inj.1 g)

set_option maxHeartbeats 400000 in
/-- 'strings.TrimPrefix(u, "-")' -/
theorem trim_any (u : ByteArray) (w : World) :
    Calls Try.prog 18 #[.string u, .string ⟨#[45]⟩] w fun e w' => e = .returned (.string (magB u)) ∧ w = w' := by
  rcases sgnB_cases u with ⟨h0, hs, he⟩ | ⟨h0, he, ⟨h45, hs⟩ | ⟨h45, hs⟩⟩
  · have hm : magB u = u := by unfold magB; rw [hs, if_neg (by decide)]
    have hd : decide ((1 : Int) ≤ (u.size : Int)) = false := by simp; omega
    rw [hm]
    clear hs hm he
    go_enter Try.func18, Try.ntmps18
    go_wp2
    go_ret
    exact ⟨rfl, rfl⟩
  · have hm : magB u = u.extract 1 u.size := by unfold magB; rw [hs, if_pos rfl]
    have hf := (first_is u h0).trans h45
    rw [hm]
    clear hs hm he h45
    go_enter Try.func18, Try.ntmps18
    go_wp2
    go_ret
    exact ⟨rfl, rfl⟩
  · have hm : magB u = u := by unfold magB; rw [hs, if_neg (by decide)]
    have hf := (first_is u h0).trans h45
    rw [hm]
    clear hs hm he h45
    go_enter Try.func18, Try.ntmps18
    go_wp2
    go_ret
    exact ⟨rfl, rfl⟩
end Go.Proofs.Qxb6627213a
