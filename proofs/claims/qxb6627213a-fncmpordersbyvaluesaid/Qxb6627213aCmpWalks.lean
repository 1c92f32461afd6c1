/- '(Decimal).Cmp' -/
import Derived.Test.Qxb6627213aDecMore
import Derived.Deep.RegionWith
namespace Go.Proofs.Qxb6627213a
open Go.RowKit

theorem magB_le (u : ByteArray) : (magB u).size ≤ u.size := by
  unfold magB
  split
  · simp
  · exact Nat.le_refl _
theorem compareInt_three (x y : Int) : Lib.compareInt x y = -1 ∨ Lib.compareInt x y = 0 ∨ Lib.compareInt x y = 1 := by
  unfold Lib.compareInt
  split
  · exact .inl rfl
  · split
    · exact .inr (.inr rfl)
    · exact .inr (.inl rfl)
theorem compareBytes_three : ∀ a b : List UInt8, Lib.compareBytes a b = -1 ∨ Lib.compareBytes a b = 0 ∨ Lib.compareBytes a b = 1
  | [], [] => .inr (.inl rfl)
  | [], _ :: _ => .inl rfl
  | _ :: _, [] => .inr (.inr rfl)
  | a :: l, b :: m => by
    unfold Lib.compareBytes
    split
    · exact .inl rfl
    · split
      · exact .inr (.inr rfl)
      · exact compareBytes_three l m
theorem orI_three {x y : Int} (hx : x = -1 ∨ x = 0 ∨ x = 1) (hy : y = -1 ∨ y = 0 ∨ y = 1) : orI x y = -1 ∨ orI x y = 0 ∨ orI x y = 1 := by
  unfold orI
  split
  · exact hx
  · exact hy
theorem wrap_mul_small {a b : Int} (ha : a = -1 ∨ a = 0 ∨ a = 1) (hb : b = -1 ∨ b = 0 ∨ b = 1) : wrap64 (a * b) = a * b := by
  rcases ha with rfl | rfl | rfl <;> rcases hb with rfl | rfl | rfl <;> (unfold wrap64; decide)

set_option maxHeartbeats 400000 in
theorem cmp_diff (u v : ByteArray) (s t : Int) (w : World) (hne : (sgnB u != sgnB v) = true) :
    Calls Try.prog 9 #[.agg #[.string u, .int .i64 s], .agg #[.string v, .int .i64 t]] w fun e w' => e = .returned (.int .i64 (Lib.compareInt (sgnB u) (sgnB v))) ∧ Below w.heap.size w w' := by
  go_enter Try.func9, Try.ntmps9
  go_wp2
  go_region_with (go_at_call 16; refine (sign_any _ _ _).mono ?_; rintro e w' ⟨rfl, rfl⟩)
  all_goals
    go_wp2
    go_region_held3 (fun w' => w'.cell? ⟨w.heap.size, 0, none⟩ = some (.string u) ∧ w'.cell? ⟨w.heap.size, 1, none⟩ = some (.int .i64 s) ∧ w'.cell? ⟨w.heap.size + 1, 0, none⟩ = some (.string v) ∧ w'.cell? ⟨w.heap.size + 1, 1, none⟩ = some (.int .i64 t)) (simp [go_sem, World.cell?_alloc_past])
      (first | (go_at_call 16; refine (sign_any _ _ _).mono ?_; rintro e w' ⟨rfl, rfl⟩) | (go_at_call 17; refine (intCmp_any _ _ _).mono ?_; rintro e w' ⟨rfl, rfl⟩))
    go_wp2
    go_ret
    refine ⟨rfl, ?_⟩
    repeat (first | exact Below.refl _ _ | refine Below.drew ?_ | refine Below.alloc ?_ (by first | omega | (simp; done) | (simp; omega)) _)

set_option maxHeartbeats 400000 in
theorem cmp_zero (u v : ByteArray) (s t : Int) (w : World) (hne : (sgnB u != sgnB v) = false) (h0 : (sgnB u == 0) = true) :
    Calls Try.prog 9 #[.agg #[.string u, .int .i64 s], .agg #[.string v, .int .i64 t]] w fun e w' => e = .returned (.int .i64 (Lib.compareInt (sgnB u) (sgnB v))) ∧ Below w.heap.size w w' := by
  go_enter Try.func9, Try.ntmps9
  go_wp2
  go_region_held3 (fun w' => w'.cell? ⟨w.heap.size, 0, none⟩ = some (.string u) ∧ w'.cell? ⟨w.heap.size, 1, none⟩ = some (.int .i64 s) ∧ w'.cell? ⟨w.heap.size + 1, 0, none⟩ = some (.string v) ∧ w'.cell? ⟨w.heap.size + 1, 1, none⟩ = some (.int .i64 t)) (simp [go_sem, World.cell?_alloc_past])
    (first | (go_at_call 16; refine (sign_any _ _ _).mono ?_; rintro e w' ⟨rfl, rfl⟩))
  all_goals
    go_wp2
    go_region_held3 (fun w' => w'.cell? ⟨w.heap.size, 0, none⟩ = some (.string u) ∧ w'.cell? ⟨w.heap.size, 1, none⟩ = some (.int .i64 s) ∧ w'.cell? ⟨w.heap.size + 1, 0, none⟩ = some (.string v) ∧ w'.cell? ⟨w.heap.size + 1, 1, none⟩ = some (.int .i64 t)) (simp [go_sem, World.cell?_alloc_past])
      (first | (go_at_call 16; refine (sign_any _ _ _).mono ?_; rintro e w' ⟨rfl, rfl⟩) | (go_at_call 17; refine (intCmp_any _ _ _).mono ?_; rintro e w' ⟨rfl, rfl⟩))
    go_wp2
    go_ret
    refine ⟨rfl, ?_⟩
    repeat (first | exact Below.refl _ _ | refine Below.drew ?_ | refine Below.alloc ?_ (by first | omega | (simp; done) | (simp; omega)) _)

set_option maxHeartbeats 400000 in
theorem cmp_same (u v : ByteArray) (s t : Int) (w : World) (hne : (sgnB u != sgnB v) = false) (h0 : (sgnB u == 0) = false) (hu : u.size ≤ 1048577) (hv : v.size ≤ 1048577) (s1 : -131072 ≤ s) (s2 : s ≤ 131072) (t1 : -131072 ≤ t) (t2 : t ≤ 131072) :
    Calls Try.prog 9 #[.agg #[.string u, .int .i64 s], .agg #[.string v, .int .i64 t]] w fun e w' => e = .returned (.int .i64 (sgnB u * orI (Lib.compareInt ((magB u).size - s) ((magB v).size - t)) (Lib.compareBytes (magB u).data.toList (magB v).data.toList))) ∧ Below w.heap.size w w' := by
  have mu : (magB u).size ≤ 1048577 := Nat.le_trans (magB_le u) hu
  have mv : (magB v).size ≤ 1048577 := Nat.le_trans (magB_le v) hv
  go_enter Try.func9, Try.ntmps9
  go_wp2
  go_region_held3 (fun w' => w'.cell? ⟨w.heap.size, 0, none⟩ = some (.string u) ∧ w'.cell? ⟨w.heap.size, 1, none⟩ = some (.int .i64 s) ∧ w'.cell? ⟨w.heap.size + 1, 0, none⟩ = some (.string v) ∧ w'.cell? ⟨w.heap.size + 1, 1, none⟩ = some (.int .i64 t)) (simp [go_sem, World.cell?_alloc_past])
    (first | (go_at_call 16; refine (sign_any _ _ _).mono ?_; rintro e w' ⟨rfl, rfl⟩))
  go_wp2
  go_region_held3 (fun w' => w'.cell? ⟨w.heap.size, 0, none⟩ = some (.string u) ∧ w'.cell? ⟨w.heap.size, 1, none⟩ = some (.int .i64 s) ∧ w'.cell? ⟨w.heap.size + 1, 0, none⟩ = some (.string v) ∧ w'.cell? ⟨w.heap.size + 1, 1, none⟩ = some (.int .i64 t)) (simp [go_sem, World.cell?_alloc_past])
    (first | (go_at_call 18; refine (trim_any _ _).mono ?_; rintro e w' ⟨rfl, rfl⟩))
  go_wp2_with (first | (go_at_call 17; refine (intCmp_any _ _ _).mono ?_; rintro e w' ⟨rfl, rfl⟩) | (go_at_call 20; refine (strCmp_any _ _ _).mono ?_; rintro e w' ⟨rfl, rfl⟩))
  refine (or_any _ (Lib.compareInt ((magB u).size - s) ((magB v).size - t)) (Lib.compareBytes (magB u).data.toList (magB v).data.toList) _ (by simp [go_sem]) (by simp [go_sem])).mono ?_
  rintro e w' ⟨rfl, rfl⟩
  go_wp2_with (first | (go_at_call 16; refine (sign_any _ _ _).mono ?_; rintro e w' ⟨rfl, rfl⟩))
  go_ret
  refine ⟨ret_i64 (wrap_mul_small (sgnB_three u) (orI_three (compareInt_three _ _) (compareBytes_three _ _))), ?_⟩
  repeat (first | exact Below.refl _ _ | refine Below.drew ?_ | refine Below.alloc ?_ (by first | omega | (simp; done) | (simp; omega)) _)

/-- What 'd.Cmp(e)' is. -/
def cmpB (u : ByteArray) (s : Int) (v : ByteArray) (t : Int) : Int :=
  if sgnB u = sgnB v ∧ sgnB u ≠ 0 then sgnB u * orI (Lib.compareInt ((magB u).size - s) ((magB v).size - t)) (Lib.compareBytes (magB u).data.toList (magB v).data.toList)
  else Lib.compareInt (sgnB u) (sgnB v)

theorem cmp_any (u v : ByteArray) (s t : Int) (w : World) (hu : u.size ≤ 1048577) (hv : v.size ≤ 1048577) (s1 : -131072 ≤ s) (s2 : s ≤ 131072) (t1 : -131072 ≤ t) (t2 : t ≤ 131072) :
    Calls Try.prog 9 #[.agg #[.string u, .int .i64 s], .agg #[.string v, .int .i64 t]] w fun e w' => e = .returned (.int .i64 (cmpB u s v t)) ∧ Below w.heap.size w w' := by
  unfold cmpB
  by_cases h : sgnB u = sgnB v
  · by_cases h0 : sgnB u = 0
    · rw [if_neg (fun g => g.2 h0)]
      exact cmp_zero u v s t w (by simpa using h) (by simpa using h0)
    · rw [if_pos ⟨h, h0⟩]
      exact cmp_same u v s t w (by simpa using h) (by simpa using h0) hu hv s1 s2 t1 t2
  · rw [if_neg (fun g => h g.1)]
    exact cmp_diff u v s t w (by simpa using h)
end Go.Proofs.Qxb6627213a
