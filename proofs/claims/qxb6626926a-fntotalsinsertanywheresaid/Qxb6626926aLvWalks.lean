import Derived.Test.Qxb6626926aRows
import Derived.WalkKit
import Derived.WalkSpells
import Derived.WalkLawsBesides
import Derived.BigQuiet
import Derived.Deep.QuietTactic
import Derived.Deep.RegionHeld3
import Derived.RowKit3
namespace Go.Proofs.Qxb6626926a
open Go.RowKit

set_option maxHeartbeats 400000 in
theorem toLevel_any (a b c : Int) (w : World) :
    Calls Try.prog 7 #[.agg #[.int .i64 a, .int .i64 b, .int .i64 c]] w fun e w' => e = .returned (.agg #[.int .i64 a, .int .i64 b, .int .i64 c]) ∧ ∃ o1 o2, w' = (w.alloc (.cells o1 24)).alloc (.cells o2 28) := by
  go_enter Try.func7, Try.ntmps7
  go_wp2
  simp [bodyPost, results, Try.results7, go_sem]
  exact ⟨_, _, rfl⟩

set_option maxHeartbeats 400000 in
theorem addLevel_any (a b c a' b' c' : Int) (w : World) :
    Calls Try.prog 9 #[.agg #[.int .i64 a, .int .i64 b, .int .i64 c], .agg #[.int .i64 a', .int .i64 b', .int .i64 c']] w fun e w' =>
      e = .returned (.agg #[.int .i64 (wrap64 (a + a')), .int .i64 (wrap64 (b + b')), .int .i64 (wrap64 (c + c'))]) ∧ ∃ o1 o2 o3, w' = ((w.alloc (.cells o1 28)).alloc (.cells o2 28)).alloc (.cells o3 28) := by
  go_enter Try.func9, Try.ntmps9
  go_wp2
  simp [bodyPost, results, Try.results9, go_sem]
  exact ⟨_, _, _, rfl⟩

theorem bytes3_any (k : Int) (ao : Option Addr) (n cap : Nat) (a b c : Int) (w : World) (hn : n ≤ 1048576) :
    Calls Try.prog 5 #[.slice ao n cap, .int .i64 k, .agg #[.int .i64 a, .int .i64 b, .int .i64 c]] w fun e w' => e = .returned (.bool true) ∧ ∃ o1, w' = (w.alloc (.cells o1 24)) := by
  go_enter Try.func5, Try.ntmps5
  go_wp2
  go_ret
  exact ⟨rfl, _, rfl⟩
theorem bytes3_no (k : Int) (ao : Option Addr) (n cap : Nat) (a b c : Int) (w : World) (hn : 1048576 < n) :
    Calls Try.prog 5 #[.slice ao n cap, .int .i64 k, .agg #[.int .i64 a, .int .i64 b, .int .i64 c]] w fun e w' => e = .returned (.bool false) ∧ ∃ o1, w' = (w.alloc (.cells o1 24)) := by
  go_enter Try.func5, Try.ntmps5
  go_wp2
  go_ret
  exact ⟨rfl, _, rfl⟩
theorem bytes2_any (k : Int) (ao : Option Addr) (n cap : Nat) (w : World) (hn : n ≤ 1048576) :
    Calls Try.prog 10 #[.slice ao n cap, .int .i64 k] w fun e w' => e = .returned (.bool true) ∧ w = w' := by
  go_enter Try.func10, Try.ntmps10
  go_wp2
  go_ret
  exact ⟨rfl, rfl⟩
theorem bytes2_no (k : Int) (ao : Option Addr) (n cap : Nat) (w : World) (hn : 1048576 < n) :
    Calls Try.prog 10 #[.slice ao n cap, .int .i64 k] w fun e w' => e = .returned (.bool false) ∧ w = w' := by
  go_enter Try.func10, Try.ntmps10
  go_wp2
  go_ret
  exact ⟨rfl, rfl⟩

/-- The totals of the first k levels, in Go's wrapping arithmetic. -/
def sumTo (Z : Nat → Int × Int × Int) : Nat → Int × Int × Int
  | 0 => (0, 0, 0)
  | k + 1 => (wrap64 ((sumTo Z k).1 + (Z k).1), wrap64 ((sumTo Z k).2.1 + (Z k).2.1), wrap64 ((sumTo Z k).2.2 + (Z k).2.2))

/-- A level as a value. -/
abbrev lvV (x : Int × Int × Int) : Value := .agg #[.int .i64 x.1, .int .i64 x.2.1, .int .i64 x.2.2]

/-- n levels lie from offset off of block b on. -/
def lies (w : World) (b off n : Nat) (Z : Nat → Int × Int × Int) : Prop :=
  ∀ i, i < n → w.cell? ⟨b, off + i * 3, none⟩ = some (.int .i64 (Z i).1) ∧ w.cell? ⟨b, off + i * 3 + 1, none⟩ = some (.int .i64 (Z i).2.1) ∧ w.cell? ⟨b, off + i * 3 + 2, none⟩ = some (.int .i64 (Z i).2.2)

/-- A slice of n levels, nil or not, as it is read. -/
def sees (w : World) (ao : Option Addr) (n : Nat) (Z : Nat → Int × Int × Int) : Prop := n = 0 ∨ ∃ b off, ao = some ⟨b, off, none⟩ ∧ b < w.heap.size ∧ lies w b off n Z

set_option maxHeartbeats 400000 in
theorem totals_any (ao : Option Addr) (n cap : Nat) (hn : n ≤ 43691) (Z : Nat → Int × Int × Int) (w : World) (hS : sees w ao n Z) :
    Calls Try.prog 8 #[.agg #[.slice ao n cap]] w fun e w' => e = .returned (lvV (sumTo Z n)) ∧ Below w.heap.size w w' := by
  go_enter Try.func8, Try.ntmps8
  go_wp2
  go_loopw [9] (fun i wr => ∃ k : Nat, k ≤ n ∧ i = .int .i64 k ∧ w.heap.size + 3 ≤ wr.heap.size ∧ Below w.heap.size w wr ∧
      wr.cell? ⟨w.heap.size + 1 + 1, 0, none⟩ = some (.int .i64 (sumTo Z k).1) ∧ wr.cell? ⟨w.heap.size + 1 + 1, 1, none⟩ = some (.int .i64 (sumTo Z k).2.1) ∧ wr.cell? ⟨w.heap.size + 1 + 1, 2, none⟩ = some (.int .i64 (sumTo Z k).2.2) ∧
      wr.frozen? ⟨w.heap.size + 1 + 1, 0, none⟩ = false ∧ wr.frozen? ⟨w.heap.size + 1 + 1, 1, none⟩ = false ∧ wr.frozen? ⟨w.heap.size + 1 + 1, 2, none⟩ = false ∧
      wr.cell? ⟨w.heap.size + 1, 0, none⟩ = some (.int .i64 0) ∧ wr.cell? ⟨w.heap.size + 1, 1, none⟩ = some (.int .i64 0) ∧ wr.cell? ⟨w.heap.size + 1, 2, none⟩ = some (.int .i64 0) ∧
      wr.frozen? ⟨w.heap.size + 1, 0, none⟩ = false ∧ wr.frozen? ⟨w.heap.size + 1, 1, none⟩ = false ∧ wr.frozen? ⟨w.heap.size + 1, 2, none⟩ = false)
    (fun i _ => n - (intOf i).toNat)
  case atStart =>
    refine ⟨0, Nat.zero_le _, rfl, by simp, ?_, ?_⟩
    · exact (((Below.refl _ _).alloc (Nat.le_refl _) _).alloc (by simp) _).alloc (by simp; omega) _
    · simp [go_sem, sumTo]
  case round =>
    obtain ⟨k, hk, rfl, hz, hbel, t0, t1, t2, f0, f1, f2, r0, r1, r2, g0, g1, g2⟩ := hrel
    by_cases hlt : k < n
    · rcases hS with rfl | ⟨b, off, rfl, hb, hL⟩
      · omega
      obtain ⟨c1, c2, c3⟩ := hL k hlt
      rw [← hbel.cell (by exact hb)] at c1 c2 c3
      have hz1 : w.heap.size + 1 + 1 < wr.heap.size := by omega
      have hz2 : w.heap.size + 1 < wr.heap.size := by omega
      go_wp2
      go_roundw
      case rel =>
        refine ⟨k + 1, by omega, by go_num, by simp [World.setCell]; omega, ?_, ?_⟩
        · exact (((hbel.setCell (by simp; omega) _).setCell (by simp; omega) _).setCell (by simp; omega) _).alloc (by simp [World.setCell]; omega) _
        · simp [go_sem, sumTo, World.cell?_alloc_past, World.frozen?_alloc_past, hz1, hz2, t0, t1, t2, f0, f1, f2, r0, r1, r2, g0, g1, g2]
      case measure => simp [intOf]; omega
    · have hkn : k = n := by omega
      subst hkn
      go_wp2
      exact bodyPost_ret (v := lvV (sumTo Z k)) (by simp [results, Try.results8, go_sem, r0, r1, r2]) rfl ⟨rfl, ((hbel.setCell (by simp) _).setCell (by simp) _).setCell (by simp) _⟩

theorem Try.info28 : (Try.prog.info? 28).map (fun i => (i.zero, i.size, i.bytes)) = some (some (.agg #[.int .i64 0, .int .i64 0, .int .i64 0]), 3, 24) := by kernel_rfl

/-- The cells of the first k levels. -/
def flat (Z : Nat → Int × Int × Int) : Nat → List Value
  | 0 => []
  | k + 1 => flat Z k ++ [.int .i64 (Z k).1, .int .i64 (Z k).2.1, .int .i64 (Z k).2.2]

theorem news_cells (W : World) (s : Nat) (hs : s = W.heap.size) (x y z : Value) : ∀ j u, [x, y, z][j]? = some u → (W.alloc (.cells #[x, y, z] 28)).cell? ((⟨s, 0, none⟩ : Addr).add j) = some u := by
  intro j u hj
  rw [Addr.add_lit, World.cell?_alloc_at _ _ _ _ hs]
  simpa using hj
theorem one3 (x y z : Int) : ∀ u ∈ [Value.int .i64 x, .int .i64 y, .int .i64 z], u.oneCell' = true := by
  intro u hu
  simp at hu
  rcases hu with rfl | rfl | rfl <;> rfl
theorem step_below {w wr w' : World} {o1 o2 o3 : Obj} {g : Nat} (hb : Below w.heap.size w wr) (hg : (((wr.alloc o1).alloc o2).alloc o3).grownBy w' (some g)) (hg' : w.heap.size ≤ g) :
    Below w.heap.size w w' ∧ wr.heap.size ≤ w'.heap.size := by
  have h1 := hb.size
  have h2 := hg.size
  simp at h2
  refine ⟨(((hb.alloc h1 _).alloc (by simp; omega) _).alloc (by simp; omega) _).grown hg (by simp; omega) (by intro k hk; simp at hk; omega), by omega⟩

set_option maxHeartbeats 400000 in
theorem toLevels_any (ao : Option Addr) (n cap : Nat) (hn : n ≤ 43691) (Z : Nat → Int × Int × Int) (w : World) (hS : sees w ao n Z) :
    Calls Try.prog 6 #[.slice ao n cap] w fun e w' => e = .returned (.slice (some ⟨w.heap.size, 0, none⟩) n n) ∧ w'.ownsRow w.heap.size 28 3 (.slice (some ⟨w.heap.size, 0, none⟩) n n) n (flat Z n) ∧ Below w.heap.size w w' := by
  obtain ⟨i0, hi, hz0, hz1, hz2⟩ := info_parts Try.info28
  go_enter Try.func6, Try.ntmps6
  go_wp2_with (at_make; refine wpList_make_own _ rfl _ _ 26 rfl w.heap.size 28 i0 _ 3 Try.underlying26 hi hz0 hz1 .i64 .i64 _ n rfl rfl ?c1 ?c2 ?c3 ?c4 ?_)
  case c1 => rfl
  case c2 => rw [hz2]; omega
  case c3 => unfold maxLen; omega
  case c4 => omega
  intro w1 hown hgrow
  have hz : w.heap.size < w1.heap.size := (hown.lt w.heap.size rfl).2
  have hbel : Below w.heap.size w w1 := (Below.refl _ _).grown hgrow (Nat.le_refl _) (by simp)
  clear hgrow
  go_wp2
  go_loopw [3, 4] (fun v i wr => ∃ k : Nat, k ≤ n ∧ i = .int .i64 k ∧ v = .slice (some ⟨w.heap.size, 0, none⟩) k n ∧ wr.ownsRow w.heap.size 28 3 (.slice (some ⟨w.heap.size, 0, none⟩) k n) k (flat Z k) ∧ w.heap.size < wr.heap.size ∧ Below w.heap.size w wr)
    (fun _ i _ => n - (intOf i).toNat)
  case atStart => exact ⟨0, Nat.zero_le _, rfl, rfl, hown, hz, hbel⟩
  case round =>
    clear hown hz hbel
    obtain ⟨k, hk, rfl, rfl, hown, hz, hbel⟩ := hrel
    by_cases hlt : k < n
    · rcases hS with rfl | ⟨b, off, rfl, hb, hL⟩
      · omega
      obtain ⟨c1, c2, c3⟩ := hL k hlt
      rw [← hbel.cell (by exact hb)] at c1 c2 c3
      go_wp2_with (first
        | (go_at_call 7; refine (toLevel_any _ _ _ _).mono ?_; rintro e w' ⟨rfl, o1, o2, rfl⟩)
        | (at_builtin; refine wpList_append_fits _ rfl _ _ 26 rfl w.heap.size 28 i0 3 Try.underlying26 hi hz1 w.heap.size k n _ rfl (((hown.alloc _).alloc _).alloc _) ⟨wr.heap.size + 1 + 1, 0, none⟩ 1 1 [.int .i64 (Z k).1, .int .i64 (Z k).2.1, .int .i64 (Z k).2.2] rfl rfl ?d1 ?d2 ?d3 ?_))
      case d1 => exact news_cells _ _ (by simp) _ _ _
      case d2 => exact one3 _ _ _
      case d3 => omega
      intro w2 hown2 hgrow2
      obtain ⟨hb2, hs2⟩ := step_below hbel hgrow2 (Nat.le_refl _)
      clear hgrow2
      go_wp2
      go_roundw
      case rel => exact ⟨k + 1, by omega, by go_num, rfl, hown2, by omega, hb2⟩
      case measure => simp [intOf]; omega
    · have hkn : k = n := by omega
      subst hkn
      go_wp2
      go_ret
      exact ⟨rfl, hown, hbel⟩
end Go.Proofs.Qxb6626926a
