/- THE PLAIN LAWS on totals in wrapping arithmetic, and on where the levels lie. -/
import Derived.Test.Qxb6626926aLvWalks
namespace Go.Proofs.Qxb6626926a
open Go.RowKit

theorem wrap_add_left (a b : Int) : wrap64 (wrap64 a + b) = wrap64 (a + b) := by unfold wrap64; omega
theorem wrap_add_right (a b : Int) : wrap64 (a + wrap64 b) = wrap64 (a + b) := by unfold wrap64; omega

/-- Levels added field by field, wrapping. -/
def addL (x y : Int × Int × Int) : Int × Int × Int := (wrap64 (x.1 + y.1), wrap64 (x.2.1 + y.2.1), wrap64 (x.2.2 + y.2.2))
theorem sumTo_succ (Z : Nat → Int × Int × Int) (k : Nat) : sumTo Z (k + 1) = addL (sumTo Z k) (Z k) := rfl
theorem addL_assoc (x y z : Int × Int × Int) : addL (addL x y) z = addL x (addL y z) := by
  unfold addL
  simp only [wrap_add_left, wrap_add_right, Int.add_assoc]
theorem addL_comm (x y : Int × Int × Int) : addL x y = addL y x := by
  unfold addL
  simp only [Int.add_comm]
/-- A level whose three numbers are ints. -/
def isInt (x : Int × Int × Int) : Prop := wrap64 x.1 = x.1 ∧ wrap64 x.2.1 = x.2.1 ∧ wrap64 x.2.2 = x.2.2
theorem addL_isInt (x y : Int × Int × Int) : isInt (addL x y) := by
  unfold isInt addL wrap64
  refine ⟨?_, ?_, ?_⟩ <;> simp only <;> omega
theorem sumTo_isInt (Z : Nat → Int × Int × Int) (k : Nat) : isInt (sumTo Z k) := by
  cases k with
  | zero => refine ⟨?_, ?_, ?_⟩ <;> (unfold sumTo wrap64; decide)
  | succ k => rw [sumTo_succ]; exact addL_isInt _ _
theorem zero_addL (x : Int × Int × Int) (h : isInt x) : addL (0, 0, 0) x = x := by
  obtain ⟨a, b, c⟩ := x
  obtain ⟨h1, h2, h3⟩ := h
  simp only at h1 h2 h3
  simp [addL, h1, h2, h3]
theorem addL_zero (x : Int × Int × Int) (h : isInt x) : addL x (0, 0, 0) = x := by rw [addL_comm]; exact zero_addL x h

/-- The whole is the part before the cut and the part behind it. -/
theorem sumTo_split (Z : Nat → Int × Int × Int) (k : Nat) : ∀ m, sumTo Z (k + m) = addL (sumTo Z k) (sumTo (fun i => Z (k + i)) m)
  | 0 => (addL_zero _ (sumTo_isInt Z k)).symm
  | m + 1 => by
    rw [show k + (m + 1) = (k + m) + 1 from rfl, sumTo_succ, sumTo_split Z k m, sumTo_succ, addL_assoc]
theorem sumTo_one (Z : Nat → Int × Int × Int) (h : isInt (Z 0)) : sumTo Z 1 = Z 0 := by
  rw [sumTo_succ]
  exact zero_addL _ h
theorem sumTo_congr (Z Z' : Nat → Int × Int × Int) : ∀ n, (∀ i, i < n → Z i = Z' i) → sumTo Z n = sumTo Z' n
  | 0, _ => rfl
  | n + 1, h => by rw [sumTo_succ, sumTo_succ, sumTo_congr Z Z' n (fun i hi => h i (by omega)), h n (by omega)]

/-- The levels with x put in at place k. -/
def putIn (Z : Nat → Int × Int × Int) (k : Nat) (x : Int × Int × Int) (i : Nat) : Int × Int × Int := if i < k then Z i else if i = k then x else Z (i - 1)
theorem sumTo_putIn (Z : Nat → Int × Int × Int) (k : Nat) (x : Int × Int × Int) (m : Nat) :
    sumTo (putIn Z k x) (k + 1 + m) = addL (sumTo Z (k + m)) x := by
  rw [sumTo_split (putIn Z k x) (k + 1) m, sumTo_succ, sumTo_split Z k m,
    sumTo_congr (putIn Z k x) Z k (fun i hi => by unfold putIn; rw [if_pos hi]),
    sumTo_congr (fun i => putIn Z k x (k + 1 + i)) (fun i => Z (k + i)) m (fun i _ => by
      simp only [putIn]
      rw [if_neg (by omega), if_neg (by omega)]
      congr 1
      omega)]
  have e : putIn Z k x k = x := by unfold putIn; rw [if_neg (by omega), if_pos rfl]
  rw [e, addL_assoc, addL_assoc, addL_comm x]

theorem flat_length (Z : Nat → Int × Int × Int) : ∀ n, (flat Z n).length = n * 3
  | 0 => rfl
  | n + 1 => by simp [flat, flat_length Z n]; omega
theorem flat_get (Z : Nat → Int × Int × Int) : ∀ n i, i < n → (flat Z n)[i * 3]? = some (.int .i64 (Z i).1) ∧ (flat Z n)[i * 3 + 1]? = some (.int .i64 (Z i).2.1) ∧ (flat Z n)[i * 3 + 2]? = some (.int .i64 (Z i).2.2)
  | 0, i, h => by omega
  | n + 1, i, h => by
    have hl := flat_length Z n
    unfold flat
    by_cases hi : i < n
    · have ih := flat_get Z n i hi
      rw [List.getElem?_append_left (by omega), List.getElem?_append_left (by omega), List.getElem?_append_left (by omega)]
      exact ih
    · obtain rfl : i = n := by omega
      rw [List.getElem?_append_right (by omega), List.getElem?_append_right (by omega), List.getElem?_append_right (by omega), hl]
      simp
theorem flat_congr (Z Z' : Nat → Int × Int × Int) : ∀ n, (∀ i, i < n → Z i = Z' i) → flat Z n = flat Z' n
  | 0, _ => rfl
  | n + 1, h => by unfold flat; rw [flat_congr Z Z' n (fun i hi => h i (by omega)), h n (by omega)]

theorem lies_of_own {w : World} {base g n cap : Nat} {Z : Nat → Int × Int × Int} (h : w.ownsRow base 28 3 (.slice (some ⟨g, 0, none⟩) n cap) n (flat Z n)) : lies w g 0 n Z := by
  intro i hi
  have hc := h.cells (g := g) rfl
  obtain ⟨a, b, c⟩ := flat_get Z n i hi
  have h1 := hc _ _ a
  have h2 := hc _ _ b
  have h3 := hc _ _ c
  rw [Addr.add_lit] at h1 h2 h3
  simp only [Nat.zero_add] at h1 h2 h3 ⊢
  exact ⟨h1, h2, h3⟩
theorem lies_below {B b off n : Nat} {w w' : World} {Z : Nat → Int × Int × Int} (h : lies w b off n Z) (hb : Below B w w') (hB : b < B) : lies w' b off n Z := by
  intro i hi
  obtain ⟨a, c, d⟩ := h i hi
  exact ⟨(hb.cell (p := ⟨b, _, none⟩) hB).trans a, (hb.cell (p := ⟨b, _, none⟩) hB).trans c, (hb.cell (p := ⟨b, _, none⟩) hB).trans d⟩
theorem lies_part {b off n k m : Nat} {w : World} {Z : Nat → Int × Int × Int} (h : lies w b off n Z) (hk : k + m ≤ n) : lies w b (off + k * 3) m (fun i => Z (k + i)) := by
  intro i hi
  have := h (k + i) (by omega)
  rw [show off + (k + i) * 3 = off + k * 3 + i * 3 from by omega] at this
  exact this
theorem sees_below {B n : Nat} {ao : Option Addr} {w w' : World} {Z : Nat → Int × Int × Int} (h : sees w ao n Z) (hb : Below B w w') (hB : w.heap.size ≤ B) : sees w' ao n Z := by
  rcases h with h | ⟨b, off, rfl, hlt, hl⟩
  · exact .inl h
  · exact .inr ⟨b, off, rfl, Nat.lt_of_lt_of_le hlt hb.size, lies_below hl hb (by omega)⟩
end Go.Proofs.Qxb6626926a
