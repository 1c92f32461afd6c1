/- THE PLAIN LAWS of the comparison: shift, negation, zero, sameness. -/
import Derived.Test.Qxb6627213aCmpWalks
import Derived.Test.Qxb6627213aCanWalks
namespace Go.Proofs.Qxb6627213a
open Go.RowKit

theorem compareInt_neg (x y : Int) : Lib.compareInt (-x) (-y) = -Lib.compareInt x y := by
  unfold Lib.compareInt
  split <;> split <;> (try split) <;> omega
theorem compareInt_swap (x y : Int) : Lib.compareInt y x = -Lib.compareInt x y := by
  unfold Lib.compareInt
  split <;> split <;> (try split) <;> omega
theorem compareInt_zero {x y : Int} : Lib.compareInt x y = 0 ↔ x = y := by
  unfold Lib.compareInt
  split
  · constructor
    · intro h; omega
    · intro h; omega
  · split
    · constructor
      · intro h; omega
      · intro h; omega
    · constructor
      · intro _; omega
      · intro _; rfl
theorem compareBytes_zero : ∀ {a b : List UInt8}, Lib.compareBytes a b = 0 ↔ a = b
  | [], [] => by simp [Lib.compareBytes]
  | [], _ :: _ => by simp [Lib.compareBytes]
  | _ :: _, [] => by simp [Lib.compareBytes]
  | a :: l, b :: m => by
    unfold Lib.compareBytes
    by_cases h1 : a < b
    · rw [if_pos h1]
      constructor
      · intro h; omega
      · rintro h
        simp only [List.cons.injEq] at h
        rw [h.1] at h1
        exact absurd h1 (UInt8.lt_irrefl b)
    · rw [if_neg h1]
      by_cases h2 : b < a
      · rw [if_pos h2]
        constructor
        · intro h; omega
        · rintro h
          simp only [List.cons.injEq] at h
          rw [h.1] at h2
          exact absurd h2 (UInt8.lt_irrefl b)
      · rw [if_neg h2, compareBytes_zero]
        have e : a = b := UInt8.le_antisymm (UInt8.not_lt.1 h2) (UInt8.not_lt.1 h1)
        rw [e]
        simp
theorem compareBytes_swap : ∀ (a b : List UInt8), Lib.compareBytes b a = -Lib.compareBytes a b
  | [], [] => rfl
  | [], _ :: _ => rfl
  | _ :: _, [] => rfl
  | a :: l, b :: m => by
    unfold Lib.compareBytes
    by_cases h1 : a < b
    · have h2 : ¬ b < a := UInt8.not_lt.2 (UInt8.le_of_lt h1)
      rw [if_neg h2, if_pos h1, if_pos h1]
      decide
    · by_cases h2 : b < a
      · rw [if_pos h2, if_neg h1, if_pos h2]
      · rw [if_neg h2, if_neg h1, if_neg h1, if_neg h2]
        exact compareBytes_swap l m
theorem orI_neg (x y : Int) : orI (-x) (-y) = -orI x y := by
  unfold orI
  split <;> split <;> omega
theorem orI_zero {x y : Int} : orI x y = 0 ↔ x = 0 ∧ y = 0 := by
  unfold orI
  split
  · constructor
    · intro h; exact absurd h (by omega)
    · intro h; exact h.1
  · constructor
    · intro h; exact ⟨by omega, h⟩
    · intro h; exact h.2

/-- 'd' against 'e' is the negation of 'e' against 'd'. -/
theorem cmpB_swap (u : ByteArray) (s : Int) (v : ByteArray) (t : Int) : cmpB v t u s = -cmpB u s v t := by
  unfold cmpB
  by_cases h : sgnB u = sgnB v ∧ sgnB u ≠ 0
  · rw [if_pos h, if_pos ⟨h.1.symm, by rw [← h.1]; exact h.2⟩, ← h.1, compareInt_swap, compareBytes_swap, orI_neg, Int.mul_neg]
  · rw [if_neg h, if_neg (fun g => h ⟨g.1.symm, by rw [← g.1]; exact g.2⟩), compareInt_swap]

theorem cmpB_three (u : ByteArray) (s : Int) (v : ByteArray) (t : Int) : cmpB u s v t = -1 ∨ cmpB u s v t = 0 ∨ cmpB u s v t = 1 := by
  unfold cmpB
  split
  · have h1 := sgnB_three u
    have h2 := orI_three (compareInt_three ((magB u).size - s) ((magB v).size - t)) (compareBytes_three (magB u).data.toList (magB v).data.toList)
    rcases h1 with h1 | h1 | h1 <;> rcases h2 with h2 | h2 | h2 <;> rw [h1, h2] <;> decide
  · exact compareInt_three _ _

theorem cmpB_shift (u : ByteArray) (s : Int) (v : ByteArray) (t k : Int) : cmpB u (shiftI u s k) v (shiftI v t k) = cmpB u s v t := by
  unfold cmpB
  by_cases h : sgnB u = sgnB v ∧ sgnB u ≠ 0
  · have hv : sgnB v ≠ 0 := by rw [← h.1]; exact h.2
    rw [if_pos h, if_pos h]
    unfold shiftI
    rw [if_neg h.2, if_neg hv]
    have e : Lib.compareInt ((magB u).size - (s - k)) ((magB v).size - (t - k)) = Lib.compareInt ((magB u).size - s) ((magB v).size - t) := by
      unfold Lib.compareInt
      split <;> split <;> (try split) <;> (try split) <;> omega
    rw [e]
  · rw [if_neg h, if_neg h]

theorem compareInt_sgn (x : Int) (h : x = -1 ∨ x = 0 ∨ x = 1) : Lib.compareInt x 0 = x := by
  rcases h with rfl | rfl | rfl <;> rfl
theorem sgnB_nil : sgnB ⟨#[]⟩ = 0 := rfl
theorem cmpB_nil (u : ByteArray) (s : Int) : cmpB u s ⟨#[]⟩ 0 = sgnB u := by
  unfold cmpB
  rw [if_neg (fun h => h.2 (h.1.trans sgnB_nil)), sgnB_nil]
  exact compareInt_sgn _ (sgnB_three u)
theorem nil_cmpB (v : ByteArray) (t : Int) : cmpB ⟨#[]⟩ 0 v t = -sgnB v := by rw [cmpB_swap v t, cmpB_nil]

/-! ### Signs and magnitudes by lists -/
theorem sgnB_list (u : ByteArray) : sgnB u = match u.data.toList with | [] => 0 | c :: _ => if c = 45 then -1 else 1 := by
  obtain ⟨⟨l⟩⟩ := u
  cases l with
  | nil => rfl
  | cons c l =>
    unfold sgnB
    rw [dif_pos (show 0 < (ByteArray.mk ⟨c :: l⟩).size from Nat.succ_pos _)]
    show (if (c.toNat : Int) = 45 then (-1 : Int) else 1) = if c = 45 then -1 else 1
    by_cases h : c = 45
    · subst h; rfl
    · rw [if_neg h, if_neg]
      intro g
      exact h (UInt8.toNat_inj.1 (by simpa using Int.ofNat_inj.1 g))
theorem magB_list (u : ByteArray) : (magB u).data.toList = match u.data.toList with | [] => [] | c :: l => if c = 45 then l else c :: l := by
  unfold magB
  rw [sgnB_list]
  obtain ⟨⟨l⟩⟩ := u
  cases l with
  | nil => rfl
  | cons c l =>
    show (if (if c = 45 then (-1 : Int) else 1) = -1 then (ByteArray.mk ⟨c :: l⟩).extract 1 (ByteArray.mk ⟨c :: l⟩).size else ⟨⟨c :: l⟩⟩).data.toList = if c = 45 then l else c :: l
    by_cases h : c = 45
    · rw [if_pos h, if_pos rfl, if_pos h, Lib.extract_data]
      show (l.take (l.length + 1 - 1)) = l
      simp
    · rw [if_neg h, if_neg (by decide), if_neg h]
theorem negB_list (u : ByteArray) : (negB u).data.toList = match u.data.toList with | [] => [] | c :: l => if c = 45 then l else 45 :: c :: l := by
  unfold negB
  rw [sgnB_list]
  obtain ⟨⟨l⟩⟩ := u
  cases l with
  | nil => rfl
  | cons c l =>
    show (if (if c = 45 then (-1 : Int) else 1) = 0 then ⟨#[]⟩ else if (if c = 45 then (-1 : Int) else 1) = -1 then (ByteArray.mk ⟨c :: l⟩).extract 1 (ByteArray.mk ⟨c :: l⟩).size else ⟨#[45]⟩ ++ ⟨⟨c :: l⟩⟩ : ByteArray).data.toList = if c = 45 then l else 45 :: c :: l
    by_cases h : c = 45
    · rw [if_pos h, if_neg (by decide), if_pos rfl, if_pos h, Lib.extract_data]
      show (l.take (l.length + 1 - 1)) = l
      simp
    · rw [if_neg h, if_neg (by decide), if_neg (by decide), if_neg h]
      simp
theorem size_list (u : ByteArray) : u.size = u.data.toList.length := by
  show u.data.size = _
  simp
theorem ext_list {u v : ByteArray} (h : u.data.toList = v.data.toList) : u = v := by
  obtain ⟨⟨l⟩⟩ := u
  obtain ⟨⟨m⟩⟩ := v
  simp at h
  rw [h]

/-- A canonical number's text, negated: the sign turns, the magnitude stays. -/
theorem negB_canon {u : ByteArray} {s : Int} (h : Canon u s) : sgnB (negB u) = -sgnB u ∧ magB (negB u) = magB u := by
  have e1 := sgnB_list u
  have e2 := sgnB_list (negB u)
  have e3 := negB_list u
  have e4 := magB_list u
  have e5 := magB_list (negB u)
  rw [e3] at e2 e5
  match hl : u.data.toList with
  | [] =>
    rw [hl] at e1 e2 e3 e4 e5
    exact ⟨by rw [e1, e2]; rfl, ext_list (by rw [e4, e5])⟩
  | c :: l =>
    rw [hl] at e1 e2 e3 e4 e5
    simp only at e1 e2 e3 e4 e5
    by_cases hc : c = 45
    · rw [if_pos hc] at e1 e2 e3 e4 e5
      have hcan := h.2.1 e1
      have hsz := hcan.some
      rw [size_list, hl] at hsz
      obtain ⟨h1, g1, g2⟩ := hcan.digits 1 (Nat.le_refl _) hcan.some
      match l, hsz with
      | d :: l, _ =>
        have hd : d ≠ 45 := by
          have e : u[1]'h1 = d := by
            have : (u.data.toList)[1]? = some d := by rw [hl]; rfl
            have g : u.data.toList[1]? = some (u[1]'h1) := by
              rw [List.getElem?_eq_getElem (by rw [hl]; simp)]
              rfl
            exact Option.some.inj (g.symm.trans this)
          rw [e] at g1
          intro x
          rw [x] at g1
          exact absurd g1 (by decide)
        simp only at e2 e5
        rw [if_neg hd] at e2 e5
        exact ⟨by rw [e1, e2]; rfl, ext_list (by rw [e4, e5])⟩
    · rw [if_neg hc] at e1 e2 e3 e4 e5
      simp only [if_true] at e2 e5
      exact ⟨by rw [e1, e2], ext_list (by rw [e4, e5])⟩

theorem cmpB_neg {u : ByteArray} {s : Int} {v : ByteArray} {t : Int} (hu : Canon u s) (hv : Canon v t) : cmpB (negB u) s (negB v) t = -cmpB u s v t := by
  obtain ⟨a1, a2⟩ := negB_canon hu
  obtain ⟨b1, b2⟩ := negB_canon hv
  unfold cmpB
  rw [a1, a2, b1, b2]
  by_cases h : sgnB u = sgnB v ∧ sgnB u ≠ 0
  · rw [if_pos h, if_pos ⟨by rw [h.1], by have := h.2; omega⟩, Int.neg_mul]
  · rw [if_neg h, if_neg (fun g => h ⟨by omega, by have := g.2; omega⟩), compareInt_neg]

/-- 0 exactly at the same text and scale. -/
theorem cmpB_zero {u : ByteArray} {s : Int} {v : ByteArray} {t : Int} (hu : Canon u s) (hv : Canon v t) : cmpB u s v t = 0 ↔ u = v ∧ s = t := by
  have e1 := sgnB_list u
  have e2 := sgnB_list v
  have e3 := magB_list u
  have e4 := magB_list v
  constructor
  · intro h
    unfold cmpB at h
    by_cases g : sgnB u = sgnB v ∧ sgnB u ≠ 0
    · rw [if_pos g] at h
      have h' : orI (Lib.compareInt ((magB u).size - s) ((magB v).size - t)) (Lib.compareBytes (magB u).data.toList (magB v).data.toList) = 0 := by
        rcases Int.mul_eq_zero.1 h with x | x
        · exact absurd x g.2
        · exact x
      obtain ⟨h1, h2⟩ := orI_zero.1 h'
      have h3 := compareInt_zero.1 h1
      have h4 := compareBytes_zero.1 h2
      have h5 : u.data.toList = v.data.toList := by
        have gs := g.1
        rw [e1, e2] at gs
        rw [e3, e4] at h4
        have g0 := g.2
        rw [e1] at g0
        match hl : u.data.toList, hm : v.data.toList with
        | [], _ => rw [hl] at g0; exact absurd rfl g0
        | c :: l, [] =>
          rw [hl, hm] at gs
          simp only at gs
          split at gs <;> omega
        | c :: l, d :: m =>
          rw [hl, hm] at gs h4
          simp only at gs h4
          by_cases hc : c = 45
          · by_cases hd : d = 45
            · rw [if_pos hc, if_pos hd] at h4
              rw [hc, hd, h4]
            · rw [if_pos hc, if_neg hd] at gs; omega
          · by_cases hd : d = 45
            · rw [if_neg hc, if_pos hd] at gs; omega
            · rw [if_neg hc, if_neg hd] at h4
              exact h4
      have h6 := ext_list h5
      subst h6
      exact ⟨rfl, by omega⟩
    · rw [if_neg g] at h
      have h3 := compareInt_zero.1 h
      have h0 : sgnB u = 0 := by
        by_cases x : sgnB u = 0
        · exact x
        · exact absurd ⟨h3, x⟩ g
      have h0' : sgnB v = 0 := h3 ▸ h0
      have s0 := hu.1 h0
      have t0 := hv.1 h0'
      have n1 : u.data.toList = [] := by
        rw [e1] at h0
        match hl : u.data.toList with
        | [] => rfl
        | c :: l => rw [hl] at h0; simp only at h0; split at h0 <;> omega
      have n2 : v.data.toList = [] := by
        rw [e2] at h0'
        match hl : v.data.toList with
        | [] => rfl
        | c :: l => rw [hl] at h0'; simp only at h0'; split at h0' <;> omega
      exact ⟨ext_list (n1.trans n2.symm), s0.trans t0.symm⟩
  · rintro ⟨rfl, rfl⟩
    have := cmpB_swap u s u s
    omega
end Go.Proofs.Qxb6627213a
