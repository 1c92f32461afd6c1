/- 'zzCanonical' -/
import Derived.Test.Qxb6627213aDecMore
namespace Go.Proofs.Qxb6627213a
open Go.RowKit

/-- The bytes from i to k are digits. -/
def digs (u : ByteArray) (i k : Nat) : Prop := ∀ x, i ≤ x → x < k → ∃ h : x < u.size, 48 ≤ (u[x]'h).toNat ∧ (u[x]'h).toNat ≤ 57
theorem digs_start (u : ByteArray) (i : Nat) : digs u i i := fun x h1 h2 => by omega
theorem digs_step {u : ByteArray} {i k : Nat} (h : digs u i k) (hk : k < u.size) (h1 : 48 ≤ (u[k]'hk).toNat) (h2 : (u[k]'hk).toNat ≤ 57) : digs u i (k + 1) := by
  intro x hx hx'
  by_cases e : x = k
  · subst e; exact ⟨hk, h1, h2⟩
  · exact h x hx (by omega)

/-- Canonical digits from place i on. -/
structure Can (u : ByteArray) (i : Nat) : Prop where
  some : i < u.size
  first : (u[i]'some).toNat ≠ 48
  last : (u[u.size - 1]'(by have := some; omega)).toNat ≠ 48
  digits : digs u i u.size

/-- It answers yes only if p. -/
def yesOnly (p : Prop) (e : Ending) : Prop := e = .returned (.bool false) ∨ (e = .returned (.bool true) ∧ p)
theorem yesOnly_no (p : Prop) : yesOnly p (.returned (.bool false)) := .inl rfl

set_option maxHeartbeats 400000 in
theorem can_neg_loop (u : ByteArray) (s : Int) (w : World) (hu : u.size ≤ 1048576) (h0 : 1 < u.size) (he : u.toList.isEmpty = false) (h45 : (((u[0]).toNat : Int) == 45) = true)
    (hf : ((u[1].toNat : Int) == 48) = false) (hl : ((u[u.size - 1].toNat : Int) == 48) = false) :
    Calls Try.prog 6 #[.string u, .int .i64 s] w fun e w' => yesOnly (digs u 1 u.size) e ∧ w = w' := by
  have h00 : 0 < u.size := by omega
  go_enter Try.func6, Try.ntmps6
  go_wp2
  go_loop [6] (fun j => ∃ k : Nat, 1 ≤ k ∧ k ≤ u.size ∧ j = .int .i64 k ∧ digs u 1 k) (fun j => u.size - (intOf j).toNat)
  case atStart => exact ⟨1, Nat.le_refl _, by omega, rfl, digs_start u 1⟩
  case round =>
    obtain ⟨k, hk1, hk2, rfl, hd⟩ := hrel
    by_cases hlt : k < u.size
    · by_cases g1 : (u[k].toNat : Int) < 48
      · go_wp2
        go_ret
        exact ⟨.inl rfl, rfl⟩
      · by_cases g2 : 57 < (u[k].toNat : Int)
        · have g1' : decide ((u[k].toNat : Int) < 48) = false := by simpa using g1
          go_wp2
          go_ret
          exact ⟨.inl rfl, rfl⟩
        · have g1' : decide ((u[k].toNat : Int) < 48) = false := by simpa using g1
          have g2' : decide (57 < (u[k].toNat : Int)) = false := by simpa using g2
          have hd' := digs_step hd hlt (by omega) (by omega)
          go_wp2
          go_round
          case rel => exact ⟨k + 1, by omega, by omega, by go_num, hd'⟩
          case measure => simp [intOf]; omega
    · have hke : k = u.size := by omega
      have hd' : digs u 1 u.size := hke ▸ hd
      clear hke
      go_wp2
      go_ret
      exact ⟨.inr ⟨rfl, trivial⟩, rfl⟩
set_option maxHeartbeats 400000 in
theorem can_pos_loop (u : ByteArray) (s : Int) (w : World) (hu : u.size ≤ 1048576) (h0 : 0 < u.size) (he : u.toList.isEmpty = false) (h45 : (((u[0]).toNat : Int) == 45) = false)
    (hf : ((u[0].toNat : Int) == 48) = false) (hl : ((u[u.size - 1].toNat : Int) == 48) = false) :
    Calls Try.prog 6 #[.string u, .int .i64 s] w fun e w' => yesOnly (digs u 0 u.size) e ∧ w = w' := by
  go_enter Try.func6, Try.ntmps6
  go_wp2
  go_loop [6] (fun j => ∃ k : Nat, 0 ≤ k ∧ k ≤ u.size ∧ j = .int .i64 k ∧ digs u 0 k) (fun j => u.size - (intOf j).toNat)
  case atStart => exact ⟨0, Nat.le_refl _, by omega, rfl, digs_start u 0⟩
  case round =>
    obtain ⟨k, hk1, hk2, rfl, hd⟩ := hrel
    by_cases hlt : k < u.size
    · by_cases g1 : (u[k].toNat : Int) < 48
      · go_wp2
        go_ret
        exact ⟨.inl rfl, rfl⟩
      · by_cases g2 : 57 < (u[k].toNat : Int)
        · have g1' : decide ((u[k].toNat : Int) < 48) = false := by simpa using g1
          go_wp2
          go_ret
          exact ⟨.inl rfl, rfl⟩
        · have g1' : decide ((u[k].toNat : Int) < 48) = false := by simpa using g1
          have g2' : decide (57 < (u[k].toNat : Int)) = false := by simpa using g2
          have hd' := digs_step hd hlt (by omega) (by omega)
          go_wp2
          go_round
          case rel => exact ⟨k + 1, by omega, by omega, by go_num, hd'⟩
          case measure => simp [intOf]; omega
    · have hke : k = u.size := by omega
      have hd' : digs u 0 u.size := hke ▸ hd
      clear hke
      go_wp2
      go_ret
      exact ⟨.inr ⟨rfl, trivial⟩, rfl⟩

set_option maxHeartbeats 400000 in
theorem can_neg_bare (u : ByteArray) (s : Int) (w : World) (h0 : 0 < u.size) (h1 : u.size = 1) (he : u.toList.isEmpty = false) (h45 : (((u[0]).toNat : Int) == 45) = true) (p : Prop) :
    Calls Try.prog 6 #[.string u, .int .i64 s] w fun e w' => yesOnly p e ∧ w = w' := by
  have h1' : ((1 : Int) == (u.size : Int)) = true := by simp; omega
  clear h1
  go_enter Try.func6, Try.ntmps6
  go_wp2
  go_ret
  exact ⟨.inl rfl, rfl⟩
set_option maxHeartbeats 400000 in
theorem can_neg_first (u : ByteArray) (s : Int) (w : World) (h0 : 1 < u.size) (he : u.toList.isEmpty = false) (h45 : (((u[0]).toNat : Int) == 45) = true) (hf : ((u[1].toNat : Int) == 48) = true) (p : Prop) :
    Calls Try.prog 6 #[.string u, .int .i64 s] w fun e w' => yesOnly p e ∧ w = w' := by
  have h00 : 0 < u.size := by omega
  go_enter Try.func6, Try.ntmps6
  go_wp2
  go_ret
  exact ⟨.inl rfl, rfl⟩
set_option maxHeartbeats 400000 in
theorem can_neg_last (u : ByteArray) (s : Int) (w : World) (hu : u.size ≤ 1048576) (h0 : 1 < u.size) (he : u.toList.isEmpty = false) (h45 : (((u[0]).toNat : Int) == 45) = true) (hf : ((u[1].toNat : Int) == 48) = false) (hl : ((u[u.size - 1].toNat : Int) == 48) = true) (p : Prop) :
    Calls Try.prog 6 #[.string u, .int .i64 s] w fun e w' => yesOnly p e ∧ w = w' := by
  have h00 : 0 < u.size := by omega
  go_enter Try.func6, Try.ntmps6
  go_wp2
  go_ret
  exact ⟨.inl rfl, rfl⟩
set_option maxHeartbeats 400000 in
theorem can_pos_first (u : ByteArray) (s : Int) (w : World) (h0 : 0 < u.size) (he : u.toList.isEmpty = false) (h45 : (((u[0]).toNat : Int) == 45) = false) (hf : ((u[0].toNat : Int) == 48) = true) (p : Prop) :
    Calls Try.prog 6 #[.string u, .int .i64 s] w fun e w' => yesOnly p e ∧ w = w' := by
  go_enter Try.func6, Try.ntmps6
  go_wp2
  go_ret
  exact ⟨.inl rfl, rfl⟩
set_option maxHeartbeats 400000 in
theorem can_pos_last (u : ByteArray) (s : Int) (w : World) (hu : u.size ≤ 1048576) (h0 : 0 < u.size) (he : u.toList.isEmpty = false) (h45 : (((u[0]).toNat : Int) == 45) = false) (hf : ((u[0].toNat : Int) == 48) = false) (hl : ((u[u.size - 1].toNat : Int) == 48) = true) (p : Prop) :
    Calls Try.prog 6 #[.string u, .int .i64 s] w fun e w' => yesOnly p e ∧ w = w' := by
  go_enter Try.func6, Try.ntmps6
  go_wp2
  go_ret
  exact ⟨.inl rfl, rfl⟩
set_option maxHeartbeats 400000 in
theorem can_zero (u : ByteArray) (s : Int) (w : World) (he : u.toList.isEmpty = true) :
    Calls Try.prog 6 #[.string u, .int .i64 s] w fun e w' => yesOnly (s = 0) e ∧ w = w' := by
  by_cases h : s = 0
  · have h' : (s == 0) = true := by simpa using h
    have H : Hid (s = 0) := h
    clear h
    go_enter Try.func6, Try.ntmps6
    go_wp2
    go_ret
    exact ⟨.inr ⟨rfl, H.out⟩, rfl⟩
  · have h' : (s == 0) = false := by simpa using h
    go_enter Try.func6, Try.ntmps6
    go_wp2
    go_ret
    exact ⟨.inl rfl, rfl⟩

/-- The documented form of a Decimal's fields. -/
def Canon (u : ByteArray) (s : Int) : Prop := (sgnB u = 0 → s = 0) ∧ (sgnB u = -1 → Can u 1) ∧ (sgnB u = 1 → Can u 0)

theorem yesOnly_mono {p q : Prop} {e : Ending} (h : yesOnly p e) (g : p → q) : yesOnly q e := by
  rcases h with h | ⟨h, hp⟩
  · exact .inl h
  · exact .inr ⟨h, g hp⟩

theorem can_any (u : ByteArray) (s : Int) (w : World) (hu : u.size ≤ 1048576) :
    Calls Try.prog 6 #[.string u, .int .i64 s] w fun e w' => yesOnly (Canon u s) e ∧ w = w' := by
  rcases sgnB_cases u with ⟨h0, hs, he⟩ | ⟨h0, he, ⟨h45, hs⟩ | ⟨h45, hs⟩⟩
  · exact (can_zero u s w he).mono fun e w' ⟨h, g⟩ => ⟨yesOnly_mono h fun p => ⟨fun _ => p, fun x => absurd (hs.symm.trans x) (by decide), fun x => absurd (hs.symm.trans x) (by decide)⟩, g⟩
  · by_cases h1 : u.size = 1
    · exact can_neg_bare u s w h0 h1 he h45 _
    have h2 : 1 < u.size := by omega
    by_cases hf : (u[1].toNat : Int) = 48
    · exact can_neg_first u s w h2 he h45 (by simpa using hf) _
    by_cases hl : (u[u.size - 1].toNat : Int) = 48
    · exact can_neg_last u s w hu h2 he h45 (by simpa using hf) (by simpa using hl) _
    exact (can_neg_loop u s w hu h2 he h45 (by simpa using hf) (by simpa using hl)).mono fun e w' ⟨h, g⟩ => ⟨yesOnly_mono h fun p => ⟨fun x => absurd (hs.symm.trans x) (by decide), fun _ => ⟨h2, by omega, by omega, p⟩, fun x => absurd (hs.symm.trans x) (by decide)⟩, g⟩
  · by_cases hf : (u[0].toNat : Int) = 48
    · exact can_pos_first u s w h0 he h45 (by simpa using hf) _
    by_cases hl : (u[u.size - 1].toNat : Int) = 48
    · exact can_pos_last u s w hu h0 he h45 (by simpa using hf) (by simpa using hl) _
    exact (can_pos_loop u s w hu h0 he h45 (by simpa using hf) (by simpa using hl)).mono fun e w' ⟨h, g⟩ => ⟨yesOnly_mono h fun p => ⟨fun x => absurd (hs.symm.trans x) (by decide), fun x => absurd (hs.symm.trans x) (by decide), fun _ => ⟨h0, by omega, by omega, p⟩⟩, g⟩
end Go.Proofs.Qxb6627213a
