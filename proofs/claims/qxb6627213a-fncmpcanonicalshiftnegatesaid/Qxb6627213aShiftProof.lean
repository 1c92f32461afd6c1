/- THE LAW 'FnCmpCanonicalShiftNegate': its walk out of the callees' contracts, and the row. -/
import Derived.Test.Qxb6627213aCmpPlain
import Derived.ProofKit
import Derived.OpenShut
namespace Go.Proofs.Qxb6627213a
open Go.ChangeShapes Go.WideShapes Go.ChangeAt Go.RowKit

/-- A Decimal lies in block g. -/
def dec (w : World) (g : Nat) (u : ByteArray) (s : Int) : Prop := w.cell? ⟨g, 0, none⟩ = some (.string u) ∧ w.cell? ⟨g, 1, none⟩ = some (.int .i64 s)
theorem dec_below {B g : Nat} {w w' : World} {u : ByteArray} {s : Int} (h : dec w g u s) (hb : Below B w w') (hg : g < B) : dec w' g u s :=
  ⟨(hb.cell (p := ⟨g, _, none⟩) hg).trans h.1, (hb.cell (p := ⟨g, _, none⟩) hg).trans h.2⟩
theorem below6 (w : World) (a b c d e f : Obj) : Below w.heap.size w ((((((w.alloc a).alloc b).alloc c).alloc d).alloc e).alloc f) :=
  ((((((Below.refl _ _).alloc (Nat.le_refl _) _).alloc (by simp) _).alloc (by simp; omega) _).alloc (by simp; omega) _).alloc (by simp; omega) _).alloc (by simp; omega) _
theorem below8 (w : World) (a b c d e f g h : Obj) : Below w.heap.size w ((((((((w.alloc a).alloc b).alloc c).alloc d).alloc e).alloc f).alloc g).alloc h) :=
  ((below6 w a b c d e f).alloc (by simp; omega) _).alloc (by simp; omega) _

namespace Shift
theorem shiftI_bounds (u : ByteArray) (s k : Int) (s1 : -65536 ≤ s) (s2 : s ≤ 65536) (k1 : -65536 ≤ k) (k2 : k ≤ 65536) : -131072 ≤ shiftI u s k ∧ shiftI u s k ≤ 131072 := by
  unfold shiftI
  split <;> omega
theorem negB_size (u : ByteArray) : (negB u).size ≤ u.size + 1 := by
  rw [size_list, size_list u, negB_list]
  match u.data.toList with
  | [] => simp
  | c :: l =>
    simp only
    split <;> simp
    omega
theorem facts {u : ByteArray} {s : Int} {v : ByteArray} {t : Int} (k : Int) (hC : Canon u s) (hC' : Canon v t) : ∃ c, cmpB u s v t = c ∧ -1 ≤ c ∧ c ≤ 1 ∧
    cmpB u (shiftI u s k) v (shiftI v t k) = c ∧ cmpB (negB u) s (negB v) t = -c ∧ cmpB u s ⟨#[]⟩ 0 = sgnB u ∧ cmpB ⟨#[]⟩ 0 v t = -sgnB v := by
  have h := cmpB_three u s v t
  exact ⟨_, rfl, by omega, by omega, cmpB_shift u s v t k, cmpB_neg hC hC', cmpB_nil u s, nil_cmpB v t⟩
theorem facts_ne {u : ByteArray} {s : Int} {v : ByteArray} {t : Int} (k : Int) (hC : Canon u s) (hC' : Canon v t) (hne : Hid (¬ (u = v ∧ s = t))) : ∃ c, cmpB u s v t = c ∧ -1 ≤ c ∧ c ≤ 1 ∧
    cmpB u (shiftI u s k) v (shiftI v t k) = c ∧ cmpB (negB u) s (negB v) t = -c ∧ cmpB u s ⟨#[]⟩ 0 = sgnB u ∧ cmpB ⟨#[]⟩ 0 v t = -sgnB v ∧ (c == 0) = false := by
  obtain ⟨c, h1, h2, h3, h4, h5, h6, h7⟩ := facts k hC hC'
  exact ⟨c, h1, h2, h3, h4, h5, h6, h7, by simp only [beq_eq_false_iff_ne]; intro x; exact hne.out ((cmpB_zero hC hC').1 (h1.trans x))⟩
theorem facts_eq {u : ByteArray} {s : Int} (k : Int) (hC : Canon u s) (hC' : Canon u s) : ∃ c, cmpB u s u s = c ∧ -1 ≤ c ∧ c ≤ 1 ∧
    cmpB u (shiftI u s k) u (shiftI u s k) = c ∧ cmpB (negB u) s (negB u) s = -c ∧ cmpB u s ⟨#[]⟩ 0 = sgnB u ∧ cmpB ⟨#[]⟩ 0 u s = -sgnB u ∧ (c == 0) = true := by
  obtain ⟨c, h1, h2, h3, h4, h5, h6, h7⟩ := facts k hC hC'
  exact ⟨c, h1, h2, h3, h4, h5, h6, h7, by simp only [beq_iff_eq]; rw [← h1]; exact (cmpB_zero hC hC').2 ⟨rfl, rfl⟩⟩

set_option maxHeartbeats 2000000 in
theorem diff (u v : ByteArray) (s t k : Int) (w : World) (hu : u.size ≤ 524288) (hv : v.size ≤ 524288) (s1 : -65536 ≤ s) (s2 : s ≤ 65536) (t1 : -65536 ≤ t) (t2 : t ≤ 65536) (k1 : -65536 ≤ k) (k2 : k ≤ 65536) (q1 : (u.toList == v.toList) = false) (hne : Hid (¬ (u = v ∧ s = t))) :
    Calls Try.prog 4 #[.string u, .int .i64 s, .string v, .int .i64 t, .int .i64 k] w fun e w' => e = .returned (.bool true) ∧ Below w.heap.size w w' := by
  have hf : fitsB u v = true := decide_eq_true (by omega)
  have d1 : decide (s < -65536) = false := by simp; omega
  have d2 : decide (65536 < s) = false := by simp; omega
  have d3 : decide (t < -65536) = false := by simp; omega
  have d4 : decide (65536 < t) = false := by simp; omega
  have d5 : decide (k < -65536) = false := by simp; omega
  have d6 : decide (65536 < k) = false := by simp; omega
  go_enter Try.func4, Try.ntmps4
  go_wp2_with (first | (go_at_call 10; refine (bytes5_any _ _ _ _ _ _ (by unfold maxLen; omega) (by unfold maxLen; omega)).mono ?_; rintro e w' ⟨rfl, rfl⟩))
  refine (can_any u s _ (by omega)).mono ?_
  rintro e w' ⟨hy, rfl⟩
  rcases hy with rfl | ⟨rfl, hC⟩
  · go_wp2
    go_ret
    exact ⟨rfl, Below.refl _ _⟩
  go_wp2_with fail
  refine (can_any v t _ (by omega)).mono ?_
  rintro e w' ⟨hy, rfl⟩
  rcases hy with rfl | ⟨rfl, hC'⟩
  · go_wp2
    go_ret
    exact ⟨rfl, Below.refl _ _⟩
  clear hf d1 d2 d3 d4 d5 d6
  obtain ⟨c, hc, c1, c2, e1, e2, e3, e4, e5⟩ := facts_ne k hC hC' hne
  clear hC hC'
  have su := shiftI_bounds u s k s1 s2 k1 k2
  have sv := shiftI_bounds v t k t1 t2 k1 k2
  have nu := negB_size u
  have nv := negB_size v
  have n1 := sgnB_three u
  have n2 := sgnB_three v
  go_wp2_with (first | (go_at_call 7; refine (new_any _ _ _).mono ?_; rintro e w' ⟨rfl, rfl⟩))
  have B0 : Below w.heap.size w ((((((w.alloc (.cells #[.string u, .int .i64 s] 25)).alloc (.cells #[.string u, .int .i64 s] 25)).alloc (.cells #[.string v, .int .i64 t] 25)).alloc (.cells #[.string v, .int .i64 t] 25)).alloc (.cells #[.string ⟨#[]⟩, .int .i64 0] 25)).alloc (.cells #[.string ⟨#[]⟩, .int .i64 0] 25)) := below6 _ _ _ _ _ _ _
  have D0 : dec ((((((w.alloc (.cells #[.string u, .int .i64 s] 25)).alloc (.cells #[.string u, .int .i64 s] 25)).alloc (.cells #[.string v, .int .i64 t] 25)).alloc (.cells #[.string v, .int .i64 t] 25)).alloc (.cells #[.string ⟨#[]⟩, .int .i64 0] 25)).alloc (.cells #[.string ⟨#[]⟩, .int .i64 0] 25)) (w.heap.size + 1) u s := by unfold dec; simp [go_sem]
  have E0 : dec ((((((w.alloc (.cells #[.string u, .int .i64 s] 25)).alloc (.cells #[.string u, .int .i64 s] 25)).alloc (.cells #[.string v, .int .i64 t] 25)).alloc (.cells #[.string v, .int .i64 t] 25)).alloc (.cells #[.string ⟨#[]⟩, .int .i64 0] 25)).alloc (.cells #[.string ⟨#[]⟩, .int .i64 0] 25)) (w.heap.size + 1 + 1 + 1) v t := by unfold dec; simp [go_sem]
  have Z0 : dec ((((((w.alloc (.cells #[.string u, .int .i64 s] 25)).alloc (.cells #[.string u, .int .i64 s] 25)).alloc (.cells #[.string v, .int .i64 t] 25)).alloc (.cells #[.string v, .int .i64 t] 25)).alloc (.cells #[.string ⟨#[]⟩, .int .i64 0] 25)).alloc (.cells #[.string ⟨#[]⟩, .int .i64 0] 25)) (w.heap.size + 1 + 1 + 1 + 1 + 1) ⟨#[]⟩ 0 := by unfold dec; simp [go_sem]
  refine (cmp_any u v s t _ (by omega) (by omega) (by omega) (by omega) (by omega) (by omega)).mono ?_
  rintro e w1 ⟨rfl, hb1⟩
  have z1 := hb1.size
  have D1 := dec_below D0 hb1 (by simp)
  have E1 := dec_below E0 hb1 (by simp)
  have Z1 := dec_below Z0 hb1 (by simp)
  have B1 : Below w.heap.size w w1 := B0.trans (hb1.mono (by simp; omega))
  simp at z1
  clear D0 E0 Z0 B0 hb1
  go_wp2_with (first | (go_at_call 7; refine (new_any _ _ _).mono ?_; rintro e w' ⟨rfl, rfl⟩) | (go_at_call 11; refine (shift_any _ _ _ _ (by omega) (by omega) (by omega) (by omega)).mono ?_; rintro e w' ⟨rfl, rfl⟩) | (go_at_call 12; refine (neg_any _ (by omega) _).mono ?_; rintro e w' ⟨rfl, rfl⟩))
  refine (cmp_any u v _ _ _ (by omega) (by omega) (by omega) (by omega) (by omega) (by omega)).mono ?_
  rintro e w2 ⟨rfl, hb2⟩
  have z2 := hb2.size
  have D2 := dec_below (dec_below D1 (below8 w1 _ _ _ _ _ _ _ _) (by omega)) hb2 (by simp; omega)
  have E2 := dec_below (dec_below E1 (below8 w1 _ _ _ _ _ _ _ _) (by omega)) hb2 (by simp; omega)
  have Z2 := dec_below (dec_below Z1 (below8 w1 _ _ _ _ _ _ _ _) (by omega)) hb2 (by simp; omega)
  have DN2 : dec w2 (w1.heap.size + 1 + 1 + 1 + 1 + 1) (negB u) s := dec_below (by unfold dec; simp [go_sem]) hb2 (by simp)
  have EN2 : dec w2 (w1.heap.size + 1 + 1 + 1 + 1 + 1 + 1 + 1) (negB v) t := dec_below (by unfold dec; simp [go_sem]) hb2 (by simp)
  have B2 : Below w.heap.size w w2 := (B1.trans ((below8 w1 _ _ _ _ _ _ _ _).mono (by omega))).trans (hb2.mono (by simp; omega))
  simp at z2
  clear D1 E1 Z1 B1 hb2
  obtain ⟨x1, x2⟩ := DN2
  obtain ⟨x3, x4⟩ := EN2
  go_wp2_with fail
  refine (cmp_any (negB u) (negB v) s t _ (by omega) (by omega) (by omega) (by omega) (by omega) (by omega)).mono ?_
  rintro e w3 ⟨rfl, hb3⟩
  have z3 := hb3.size
  have E3 := dec_below E2 hb3 (by omega)
  have Z3 := dec_below Z2 hb3 (by omega)
  have D3 := dec_below D2 hb3 (by omega)
  have B3 : Below w.heap.size w w3 := B2.trans (hb3.mono (by omega))
  clear x1 x2 x3 x4 D2 E2 Z2 B2 hb3
  obtain ⟨x1, x2⟩ := D3
  obtain ⟨x3, x4⟩ := id Z3
  go_wp2_with fail
  refine (cmp_any u ⟨#[]⟩ s 0 _ (by omega) (by decide) (by omega) (by omega) (by omega) (by omega)).mono ?_
  rintro e w4 ⟨rfl, hb4⟩
  have E4 := dec_below E3 hb4 (by omega)
  have Z4 := dec_below Z3 hb4 (by omega)
  have B4 : Below w.heap.size w w4 := B3.trans (hb4.mono (by omega))
  clear x1 x2 x3 x4 E3 Z3 B3 hb4
  obtain ⟨x1, x2⟩ := Z4
  obtain ⟨x3, x4⟩ := E4
  go_wp2_with (first | (go_at_call 13; refine (signOf_any _ _).mono ?_; rintro e w' ⟨rfl, rfl⟩))
  refine (cmp_any ⟨#[]⟩ v 0 t _ (by decide) (by omega) (by omega) (by omega) (by omega) (by omega)).mono ?_
  rintro e w5 ⟨rfl, hb5⟩
  have B5 : Below w.heap.size w w5 := B4.trans (hb5.mono (by have := B4.size; omega))
  clear x1 x2 x3 x4 B4 hb5
  go_wp2_with (first | (go_at_call 13; refine (signOf_any _ _).mono ?_; rintro e w' ⟨rfl, rfl⟩))
  go_ret
  exact ⟨rfl, B5⟩
set_option maxHeartbeats 2000000 in
theorem eqs (u : ByteArray) (s t k : Int) (w : World) (hu : u.size ≤ 524288) (s1 : -65536 ≤ s) (s2 : s ≤ 65536) (t1 : -65536 ≤ t) (t2 : t ≤ 65536) (k1 : -65536 ≤ k) (k2 : k ≤ 65536) (q2 : (s == t) = false) (hne : Hid (¬ s = t)) :
    Calls Try.prog 4 #[.string u, .int .i64 s, .string u, .int .i64 t, .int .i64 k] w fun e w' => e = .returned (.bool true) ∧ Below w.heap.size w w' := by
  have hf : fitsB u u = true := decide_eq_true (by omega)
  have d1 : decide (s < -65536) = false := by simp; omega
  have d2 : decide (65536 < s) = false := by simp; omega
  have d3 : decide (t < -65536) = false := by simp; omega
  have d4 : decide (65536 < t) = false := by simp; omega
  have d5 : decide (k < -65536) = false := by simp; omega
  have d6 : decide (65536 < k) = false := by simp; omega
  go_enter Try.func4, Try.ntmps4
  go_wp2_with (first | (go_at_call 10; refine (bytes5_any _ _ _ _ _ _ (by unfold maxLen; omega) (by unfold maxLen; omega)).mono ?_; rintro e w' ⟨rfl, rfl⟩))
  refine (can_any u s _ (by omega)).mono ?_
  rintro e w' ⟨hy, rfl⟩
  rcases hy with rfl | ⟨rfl, hC⟩
  · go_wp2
    go_ret
    exact ⟨rfl, Below.refl _ _⟩
  go_wp2_with fail
  refine (can_any u t _ (by omega)).mono ?_
  rintro e w' ⟨hy, rfl⟩
  rcases hy with rfl | ⟨rfl, hC'⟩
  · go_wp2
    go_ret
    exact ⟨rfl, Below.refl _ _⟩
  clear hf d1 d2 d3 d4 d5 d6
  obtain ⟨c, hc, c1, c2, e1, e2, e3, e4, e5⟩ := facts_ne k hC hC' (fun g => hne.out g.2)
  clear hC hC'
  have su := shiftI_bounds u s k s1 s2 k1 k2
  have sv := shiftI_bounds u t k t1 t2 k1 k2
  have nu := negB_size u
  have nv := negB_size u
  have n1 := sgnB_three u
  have n2 := sgnB_three u
  go_wp2_with (first | (go_at_call 7; refine (new_any _ _ _).mono ?_; rintro e w' ⟨rfl, rfl⟩))
  have B0 : Below w.heap.size w ((((((w.alloc (.cells #[.string u, .int .i64 s] 25)).alloc (.cells #[.string u, .int .i64 s] 25)).alloc (.cells #[.string u, .int .i64 t] 25)).alloc (.cells #[.string u, .int .i64 t] 25)).alloc (.cells #[.string ⟨#[]⟩, .int .i64 0] 25)).alloc (.cells #[.string ⟨#[]⟩, .int .i64 0] 25)) := below6 _ _ _ _ _ _ _
  have D0 : dec ((((((w.alloc (.cells #[.string u, .int .i64 s] 25)).alloc (.cells #[.string u, .int .i64 s] 25)).alloc (.cells #[.string u, .int .i64 t] 25)).alloc (.cells #[.string u, .int .i64 t] 25)).alloc (.cells #[.string ⟨#[]⟩, .int .i64 0] 25)).alloc (.cells #[.string ⟨#[]⟩, .int .i64 0] 25)) (w.heap.size + 1) u s := by unfold dec; simp [go_sem]
  have E0 : dec ((((((w.alloc (.cells #[.string u, .int .i64 s] 25)).alloc (.cells #[.string u, .int .i64 s] 25)).alloc (.cells #[.string u, .int .i64 t] 25)).alloc (.cells #[.string u, .int .i64 t] 25)).alloc (.cells #[.string ⟨#[]⟩, .int .i64 0] 25)).alloc (.cells #[.string ⟨#[]⟩, .int .i64 0] 25)) (w.heap.size + 1 + 1 + 1) u t := by unfold dec; simp [go_sem]
  have Z0 : dec ((((((w.alloc (.cells #[.string u, .int .i64 s] 25)).alloc (.cells #[.string u, .int .i64 s] 25)).alloc (.cells #[.string u, .int .i64 t] 25)).alloc (.cells #[.string u, .int .i64 t] 25)).alloc (.cells #[.string ⟨#[]⟩, .int .i64 0] 25)).alloc (.cells #[.string ⟨#[]⟩, .int .i64 0] 25)) (w.heap.size + 1 + 1 + 1 + 1 + 1) ⟨#[]⟩ 0 := by unfold dec; simp [go_sem]
  refine (cmp_any u u s t _ (by omega) (by omega) (by omega) (by omega) (by omega) (by omega)).mono ?_
  rintro e w1 ⟨rfl, hb1⟩
  have z1 := hb1.size
  have D1 := dec_below D0 hb1 (by simp)
  have E1 := dec_below E0 hb1 (by simp)
  have Z1 := dec_below Z0 hb1 (by simp)
  have B1 : Below w.heap.size w w1 := B0.trans (hb1.mono (by simp; omega))
  simp at z1
  clear D0 E0 Z0 B0 hb1
  go_wp2_with (first | (go_at_call 7; refine (new_any _ _ _).mono ?_; rintro e w' ⟨rfl, rfl⟩) | (go_at_call 11; refine (shift_any _ _ _ _ (by omega) (by omega) (by omega) (by omega)).mono ?_; rintro e w' ⟨rfl, rfl⟩) | (go_at_call 12; refine (neg_any _ (by omega) _).mono ?_; rintro e w' ⟨rfl, rfl⟩))
  refine (cmp_any u u _ _ _ (by omega) (by omega) (by omega) (by omega) (by omega) (by omega)).mono ?_
  rintro e w2 ⟨rfl, hb2⟩
  have z2 := hb2.size
  have D2 := dec_below (dec_below D1 (below8 w1 _ _ _ _ _ _ _ _) (by omega)) hb2 (by simp; omega)
  have E2 := dec_below (dec_below E1 (below8 w1 _ _ _ _ _ _ _ _) (by omega)) hb2 (by simp; omega)
  have Z2 := dec_below (dec_below Z1 (below8 w1 _ _ _ _ _ _ _ _) (by omega)) hb2 (by simp; omega)
  have DN2 : dec w2 (w1.heap.size + 1 + 1 + 1 + 1 + 1) (negB u) s := dec_below (by unfold dec; simp [go_sem]) hb2 (by simp)
  have EN2 : dec w2 (w1.heap.size + 1 + 1 + 1 + 1 + 1 + 1 + 1) (negB u) t := dec_below (by unfold dec; simp [go_sem]) hb2 (by simp)
  have B2 : Below w.heap.size w w2 := (B1.trans ((below8 w1 _ _ _ _ _ _ _ _).mono (by omega))).trans (hb2.mono (by simp; omega))
  simp at z2
  clear D1 E1 Z1 B1 hb2
  obtain ⟨x1, x2⟩ := DN2
  obtain ⟨x3, x4⟩ := EN2
  go_wp2_with fail
  refine (cmp_any (negB u) (negB u) s t _ (by omega) (by omega) (by omega) (by omega) (by omega) (by omega)).mono ?_
  rintro e w3 ⟨rfl, hb3⟩
  have z3 := hb3.size
  have E3 := dec_below E2 hb3 (by omega)
  have Z3 := dec_below Z2 hb3 (by omega)
  have D3 := dec_below D2 hb3 (by omega)
  have B3 : Below w.heap.size w w3 := B2.trans (hb3.mono (by omega))
  clear x1 x2 x3 x4 D2 E2 Z2 B2 hb3
  obtain ⟨x1, x2⟩ := D3
  obtain ⟨x3, x4⟩ := id Z3
  go_wp2_with fail
  refine (cmp_any u ⟨#[]⟩ s 0 _ (by omega) (by decide) (by omega) (by omega) (by omega) (by omega)).mono ?_
  rintro e w4 ⟨rfl, hb4⟩
  have E4 := dec_below E3 hb4 (by omega)
  have Z4 := dec_below Z3 hb4 (by omega)
  have B4 : Below w.heap.size w w4 := B3.trans (hb4.mono (by omega))
  clear x1 x2 x3 x4 E3 Z3 B3 hb4
  obtain ⟨x1, x2⟩ := Z4
  obtain ⟨x3, x4⟩ := E4
  go_wp2_with (first | (go_at_call 13; refine (signOf_any _ _).mono ?_; rintro e w' ⟨rfl, rfl⟩))
  refine (cmp_any ⟨#[]⟩ u 0 t _ (by decide) (by omega) (by omega) (by omega) (by omega) (by omega)).mono ?_
  rintro e w5 ⟨rfl, hb5⟩
  have B5 : Below w.heap.size w w5 := B4.trans (hb5.mono (by have := B4.size; omega))
  clear x1 x2 x3 x4 B4 hb5
  go_wp2_with (first | (go_at_call 13; refine (signOf_any _ _).mono ?_; rintro e w' ⟨rfl, rfl⟩))
  go_ret
  exact ⟨rfl, B5⟩
set_option maxHeartbeats 2000000 in
theorem same (u : ByteArray) (s k : Int) (w : World) (hu : u.size ≤ 524288) (s1 : -65536 ≤ s) (s2 : s ≤ 65536) (k1 : -65536 ≤ k) (k2 : k ≤ 65536)  :
    Calls Try.prog 4 #[.string u, .int .i64 s, .string u, .int .i64 s, .int .i64 k] w fun e w' => e = .returned (.bool true) ∧ Below w.heap.size w w' := by
  have hf : fitsB u u = true := decide_eq_true (by omega)
  have d1 : decide (s < -65536) = false := by simp; omega
  have d2 : decide (65536 < s) = false := by simp; omega
  have d5 : decide (k < -65536) = false := by simp; omega
  have d6 : decide (65536 < k) = false := by simp; omega
  go_enter Try.func4, Try.ntmps4
  go_wp2_with (first | (go_at_call 10; refine (bytes5_any _ _ _ _ _ _ (by unfold maxLen; omega) (by unfold maxLen; omega)).mono ?_; rintro e w' ⟨rfl, rfl⟩))
  refine (can_any u s _ (by omega)).mono ?_
  rintro e w' ⟨hy, rfl⟩
  rcases hy with rfl | ⟨rfl, hC⟩
  · go_wp2
    go_ret
    exact ⟨rfl, Below.refl _ _⟩
  go_wp2_with fail
  refine (can_any u s _ (by omega)).mono ?_
  rintro e w' ⟨hy, rfl⟩
  rcases hy with rfl | ⟨rfl, hC'⟩
  · go_wp2
    go_ret
    exact ⟨rfl, Below.refl _ _⟩
  clear hf d1 d2 d5 d6
  obtain ⟨c, hc, c1, c2, e1, e2, e3, e4, e5⟩ := facts_eq k hC hC'
  clear hC hC'
  have su := shiftI_bounds u s k s1 s2 k1 k2
  have sv := shiftI_bounds u s k s1 s2 k1 k2
  have nu := negB_size u
  have nv := negB_size u
  have n1 := sgnB_three u
  have n2 := sgnB_three u
  go_wp2_with (first | (go_at_call 7; refine (new_any _ _ _).mono ?_; rintro e w' ⟨rfl, rfl⟩))
  have B0 : Below w.heap.size w ((((((w.alloc (.cells #[.string u, .int .i64 s] 25)).alloc (.cells #[.string u, .int .i64 s] 25)).alloc (.cells #[.string u, .int .i64 s] 25)).alloc (.cells #[.string u, .int .i64 s] 25)).alloc (.cells #[.string ⟨#[]⟩, .int .i64 0] 25)).alloc (.cells #[.string ⟨#[]⟩, .int .i64 0] 25)) := below6 _ _ _ _ _ _ _
  have D0 : dec ((((((w.alloc (.cells #[.string u, .int .i64 s] 25)).alloc (.cells #[.string u, .int .i64 s] 25)).alloc (.cells #[.string u, .int .i64 s] 25)).alloc (.cells #[.string u, .int .i64 s] 25)).alloc (.cells #[.string ⟨#[]⟩, .int .i64 0] 25)).alloc (.cells #[.string ⟨#[]⟩, .int .i64 0] 25)) (w.heap.size + 1) u s := by unfold dec; simp [go_sem]
  have E0 : dec ((((((w.alloc (.cells #[.string u, .int .i64 s] 25)).alloc (.cells #[.string u, .int .i64 s] 25)).alloc (.cells #[.string u, .int .i64 s] 25)).alloc (.cells #[.string u, .int .i64 s] 25)).alloc (.cells #[.string ⟨#[]⟩, .int .i64 0] 25)).alloc (.cells #[.string ⟨#[]⟩, .int .i64 0] 25)) (w.heap.size + 1 + 1 + 1) u s := by unfold dec; simp [go_sem]
  have Z0 : dec ((((((w.alloc (.cells #[.string u, .int .i64 s] 25)).alloc (.cells #[.string u, .int .i64 s] 25)).alloc (.cells #[.string u, .int .i64 s] 25)).alloc (.cells #[.string u, .int .i64 s] 25)).alloc (.cells #[.string ⟨#[]⟩, .int .i64 0] 25)).alloc (.cells #[.string ⟨#[]⟩, .int .i64 0] 25)) (w.heap.size + 1 + 1 + 1 + 1 + 1) ⟨#[]⟩ 0 := by unfold dec; simp [go_sem]
  refine (cmp_any u u s s _ (by omega) (by omega) (by omega) (by omega) (by omega) (by omega)).mono ?_
  rintro e w1 ⟨rfl, hb1⟩
  have z1 := hb1.size
  have D1 := dec_below D0 hb1 (by simp)
  have E1 := dec_below E0 hb1 (by simp)
  have Z1 := dec_below Z0 hb1 (by simp)
  have B1 : Below w.heap.size w w1 := B0.trans (hb1.mono (by simp; omega))
  simp at z1
  clear D0 E0 Z0 B0 hb1
  go_wp2_with (first | (go_at_call 7; refine (new_any _ _ _).mono ?_; rintro e w' ⟨rfl, rfl⟩) | (go_at_call 11; refine (shift_any _ _ _ _ (by omega) (by omega) (by omega) (by omega)).mono ?_; rintro e w' ⟨rfl, rfl⟩) | (go_at_call 12; refine (neg_any _ (by omega) _).mono ?_; rintro e w' ⟨rfl, rfl⟩))
  refine (cmp_any u u _ _ _ (by omega) (by omega) (by omega) (by omega) (by omega) (by omega)).mono ?_
  rintro e w2 ⟨rfl, hb2⟩
  have z2 := hb2.size
  have D2 := dec_below (dec_below D1 (below8 w1 _ _ _ _ _ _ _ _) (by omega)) hb2 (by simp; omega)
  have E2 := dec_below (dec_below E1 (below8 w1 _ _ _ _ _ _ _ _) (by omega)) hb2 (by simp; omega)
  have Z2 := dec_below (dec_below Z1 (below8 w1 _ _ _ _ _ _ _ _) (by omega)) hb2 (by simp; omega)
  have DN2 : dec w2 (w1.heap.size + 1 + 1 + 1 + 1 + 1) (negB u) s := dec_below (by unfold dec; simp [go_sem]) hb2 (by simp)
  have EN2 : dec w2 (w1.heap.size + 1 + 1 + 1 + 1 + 1 + 1 + 1) (negB u) s := dec_below (by unfold dec; simp [go_sem]) hb2 (by simp)
  have B2 : Below w.heap.size w w2 := (B1.trans ((below8 w1 _ _ _ _ _ _ _ _).mono (by omega))).trans (hb2.mono (by simp; omega))
  simp at z2
  clear D1 E1 Z1 B1 hb2
  obtain ⟨x1, x2⟩ := DN2
  obtain ⟨x3, x4⟩ := EN2
  go_wp2_with fail
  refine (cmp_any (negB u) (negB u) s s _ (by omega) (by omega) (by omega) (by omega) (by omega) (by omega)).mono ?_
  rintro e w3 ⟨rfl, hb3⟩
  have z3 := hb3.size
  have E3 := dec_below E2 hb3 (by omega)
  have Z3 := dec_below Z2 hb3 (by omega)
  have D3 := dec_below D2 hb3 (by omega)
  have B3 : Below w.heap.size w w3 := B2.trans (hb3.mono (by omega))
  clear x1 x2 x3 x4 D2 E2 Z2 B2 hb3
  obtain ⟨x1, x2⟩ := D3
  obtain ⟨x3, x4⟩ := id Z3
  go_wp2_with fail
  refine (cmp_any u ⟨#[]⟩ s 0 _ (by omega) (by decide) (by omega) (by omega) (by omega) (by omega)).mono ?_
  rintro e w4 ⟨rfl, hb4⟩
  have E4 := dec_below E3 hb4 (by omega)
  have Z4 := dec_below Z3 hb4 (by omega)
  have B4 : Below w.heap.size w w4 := B3.trans (hb4.mono (by omega))
  clear x1 x2 x3 x4 E3 Z3 B3 hb4
  obtain ⟨x1, x2⟩ := Z4
  obtain ⟨x3, x4⟩ := E4
  go_wp2_with (first | (go_at_call 13; refine (signOf_any _ _).mono ?_; rintro e w' ⟨rfl, rfl⟩))
  refine (cmp_any ⟨#[]⟩ u 0 s _ (by decide) (by omega) (by omega) (by omega) (by omega) (by omega)).mono ?_
  rintro e w5 ⟨rfl, hb5⟩
  have B5 : Below w.heap.size w w5 := B4.trans (hb5.mono (by have := B4.size; omega))
  clear x1 x2 x3 x4 B4 hb5
  go_wp2_with (first | (go_at_call 13; refine (signOf_any _ _).mono ?_; rintro e w' ⟨rfl, rfl⟩))
  go_ret
  exact ⟨rfl, B5⟩
set_option maxHeartbeats 400000 in
theorem e1 (u v : ByteArray) (s t k : Int) (w : World) (hu : u.size ≤ maxLen) (hv : v.size ≤ maxLen) (hf : fitsB u v = false)  :
    Calls Try.prog 4 #[.string u, .int .i64 s, .string v, .int .i64 t, .int .i64 k] w fun e w' => e = .returned (.bool true) ∧ Below w.heap.size w w' := by
  go_enter Try.func4, Try.ntmps4
  go_wp2_with (go_at_call 10; refine (bytes5_any _ _ _ _ _ _ hu hv).mono ?_; rintro e w' ⟨rfl, rfl⟩)
  go_ret
  exact ⟨rfl, Below.refl _ _⟩
set_option maxHeartbeats 400000 in
theorem e2 (u v : ByteArray) (s t k : Int) (w : World) (hu : u.size ≤ maxLen) (hv : v.size ≤ maxLen) (hf : fitsB u v = true) (h : 524288 < u.size) :
    Calls Try.prog 4 #[.string u, .int .i64 s, .string v, .int .i64 t, .int .i64 k] w fun e w' => e = .returned (.bool true) ∧ Below w.heap.size w w' := by
  go_enter Try.func4, Try.ntmps4
  go_wp2_with (go_at_call 10; refine (bytes5_any _ _ _ _ _ _ hu hv).mono ?_; rintro e w' ⟨rfl, rfl⟩)
  go_ret
  exact ⟨rfl, Below.refl _ _⟩
set_option maxHeartbeats 400000 in
theorem e3 (u v : ByteArray) (s t k : Int) (w : World) (hu : u.size ≤ maxLen) (hv : v.size ≤ maxLen) (hf : fitsB u v = true) (h1 : u.size ≤ 524288) (h : 524288 < v.size) :
    Calls Try.prog 4 #[.string u, .int .i64 s, .string v, .int .i64 t, .int .i64 k] w fun e w' => e = .returned (.bool true) ∧ Below w.heap.size w w' := by
  go_enter Try.func4, Try.ntmps4
  go_wp2_with (go_at_call 10; refine (bytes5_any _ _ _ _ _ _ hu hv).mono ?_; rintro e w' ⟨rfl, rfl⟩)
  go_ret
  exact ⟨rfl, Below.refl _ _⟩
set_option maxHeartbeats 400000 in
theorem e4 (u v : ByteArray) (s t k : Int) (w : World) (hu : u.size ≤ maxLen) (hv : v.size ≤ maxLen) (hf : fitsB u v = true) (h1 : u.size ≤ 524288) (h2 : v.size ≤ 524288) (h : s < -65536) :
    Calls Try.prog 4 #[.string u, .int .i64 s, .string v, .int .i64 t, .int .i64 k] w fun e w' => e = .returned (.bool true) ∧ Below w.heap.size w w' := by
  go_enter Try.func4, Try.ntmps4
  go_wp2_with (go_at_call 10; refine (bytes5_any _ _ _ _ _ _ hu hv).mono ?_; rintro e w' ⟨rfl, rfl⟩)
  go_ret
  exact ⟨rfl, Below.refl _ _⟩
set_option maxHeartbeats 400000 in
theorem e5 (u v : ByteArray) (s t k : Int) (w : World) (hu : u.size ≤ maxLen) (hv : v.size ≤ maxLen) (hf : fitsB u v = true) (h1 : u.size ≤ 524288) (h2 : v.size ≤ 524288) (h : 65536 < s) :
    Calls Try.prog 4 #[.string u, .int .i64 s, .string v, .int .i64 t, .int .i64 k] w fun e w' => e = .returned (.bool true) ∧ Below w.heap.size w w' := by
  have d1 : decide (s < -65536) = false := by simp; omega
  go_enter Try.func4, Try.ntmps4
  go_wp2_with (go_at_call 10; refine (bytes5_any _ _ _ _ _ _ hu hv).mono ?_; rintro e w' ⟨rfl, rfl⟩)
  go_ret
  exact ⟨rfl, Below.refl _ _⟩
set_option maxHeartbeats 400000 in
theorem e6 (u v : ByteArray) (s t k : Int) (w : World) (hu : u.size ≤ maxLen) (hv : v.size ≤ maxLen) (hf : fitsB u v = true) (h1 : u.size ≤ 524288) (h2 : v.size ≤ 524288) (s1 : -65536 ≤ s) (s2 : s ≤ 65536) (h : t < -65536) :
    Calls Try.prog 4 #[.string u, .int .i64 s, .string v, .int .i64 t, .int .i64 k] w fun e w' => e = .returned (.bool true) ∧ Below w.heap.size w w' := by
  have d1 : decide (s < -65536) = false := by simp; omega
  have d2 : decide (65536 < s) = false := by simp; omega
  go_enter Try.func4, Try.ntmps4
  go_wp2_with (go_at_call 10; refine (bytes5_any _ _ _ _ _ _ hu hv).mono ?_; rintro e w' ⟨rfl, rfl⟩)
  go_ret
  exact ⟨rfl, Below.refl _ _⟩
set_option maxHeartbeats 400000 in
theorem e7 (u v : ByteArray) (s t k : Int) (w : World) (hu : u.size ≤ maxLen) (hv : v.size ≤ maxLen) (hf : fitsB u v = true) (h1 : u.size ≤ 524288) (h2 : v.size ≤ 524288) (s1 : -65536 ≤ s) (s2 : s ≤ 65536) (h : 65536 < t) :
    Calls Try.prog 4 #[.string u, .int .i64 s, .string v, .int .i64 t, .int .i64 k] w fun e w' => e = .returned (.bool true) ∧ Below w.heap.size w w' := by
  have d1 : decide (s < -65536) = false := by simp; omega
  have d2 : decide (65536 < s) = false := by simp; omega
  have d3 : decide (t < -65536) = false := by simp; omega
  go_enter Try.func4, Try.ntmps4
  go_wp2_with (go_at_call 10; refine (bytes5_any _ _ _ _ _ _ hu hv).mono ?_; rintro e w' ⟨rfl, rfl⟩)
  go_ret
  exact ⟨rfl, Below.refl _ _⟩
set_option maxHeartbeats 400000 in
theorem e8 (u v : ByteArray) (s t k : Int) (w : World) (hu : u.size ≤ maxLen) (hv : v.size ≤ maxLen) (hf : fitsB u v = true) (h1 : u.size ≤ 524288) (h2 : v.size ≤ 524288) (s1 : -65536 ≤ s) (s2 : s ≤ 65536) (t1 : -65536 ≤ t) (t2 : t ≤ 65536) (h : k < -65536) :
    Calls Try.prog 4 #[.string u, .int .i64 s, .string v, .int .i64 t, .int .i64 k] w fun e w' => e = .returned (.bool true) ∧ Below w.heap.size w w' := by
  have d1 : decide (s < -65536) = false := by simp; omega
  have d2 : decide (65536 < s) = false := by simp; omega
  have d3 : decide (t < -65536) = false := by simp; omega
  have d4 : decide (65536 < t) = false := by simp; omega
  go_enter Try.func4, Try.ntmps4
  go_wp2_with (go_at_call 10; refine (bytes5_any _ _ _ _ _ _ hu hv).mono ?_; rintro e w' ⟨rfl, rfl⟩)
  go_ret
  exact ⟨rfl, Below.refl _ _⟩
set_option maxHeartbeats 400000 in
theorem e9 (u v : ByteArray) (s t k : Int) (w : World) (hu : u.size ≤ maxLen) (hv : v.size ≤ maxLen) (hf : fitsB u v = true) (h1 : u.size ≤ 524288) (h2 : v.size ≤ 524288) (s1 : -65536 ≤ s) (s2 : s ≤ 65536) (t1 : -65536 ≤ t) (t2 : t ≤ 65536) (h : 65536 < k) :
    Calls Try.prog 4 #[.string u, .int .i64 s, .string v, .int .i64 t, .int .i64 k] w fun e w' => e = .returned (.bool true) ∧ Below w.heap.size w w' := by
  have d1 : decide (s < -65536) = false := by simp; omega
  have d2 : decide (65536 < s) = false := by simp; omega
  have d3 : decide (t < -65536) = false := by simp; omega
  have d4 : decide (65536 < t) = false := by simp; omega
  have d5 : decide (k < -65536) = false := by simp; omega
  go_enter Try.func4, Try.ntmps4
  go_wp2_with (go_at_call 10; refine (bytes5_any _ _ _ _ _ _ hu hv).mono ?_; rintro e w' ⟨rfl, rfl⟩)
  go_ret
  exact ⟨rfl, Below.refl _ _⟩

theorem walk (u v : ByteArray) (s t k : Int) (w : World) (hu : u.size ≤ maxLen) (hv : v.size ≤ maxLen) :
    Calls Try.prog 4 #[.string u, .int .i64 s, .string v, .int .i64 t, .int .i64 k] w fun e w' => e = .returned (.bool true) ∧ Below w.heap.size w w' := by
  cases hf : fitsB u v with
  | false => exact e1 u v s t k w hu hv hf
  | true =>
    by_cases h1 : 524288 < u.size
    · exact e2 u v s t k w hu hv hf h1
    by_cases h2 : 524288 < v.size
    · exact e3 u v s t k w hu hv hf (by omega) h2
    by_cases h3 : s < -65536
    · exact e4 u v s t k w hu hv hf (by omega) (by omega) h3
    by_cases h4 : 65536 < s
    · exact e5 u v s t k w hu hv hf (by omega) (by omega) h4
    by_cases h5 : t < -65536
    · exact e6 u v s t k w hu hv hf (by omega) (by omega) (by omega) (by omega) h5
    by_cases h6 : 65536 < t
    · exact e7 u v s t k w hu hv hf (by omega) (by omega) (by omega) (by omega) h6
    by_cases h7 : k < -65536
    · exact e8 u v s t k w hu hv hf (by omega) (by omega) (by omega) (by omega) (by omega) (by omega) h7
    by_cases h8 : 65536 < k
    · exact e9 u v s t k w hu hv hf (by omega) (by omega) (by omega) (by omega) (by omega) (by omega) h8
    by_cases h9 : u = v
    · subst h9
      by_cases h10 : s = t
      · subst h10
        exact same u s k w (by omega) (by omega) (by omega) (by omega) (by omega)
      · exact eqs u s t k w (by omega) (by omega) (by omega) (by omega) (by omega) (by omega) (by omega) (by simpa using h10) h10
    · refine diff u v s t k w (by omega) (by omega) (by omega) (by omega) (by omega) (by omega) (by omega) (by omega) ?_ (fun g => h9 g.1)
      rw [beq_eq_false_iff_ne]
      intro g
      rw [ByteArray.toList_eq, ByteArray.toList_eq] at g
      exact h9 (ext_list g)

theorem own : ownKnob Try.prog.godebug = none := by kernel_rfl
open Go.ChangeMaps (open_string shut_string)
set_option maxRecDepth 100000 in
theorem lifted (os : Os) (started : os.Started) (H : Type) (enc : TypeId × Value → H) :
    ReturnsInHanded {} Try.checked os 4 .any (Rows.fnCmpCanonicalShiftNegateSpec.pre6 enc Try.prog Try.f4 Rows.fnCmpCanonicalShiftNegateRow.domain false) (Rows.fnCmpCanonicalShiftNegateSpec.post enc Try.prog Try.f4 false true false false) := by
  refine returnsInHanded_of_change (C := Try.checked) own started (by kernel_rfl) Try.func4
    (ChangeSpec.witness6 (enc := enc) (C := Try.checked) false ⟨#[], #[.string ByteArray.empty, .int .i64 0, .string ByteArray.empty, .int .i64 0, .int .i64 0], []⟩ 8 (by kernel_rfl) (by kernel_rfl) (by kernel_rfl) (by kernel_rfl)) ?_
  intro W base args ds gs before hval0 hW hcnd _
  have hval : ∀ (j : Nat) t v, Try.f4.params[j]? = some t → args[j]? = some v → Value.okWide Try.prog W .any base t v := hval0
  have hW' := hW
  obtain ⟨p, q, hA0, hV, rfl, hfz, hnd⟩ := hW
  have hA : DataW.TrodAll enc Try.prog W 0 (fun _ => true) true Try.f4.params.toList args.toList ds p := hA0
  rw [Try.params4] at hA hval
  obtain ⟨v0, vs0, d0, ds0, p0, q0, hargs, rfl, rfl, h0, r0⟩ := trodAll_cons hA
  obtain ⟨v1, vs1, d1, ds1, p1, q1, rfl, rfl, rfl, h1, r1⟩ := trodAll_cons r0
  obtain ⟨v2, vs2, d2, ds2, p2, q2, rfl, rfl, rfl, h2, r2⟩ := trodAll_cons r1
  obtain ⟨v3, vs3, d3, ds3, p3, q3, rfl, rfl, rfl, h3, r3⟩ := trodAll_cons r2
  obtain ⟨v4, vs4, d4, ds4, p4, q4, rfl, rfl, rfl, h4, r4⟩ := trodAll_cons r3
  obtain ⟨rfl, rfl, rfl⟩ := trodAll_nil r4
  obtain rfl : args = #[v0, v1, v2, v3, v4] := by cases args; simp_all
  obtain ⟨rfl, rfl⟩ := trodVars_none hV
  obtain ⟨a0, rfl, rfl, rfl, w0⟩ := open_string Try.underlying9 (hval 0 9 v0 rfl rfl) h0
  obtain ⟨a1, rfl, rfl, rfl, w1⟩ := open_int Try.underlying3 (hval 1 3 v1 rfl rfl) h1
  obtain ⟨a2, rfl, rfl, rfl, w2⟩ := open_string Try.underlying9 (hval 2 9 v2 rfl rfl) h2
  obtain ⟨a3, rfl, rfl, rfl, w3⟩ := open_int Try.underlying3 (hval 3 3 v3 rfl rfl) h3
  obtain ⟨a4, rfl, rfl, rfl, w4⟩ := open_int Try.underlying3 (hval 4 3 v4 rfl rfl) h4
  clear hA0 hval0
  refine (walk a0 a2 a1 a3 a4 W w0 w2).mono fun e W' ⟨he, bel⟩ => ?_
  subst he
  exact ⟨_, rfl, _, _, _, [], _, [], hW', trodAll_mk1 (shut_bool Try.underlying4 _), (trodAll_cons_mk (shut_string Try.underlying9 w0) (trodAll_cons_mk (shut_int Try.underlying3 w1) (trodAll_cons_mk (shut_string Try.underlying9 w2) (trodAll_cons_mk (shut_int Try.underlying3 w3) (trodAll_cons_mk (shut_int Try.underlying3 w4) trodAll_mk0))))), rfl, bel.frame _, fun h => by cases h⟩
end Shift

theorem shift_holds : Rows.FnCmpCanonicalShiftNegateSaid :=
  OpenClaim.holds_of_wide 4 Try.f4 rfl rfl rfl rfl rfl rfl rfl ⟨rfl, rfl, rfl, rfl, rfl⟩ rfl rfl rfl rfl rfl (by kernel_rfl) Try.func4 (by kernel_rfl)
    (of_decide_eq_true (by kernel_rfl)) (by unfold Func.isWrapper; first | (rw [if_pos (by decide +kernel)]; kernel_rfl) | (rw [if_neg (by decide +kernel)]; exact ⟨rfl, rfl⟩))
    (fun os started H enc _ => Shift.lifted os started H enc)
end Go.Proofs.Qxb6627213a
