/- THE LAW 'FnTotalsSplitAtAnyCut': its walk out of the callees' contracts, and the row. -/
import Derived.Test.Qxb6626926aLvOpen
import Derived.ProofKit
namespace Go.Proofs.Qxb6626926a
open Go.ChangeShapes Go.WideShapes Go.ChangeAt Go.RowKit

namespace Split
set_option maxHeartbeats 1000000 in
theorem mid (ao : Option Addr) (n cap k : Nat) (Z : Nat → Int × Int × Int) (w : World) (hn : n ≤ 43690) (hk : k < n) (hS : sees w ao n Z)
    (t0 t1 t2 l0 l1 l2 r0 r1 r2 x0 x1 x2 : Int) (hT : Hid (sumTo Z n = (t0, t1, t2))) (hL : Hid (sumTo Z k = (l0, l1, l2))) (hR : Hid (sumTo (fun i => Z (k + i)) (n - k) = (r0, r1, r2))) (hX : Hid (sumTo (fun i => Z (k + i)) 1 = (x0, x1, x2)))
    (hZ : Hid (Z k = (x0, x1, x2))) (s0 : wrap64 (l0 + r0) = t0) (s1 : wrap64 (l1 + r1) = t1) (s2 : wrap64 (l2 + r2) = t2) :
    Calls Try.prog 4 #[.slice ao n cap, .int .i64 k] w fun e w' => e = .returned (.bool true) ∧ Below w.heap.size w w' := by
  go_enter Try.func4, Try.ntmps4
  go_wp2_with (go_at_call 10; refine (bytes2_any _ _ _ _ _ (by omega)).mono ?_; rintro e w' ⟨rfl, rfl⟩)
  refine (toLevels_any ao n cap (by omega) Z _ hS).mono ?_
  rintro e w1 ⟨rfl, hown, hb1⟩
  have hg1 : w.heap.size < w1.heap.size := (hown.lt w.heap.size rfl).2
  have hl1 := lies_of_own hown
  clear hown
  go_wp2_with fail
  refine (totals_as (some ⟨w.heap.size, 0, none⟩) n n (by omega) Z _ _ _ _ hT (.inr ⟨_, _, rfl, hg1, hl1⟩)).mono ?_
  rintro e w2 ⟨rfl, hb2⟩
  have hz2 := hb2.size
  have hl2 := lies_below hl1 hb2 hg1
  clear hl1
  go_wp2_with fail
  have ht2 := lv3_new w2 t0 t1 t2 28
  have hl2a := lies_below hl2 ((Below.refl w2.heap.size w2).alloc (Nat.le_refl _) (.cells #[.int .i64 t0, .int .i64 t1, .int .i64 t2] 28)) (by omega)
  refine (totals_as (some ⟨w.heap.size, 0, none⟩) k n (by omega) Z _ _ _ _ hL (.inr ⟨_, _, rfl, by simp; omega, by simpa using lies_part (k := 0) (m := k) hl2a (by omega)⟩)).mono ?_
  rintro e w3 ⟨rfl, hb3⟩
  have hz3 := hb3.size
  simp at hz3
  have hl3 := lies_below hl2a hb3 (by simp; omega)
  have ht3 := lv3_below ht2 hb3 (by simp)
  clear hl2 hl2a ht2
  go_wp2_with fail
  have hm3 := lv3_new w3 l0 l1 l2 28
  have hl3a := lies_below hl3 ((Below.refl w3.heap.size w3).alloc (Nat.le_refl _) (.cells #[.int .i64 l0, .int .i64 l1, .int .i64 l2] 28)) (by omega)
  have ht3a := lv3_alloc ht3 (by omega) (.cells #[.int .i64 l0, .int .i64 l1, .int .i64 l2] 28)
  refine (totals_as (some ⟨w.heap.size, k * 3, none⟩) (n - k) (n - k) (by omega) _ _ _ _ _ hR (.inr ⟨_, _, rfl, by simp; omega, by simpa using lies_part (k := k) (m := n - k) hl3a (by omega)⟩)).mono ?_
  rintro e w4 ⟨rfl, hb4⟩
  have hz4 := hb4.size
  simp at hz4
  have hl4 := lies_below hl3a hb4 (by simp; omega)
  have ht4 := lv3_below ht3a hb4 (by simp; omega)
  have hm4 := lv3_below hm3 hb4 (by simp)
  clear hl3 hl3a ht3 ht3a hm3
  obtain ⟨q0, q1, q2⟩ := ht4
  obtain ⟨m0, m1, m2⟩ := hm4
  simp only at q0 q1 q2 m0 m1 m2
  have hz4a : w2.heap.size < w4.heap.size := by omega
  have hz4b : w3.heap.size < w4.heap.size := by omega
  have na1 : ∀ c, w2.heap.size < w4.heap.size + c := by omega
  have na2 : ∀ c d, w2.heap.size < w4.heap.size + c + d := by omega
  have na3 : ∀ c d e, w2.heap.size < w4.heap.size + c + d + e := by omega
  have nb1 : ∀ c, w3.heap.size < w4.heap.size + c := by omega
  have nb2 : ∀ c d, w3.heap.size < w4.heap.size + c + d := by omega
  have nb3 : ∀ c d e, w3.heap.size < w4.heap.size + c + d + e := by omega
  go_wp2
  go_region_held3 (fun w' => w'.cell? ⟨w2.heap.size, 0, none⟩ = some (.int .i64 t0) ∧ w'.cell? ⟨w2.heap.size, 1, none⟩ = some (.int .i64 t1) ∧ w'.cell? ⟨w2.heap.size, 2, none⟩ = some (.int .i64 t2) ∧ w'.cell? ⟨w3.heap.size, 0, none⟩ = some (.int .i64 l0) ∧ w'.cell? ⟨w3.heap.size, 1, none⟩ = some (.int .i64 l1) ∧ w'.cell? ⟨w3.heap.size, 2, none⟩ = some (.int .i64 l2) ∧ w'.cell? ⟨w4.heap.size, 0, none⟩ = some (.int .i64 r0) ∧ w'.cell? ⟨w4.heap.size, 1, none⟩ = some (.int .i64 r1) ∧ w'.cell? ⟨w4.heap.size, 2, none⟩ = some (.int .i64 r2)) (simp [go_sem, World.cell?_alloc_past, *])
    (first | (go_at_call 9; refine (addLevel_any _ _ _ _ _ _ _).mono ?_; rintro e w' ⟨rfl, o1, o2, o3, rfl⟩))
  clear na1 na2 na3 nb1 nb2 nb3 q0 q1 q2 m0 m1 m2
  have B2 : Below w.heap.size w w2 := hb1.trans (hb2.mono (Nat.le_of_lt hg1))
  have B3 : Below w.heap.size w w3 := (B2.alloc (by omega) _).trans (hb3.mono (by simp; omega))
  have B4 : Below w.heap.size w w4 := (B3.alloc (by omega) _).trans (hb4.mono (by simp; omega))
  have B5 : ∀ a b c d, Below w.heap.size w ((((w4.alloc a).alloc b).alloc c).alloc d).drew := fun a b c d =>
    ((((B4.alloc (by omega) a).alloc (by simp; omega) b).alloc (by simp; omega) c).alloc (by simp; omega) d).drew
  have L5 : ∀ a b c d, lies ((((w4.alloc a).alloc b).alloc c).alloc d).drew w.heap.size 0 n Z := fun a b c d =>
    lies_below hl4 (((((Below.refl w4.heap.size w4).alloc (Nat.le_refl _) a).alloc (by simp) b).alloc (by simp; omega) c).alloc (by simp; omega) d).drew (by omega)
  go_wp2_with fail
  refine (totals_as (some ⟨w.heap.size, k * 3, none⟩) 1 (n - k) (by omega) _ _ _ _ _ hX (.inr ⟨_, _, rfl, by simp; omega, by simpa using lies_part (k := k) (m := 1) (L5 _ _ _ _) (by omega)⟩)).mono ?_
  rintro e w6 ⟨rfl, hb6⟩
  have hz6 := hb6.size
  simp at hz6
  have B6 : Below w.heap.size w w6 := (B5 _ _ _ _).trans (hb6.mono (by simp; omega))
  clear B5 L5 hb6 hb4 hb3 hb2
  rcases hS with rfl | ⟨b, off, rfl, hb, hLw⟩
  · omega
  obtain ⟨c1, c2, c3⟩ := hLw k hk
  rw [hZ.out] at c1 c2 c3
  rw [← B6.cell (by exact hb)] at c1 c2 c3
  simp only at c1 c2 c3
  have hbz : b < w6.heap.size := by omega
  go_wp2_with (first | (go_at_call 7; refine (toLevel_any _ _ _ _).mono ?_; rintro e w' ⟨rfl, o1, o2, rfl⟩))
  go_ret
  exact ⟨rfl, (((B6.alloc (by omega) _).alloc (by simp; omega) _).alloc (by simp; omega) _).alloc (by simp; omega) _⟩

set_option maxHeartbeats 1000000 in
theorem fin (ao : Option Addr) (n cap : Nat) (Z : Nat → Int × Int × Int) (w : World) (hn : n ≤ 43690) (hS : sees w ao n Z)
    (t0 t1 t2 : Int) (hT : Hid (sumTo Z n = (t0, t1, t2))) (s0 : wrap64 t0 = t0) (s1 : wrap64 t1 = t1) (s2 : wrap64 t2 = t2) :
    Calls Try.prog 4 #[.slice ao n cap, .int .i64 n] w fun e w' => e = .returned (.bool true) ∧ Below w.heap.size w w' := by
  go_enter Try.func4, Try.ntmps4
  go_wp2_with (go_at_call 10; refine (bytes2_any _ _ _ _ _ (by omega)).mono ?_; rintro e w' ⟨rfl, rfl⟩)
  refine (toLevels_any ao n cap (by omega) Z _ hS).mono ?_
  rintro e w1 ⟨rfl, hown, hb1⟩
  have hg1 : w.heap.size < w1.heap.size := (hown.lt w.heap.size rfl).2
  have hl1 := lies_of_own hown
  clear hown
  go_wp2_with fail
  refine (totals_as (some ⟨w.heap.size, 0, none⟩) n n (by omega) Z _ _ _ _ hT (.inr ⟨_, _, rfl, hg1, hl1⟩)).mono ?_
  rintro e w2 ⟨rfl, hb2⟩
  have hz2 := hb2.size
  have hl2 := lies_below hl1 hb2 hg1
  clear hl1
  go_wp2_with fail
  have ht2 := lv3_new w2 t0 t1 t2 28
  have hl2a := lies_below hl2 ((Below.refl w2.heap.size w2).alloc (Nat.le_refl _) (.cells #[.int .i64 t0, .int .i64 t1, .int .i64 t2] 28)) (by omega)
  refine (totals_as (some ⟨w.heap.size, 0, none⟩) n n (by omega) Z _ _ _ _ hT (.inr ⟨_, _, rfl, by simp; omega, hl2a⟩)).mono ?_
  rintro e w3 ⟨rfl, hb3⟩
  have hz3 := hb3.size
  simp at hz3
  have ht3 := lv3_below ht2 hb3 (by simp)
  clear hl2 hl2a ht2
  go_wp2_with fail
  have hm3 := lv3_new w3 t0 t1 t2 28
  have ht3a := lv3_alloc ht3 (by omega) (.cells #[.int .i64 t0, .int .i64 t1, .int .i64 t2] 28)
  refine (totals_as (some ⟨w.heap.size, 0, none⟩) 0 0 (by omega) Z _ 0 0 0 rfl (.inl rfl)).mono ?_
  rintro e w4 ⟨rfl, hb4⟩
  have hz4 := hb4.size
  simp at hz4
  have ht4 := lv3_below ht3a hb4 (by simp; omega)
  have hm4 := lv3_below hm3 hb4 (by simp)
  clear ht3 ht3a hm3
  obtain ⟨q0, q1, q2⟩ := ht4
  obtain ⟨m0, m1, m2⟩ := hm4
  simp only at q0 q1 q2 m0 m1 m2
  have hz4a : w2.heap.size < w4.heap.size := by omega
  have hz4b : w3.heap.size < w4.heap.size := by omega
  have na1 : ∀ c, w2.heap.size < w4.heap.size + c := by omega
  have na2 : ∀ c d, w2.heap.size < w4.heap.size + c + d := by omega
  have na3 : ∀ c d e, w2.heap.size < w4.heap.size + c + d + e := by omega
  have nb1 : ∀ c, w3.heap.size < w4.heap.size + c := by omega
  have nb2 : ∀ c d, w3.heap.size < w4.heap.size + c + d := by omega
  have nb3 : ∀ c d e, w3.heap.size < w4.heap.size + c + d + e := by omega
  go_wp2
  go_region_held3 (fun w' => w'.cell? ⟨w2.heap.size, 0, none⟩ = some (.int .i64 t0) ∧ w'.cell? ⟨w2.heap.size, 1, none⟩ = some (.int .i64 t1) ∧ w'.cell? ⟨w2.heap.size, 2, none⟩ = some (.int .i64 t2) ∧ w'.cell? ⟨w3.heap.size, 0, none⟩ = some (.int .i64 t0) ∧ w'.cell? ⟨w3.heap.size, 1, none⟩ = some (.int .i64 t1) ∧ w'.cell? ⟨w3.heap.size, 2, none⟩ = some (.int .i64 t2) ∧ w'.cell? ⟨w4.heap.size, 0, none⟩ = some (.int .i64 0) ∧ w'.cell? ⟨w4.heap.size, 1, none⟩ = some (.int .i64 0) ∧ w'.cell? ⟨w4.heap.size, 2, none⟩ = some (.int .i64 0)) (simp [go_sem, World.cell?_alloc_past, *])
    (first | (go_at_call 9; refine (addLevel_any _ _ _ _ _ _ _).mono ?_; rintro e w' ⟨rfl, o1, o2, o3, rfl⟩))
  clear na1 na2 na3 nb1 nb2 nb3 q0 q1 q2 m0 m1 m2
  have B2 : Below w.heap.size w w2 := hb1.trans (hb2.mono (Nat.le_of_lt hg1))
  have B3 : Below w.heap.size w w3 := (B2.alloc (by omega) _).trans (hb3.mono (by simp; omega))
  have B4 : Below w.heap.size w w4 := (B3.alloc (by omega) _).trans (hb4.mono (by simp; omega))
  go_wp2
  go_ret
  exact ⟨rfl, ((((B4.alloc (by omega) _).alloc (by simp; omega) _).alloc (by simp; omega) _).alloc (by simp; omega) _).drew⟩

/-- More levels than the first bound. -/
theorem many (ao : Option Addr) (n cap : Nat) (k : Int) (w : World) (hn : 1048576 < n) :
    Calls Try.prog 4 #[.slice ao n cap, .int .i64 k] w fun e w' => e = .returned (.bool true) ∧ Below w.heap.size w w' := by
  go_enter Try.func4, Try.ntmps4
  go_wp2_with (go_at_call 10; refine (bytes2_no _ _ _ _ _ hn).mono ?_; rintro e w' ⟨rfl, rfl⟩)
  go_ret
  exact ⟨rfl, Below.refl _ _⟩
theorem some_more (ao : Option Addr) (n cap : Nat) (k : Int) (w : World) (hn : 43690 < n) (hn' : n ≤ 1048576) :
    Calls Try.prog 4 #[.slice ao n cap, .int .i64 k] w fun e w' => e = .returned (.bool true) ∧ Below w.heap.size w w' := by
  go_enter Try.func4, Try.ntmps4
  go_wp2_with (go_at_call 10; refine (bytes2_any _ _ _ _ _ hn').mono ?_; rintro e w' ⟨rfl, rfl⟩)
  go_ret
  exact ⟨rfl, Below.refl _ _⟩
theorem k_low (ao : Option Addr) (n cap : Nat) (k : Int) (w : World) (hn : n ≤ 43690) (hk : k < 0) :
    Calls Try.prog 4 #[.slice ao n cap, .int .i64 k] w fun e w' => e = .returned (.bool true) ∧ Below w.heap.size w w' := by
  go_enter Try.func4, Try.ntmps4
  go_wp2_with (go_at_call 10; refine (bytes2_any _ _ _ _ _ (by omega)).mono ?_; rintro e w' ⟨rfl, rfl⟩)
  go_ret
  exact ⟨rfl, Below.refl _ _⟩
theorem k_high (ao : Option Addr) (n cap : Nat) (k : Int) (w : World) (hn : n ≤ 43690) (hk : (n : Int) < k) :
    Calls Try.prog 4 #[.slice ao n cap, .int .i64 k] w fun e w' => e = .returned (.bool true) ∧ Below w.heap.size w w' := by
  have hk' : decide (k < 0) = false := by simp; omega
  go_enter Try.func4, Try.ntmps4
  go_wp2_with (go_at_call 10; refine (bytes2_any _ _ _ _ _ (by omega)).mono ?_; rintro e w' ⟨rfl, rfl⟩)
  go_ret
  exact ⟨rfl, Below.refl _ _⟩

theorem walk (ao : Option Addr) (n cap : Nat) (k : Int) (Z : Nat → Int × Int × Int) (w : World) (hS : sees w ao n Z) (hI : ∀ i, i < n → isInt (Z i)) :
    Calls Try.prog 4 #[.slice ao n cap, .int .i64 k] w fun e w' => e = .returned (.bool true) ∧ Below w.heap.size w w' := by
  by_cases h1 : 1048576 < n
  · exact many ao n cap k w h1
  by_cases h2 : 43690 < n
  · exact some_more ao n cap k w h2 (by omega)
  by_cases h3 : k < 0
  · exact k_low ao n cap k w (by omega) h3
  by_cases h4 : (n : Int) < k
  · exact k_high ao n cap k w (by omega) h4
  obtain ⟨j, rfl⟩ := Int.eq_ofNat_of_zero_le (show 0 ≤ k by omega)
  by_cases h5 : j < n
  · have hs := sumTo_split Z j (n - j)
    rw [show j + (n - j) = n from by omega] at hs
    have hx : sumTo (fun i => Z (j + i)) 1 = Z j := by rw [sumTo_one _ (by simpa using hI j h5)]; simp
    have e0 : sumTo Z n = ((sumTo Z n).1, (sumTo Z n).2.1, (sumTo Z n).2.2) := rfl
    have s0 : wrap64 ((sumTo Z j).1 + (sumTo (fun i => Z (j + i)) (n - j)).1) = (sumTo Z n).1 := by rw [hs]; rfl
    have s1 : wrap64 ((sumTo Z j).2.1 + (sumTo (fun i => Z (j + i)) (n - j)).2.1) = (sumTo Z n).2.1 := by rw [hs]; rfl
    have s2 : wrap64 ((sumTo Z j).2.2 + (sumTo (fun i => Z (j + i)) (n - j)).2.2) = (sumTo Z n).2.2 := by rw [hs]; rfl
    exact mid ao n cap j Z w (by omega) h5 hS _ _ _ _ _ _ _ _ _ _ _ _ e0 rfl rfl hx rfl s0 s1 s2
  · obtain rfl : j = n := by omega
    obtain ⟨i0, i1, i2⟩ := sumTo_isInt Z j
    exact fin ao j cap Z w (by omega) hS _ _ _ rfl i0 i1 i2

theorem own : ownKnob Try.prog.godebug = none := by kernel_rfl
theorem laidOut : laidOutB Try.prog = true := by kernel_rfl

set_option maxRecDepth 100000 in
theorem lifted (os : Os) (started : os.Started) (H : Type) (enc : TypeId × Value → H) :
    ReturnsInHanded {} Try.checked os 4 .any (Rows.fnTotalsSplitAtAnyCutSpec.pre6 enc Try.prog Try.f4 Rows.fnTotalsSplitAtAnyCutRow.domain false) (Rows.fnTotalsSplitAtAnyCutSpec.post enc Try.prog Try.f4 false true false false) := by
  refine returnsInHanded_of_change (C := Try.checked) own started (by kernel_rfl) Try.func4
    (ChangeSpec.witness6 (enc := enc) (C := Try.checked) false ⟨#[], #[.slice none 0 0, .int .i64 0], []⟩ 8 (by kernel_rfl) (by kernel_rfl) (by kernel_rfl) (by kernel_rfl)) ?_
  intro W base args ds gs before hval0 hW hcnd _
  have hval : ∀ (j : Nat) t v, Try.f4.params[j]? = some t → args[j]? = some v → Value.okWide Try.prog W .any base t v := hval0
  have hW' := hW
  obtain ⟨p, q, hA0, hV, rfl, hfz, hnd⟩ := hW
  have hA : DataW.TrodAll enc Try.prog W 0 (fun _ => true) true Try.f4.params.toList args.toList ds p := hA0
  rw [Try.params4] at hA hval
  obtain ⟨v0, vs0, d0, ds0, p0, q0, hargs, rfl, rfl, h0, r0⟩ := trodAll_cons hA
  obtain ⟨v1, vs1, d1, ds1, p1, q1, rfl, rfl, rfl, h1, r1⟩ := trodAll_cons r0
  obtain ⟨rfl, rfl, rfl⟩ := trodAll_nil r1
  obtain rfl : args = #[v0, v1] := by cases args; simp_all
  obtain ⟨rfl, rfl⟩ := trodVars_none hV
  have lt0 : ∀ x ∈ p0, x.block < W.heap.size := by obtain ⟨m, hm⟩ := h0; exact DataW.trod_lt m _ _ _ hm
  obtain ⟨ao, n, cap, Z, rfl, hS, hI⟩ := view (hval 0 22 v0 rfl rfl) h0
  obtain ⟨a1, rfl, rfl, rfl, w1⟩ := open_int Try.underlying3 (hval 1 3 v1 rfl rfl) h1
  clear hA0 hval0
  refine (walk ao n cap a1 Z W hS hI).mono fun e W' ⟨he, bel⟩ => ?_
  subst he
  exact ⟨_, rfl, _, _, _, [], _, [], hW', trodAll_mk1 (shut_bool Try.underlying4 _), (trodAll_cons_mk (Below.trod laidOut (by kernel_rfl) (of_decide_eq_true (by kernel_rfl)) h0 bel lt0) (trodAll_cons_mk (shut_int Try.underlying3 w1) trodAll_mk0)), rfl, bel.frame _, fun h => by cases h⟩
end Split

theorem split_holds : Rows.FnTotalsSplitAtAnyCutSaid :=
  OpenClaim.holds_of_wide 4 Try.f4 rfl rfl rfl rfl rfl rfl rfl ⟨rfl, rfl, rfl, rfl, rfl⟩ rfl rfl rfl rfl rfl (by kernel_rfl) Try.func4 (by kernel_rfl)
    (of_decide_eq_true (by kernel_rfl)) (by unfold Func.isWrapper; first | (rw [if_pos (by decide +kernel)]; kernel_rfl) | (rw [if_neg (by decide +kernel)]; exact ⟨rfl, rfl⟩))
    (fun os started H enc _ => Split.lifted os started H enc)
end Go.Proofs.Qxb6626926a
