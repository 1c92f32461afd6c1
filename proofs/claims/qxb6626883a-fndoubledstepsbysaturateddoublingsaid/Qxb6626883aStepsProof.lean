/- THE LAW 'FnDoubledStepsBySaturatedDoubling': its walk out of the callees' contracts, and the row. -/
import Derived.Test.Qxb6626883aDblWalks
import Derived.ProofKit
import Derived.Laws.Cover2
namespace Go.Proofs.Qxb6626883a
open Go.ChangeShapes Go.WideShapes Go.ChangeAt Go.RowKit

theorem steps_max (b c a : Int) (j : Nat) (w : World) (ha : (a == 9223372036854775807) = true) :
    Calls Try.prog 3 #[.int .i64 b, .int .i64 c, .float .f64 j, .int .i64 a] w fun e w' => e = .returned (.bool true) ∧ Grown w w' := by
  go_enter Try.func3, Try.ntmps3
  go_wp2
  go_ret
  exact ⟨rfl, Grown.refl _⟩

set_option maxHeartbeats 400000 in
theorem steps_zero (b c a : Int) (j : Nat) (w : World) (hcm : c ≤ 9223372036854775807) (ha0 : -9223372036854775808 ≤ a) (ha1 : a < 9223372036854775807) (h : b ≤ 0 ∨ c ≤ 0) :
    Calls Try.prog 3 #[.int .i64 b, .int .i64 c, .float .f64 j, .int .i64 a] w fun e w' => e = .returned (.bool true) ∧ Grown w w' := by
  have ha : (a == 9223372036854775807) = false := by simp; omega
  have e1 := dblF_zero b c a h
  have e2 := dblF_zero b c (a + 1) h
  by_cases hb : b ≤ 0
  · clear h
    go_enter Try.func3, Try.ntmps3
    go_wp2_with fail
    refine (zz_any _ _ _ _ _ hcm (by omega)).mono ?_
    rintro e w1 ⟨rfl, g1⟩
    go_wp2_with fail
    refine (zz_any _ _ _ _ _ hcm (by omega)).mono ?_
    rintro e w2 ⟨rfl, g2⟩
    go_wp2
    go_ret
    exact ⟨rfl, grown_trans g1 g2⟩
  · have hb' : decide (b ≤ 0) = false := by simpa using hb
    have hc : c ≤ 0 := by omega
    clear h
    go_enter Try.func3, Try.ntmps3
    go_wp2_with fail
    refine (zz_any _ _ _ _ _ hcm (by omega)).mono ?_
    rintro e w1 ⟨rfl, g1⟩
    go_wp2_with fail
    refine (zz_any _ _ _ _ _ hcm (by omega)).mono ?_
    rintro e w2 ⟨rfl, g2⟩
    go_wp2
    go_ret
    exact ⟨rfl, grown_trans g1 g2⟩

set_option maxHeartbeats 400000 in
theorem steps_below (b c a : Int) (j : Nat) (w : World) (hb : 0 < b) (hc : 0 < c) (hcm : c ≤ 9223372036854775807) (ha0 : -9223372036854775808 ≤ a) (ha1 : a < 1) :
    Calls Try.prog 3 #[.int .i64 b, .int .i64 c, .float .f64 j, .int .i64 a] w fun e w' => e = .returned (.bool true) ∧ Grown w w' := by
  have ha : (a == 9223372036854775807) = false := by simp; omega
  have hb' : decide (b ≤ 0) = false := by simp; omega
  have hc' : decide (c ≤ 0) = false := by simp; omega
  have e1 := dblF_low b c a hb hc (by omega)
  have e2 := dblF_low b c (a + 1) hb hc (by omega)
  go_enter Try.func3, Try.ntmps3
  go_wp2_with fail
  refine (zz_any _ _ _ _ _ hcm (by omega)).mono ?_
  rintro e w1 ⟨rfl, g1⟩
  go_wp2_with fail
  refine (zz_any _ _ _ _ _ hcm (by omega)).mono ?_
  rintro e w2 ⟨rfl, g2⟩
  go_wp2_with (go_at_call 6; refine (mn_any _ _ _).mono ?_; rintro e w3 ⟨rfl, rfl⟩)
  go_ret
  exact ⟨rfl, grown_trans g1 g2⟩

set_option maxHeartbeats 400000 in
/-- From attempt 1 on, the doubled value beyond the cap. -/
theorem steps_cap (b c a : Int) (j : Nat) (w : World) (hb : 0 < b) (hc : 0 < c) (hcm : c ≤ 9223372036854775807) (ha1 : 1 ≤ a) (ha2 : a < 9223372036854775807)
    (v1 m : Int) (e1 : dblF b c a = v1) (e2 : dblF b c (a + 1) = c) (em : mnF b c = m) (hm : (decide (a ≤ 1) && v1 != m) = false) (r1 : m ≤ v1) (r2 : v1 ≤ c) (_r3 : 0 < v1) (hk : c - v1 < v1) :
    Calls Try.prog 3 #[.int .i64 b, .int .i64 c, .float .f64 j, .int .i64 a] w fun e w' => e = .returned (.bool true) ∧ Grown w w' := by
  have ha : (a == 9223372036854775807) = false := by simp; omega
  have hb' : decide (b ≤ 0) = false := by simp; omega
  have hc' : decide (c ≤ 0) = false := by simp; omega
  have hlt : decide (v1 < m) = false := by simp; omega
  have hgt : decide (c < v1) = false := by simp; omega
  have ha1' : decide (a < 1) = false := by simp; omega
  by_cases hs : a ≤ 1
  · have hne : (v1 != m) = false := by simpa [hs] using hm
    have hs' : decide (a ≤ 1) = true := by simpa using hs
    clear hm hs
    go_enter Try.func3, Try.ntmps3
    go_wp2_with fail
    refine (zz_any _ _ _ _ _ hcm (by omega)).mono ?_
    rintro e w1 ⟨rfl, g1⟩
    go_wp2_with fail
    refine (zz_any _ _ _ _ _ hcm (by omega)).mono ?_
    rintro e w2 ⟨rfl, g2⟩
    go_wp2_with (go_at_call 6; refine (mn_any _ _ _).mono ?_; rintro e w3 ⟨rfl, rfl⟩)
    go_ret
    exact ⟨rfl, grown_trans g1 g2⟩
  · have hs' : decide (a ≤ 1) = false := by simpa using hs
    clear hm hs
    go_enter Try.func3, Try.ntmps3
    go_wp2_with fail
    refine (zz_any _ _ _ _ _ hcm (by omega)).mono ?_
    rintro e w1 ⟨rfl, g1⟩
    go_wp2_with fail
    refine (zz_any _ _ _ _ _ hcm (by omega)).mono ?_
    rintro e w2 ⟨rfl, g2⟩
    go_wp2_with (go_at_call 6; refine (mn_any _ _ _).mono ?_; rintro e w3 ⟨rfl, rfl⟩)
    go_ret
    exact ⟨rfl, grown_trans g1 g2⟩

set_option maxHeartbeats 400000 in
/-- From attempt 1 on, the doubled value within the cap. -/
theorem steps_in (b c a : Int) (j : Nat) (w : World) (hb : 0 < b) (hc : 0 < c) (hcm : c ≤ 9223372036854775807) (ha1 : 1 ≤ a) (ha2 : a < 9223372036854775807)
    (v1 m : Int) (e1 : dblF b c a = v1) (e2 : dblF b c (a + 1) = v1 + v1) (em : mnF b c = m) (hm : (decide (a ≤ 1) && v1 != m) = false) (r1 : m ≤ v1) (r2 : v1 ≤ c) (r3 : 0 < v1) (hk : ¬ c - v1 < v1) :
    Calls Try.prog 3 #[.int .i64 b, .int .i64 c, .float .f64 j, .int .i64 a] w fun e w' => e = .returned (.bool true) ∧ Grown w w' := by
  have ha : (a == 9223372036854775807) = false := by simp; omega
  have hb' : decide (b ≤ 0) = false := by simp; omega
  have hc' : decide (c ≤ 0) = false := by simp; omega
  have hlt : decide (v1 < m) = false := by simp; omega
  have hgt : decide (c < v1) = false := by simp; omega
  have ha1' : decide (a < 1) = false := by simp; omega
  by_cases hs : a ≤ 1
  · have hne : (v1 != m) = false := by simpa [hs] using hm
    have hs' : decide (a ≤ 1) = true := by simpa using hs
    clear hm hs
    go_enter Try.func3, Try.ntmps3
    go_wp2_with fail
    refine (zz_any _ _ _ _ _ hcm (by omega)).mono ?_
    rintro e w1 ⟨rfl, g1⟩
    go_wp2_with fail
    refine (zz_any _ _ _ _ _ hcm (by omega)).mono ?_
    rintro e w2 ⟨rfl, g2⟩
    go_wp2_with (go_at_call 6; refine (mn_any _ _ _).mono ?_; rintro e w3 ⟨rfl, rfl⟩)
    go_ret
    exact ⟨rfl, grown_trans g1 g2⟩
  · have hs' : decide (a ≤ 1) = false := by simpa using hs
    clear hm hs
    go_enter Try.func3, Try.ntmps3
    go_wp2_with fail
    refine (zz_any _ _ _ _ _ hcm (by omega)).mono ?_
    rintro e w1 ⟨rfl, g1⟩
    go_wp2_with fail
    refine (zz_any _ _ _ _ _ hcm (by omega)).mono ?_
    rintro e w2 ⟨rfl, g2⟩
    go_wp2_with (go_at_call 6; refine (mn_any _ _ _).mono ?_; rintro e w3 ⟨rfl, rfl⟩)
    go_ret
    exact ⟨rfl, grown_trans g1 g2⟩

theorem steps_walk (b c a : Int) (j : Nat) (w : World) (hcm : c ≤ 9223372036854775807) (ha0 : -9223372036854775808 ≤ a) (ha2 : a ≤ 9223372036854775807) :
    Calls Try.prog 3 #[.int .i64 b, .int .i64 c, .float .f64 j, .int .i64 a] w fun e w' => e = .returned (.bool true) ∧ Grown w w' := by
  by_cases hM : a = 9223372036854775807
  · exact steps_max b c a j w (by simpa using hM)
  by_cases h : b ≤ 0 ∨ c ≤ 0
  · exact steps_zero b c a j w hcm ha0 (by omega) h
  by_cases h1 : a < 1
  · exact steps_below b c a j w (by omega) (by omega) hcm ha0 h1
  have hr := dblF_range b c a (by omega) (by omega)
  have hn := dblF_next b c a (by omega) (by omega) hcm (by omega)
  have hm : (decide (a ≤ 1) && dblF b c a != mnF b c) = false := by
    by_cases hs : a ≤ 1
    · rw [dblF_low b c a (by omega) (by omega) hs]; simp
    · simp [hs]
  by_cases hk : c - dblF b c a < dblF b c a
  · rw [if_pos hk] at hn
    exact steps_cap b c a j w (by omega) (by omega) hcm (by omega) (by omega) _ _ rfl hn rfl hm hr.1 hr.2.1 hr.2.2 hk
  · rw [if_neg hk] at hn
    exact steps_in b c a j w (by omega) (by omega) hcm (by omega) (by omega) _ _ rfl hn rfl hm hr.1 hr.2.1 hr.2.2 hk

theorem Try.own : ownKnob Try.prog.godebug = none := by kernel_rfl
theorem bounds_of_wf {x : Int} (h : (Lit.int .i64 x).wf = true) : -9223372036854775808 ≤ x ∧ x ≤ 9223372036854775807 := by
  simp [Lit.wf, IntKind.min, IntKind.max, IntKind.signed, IntKind.bits] at h
  exact ⟨by omega, by omega⟩

set_option maxRecDepth 100000 in
theorem steps_lifted (os : Os) (started : os.Started) (H : Type) (enc : TypeId × Value → H) :
    ReturnsInHanded {} Try.checked os 3 .any (Rows.fnDoubledStepsBySaturatedDoublingSpec.pre6 enc Try.prog Try.f3 Rows.fnDoubledStepsBySaturatedDoublingRow.domain false) (Rows.fnDoubledStepsBySaturatedDoublingSpec.post enc Try.prog Try.f3 false true false false) := by
  refine returnsInHanded_of_change (C := Try.checked) Try.own started (by kernel_rfl) Try.func3
    (ChangeSpec.witness6 (enc := enc) (C := Try.checked) false ⟨#[], #[.int .i64 0, .int .i64 0, .float .f64 0, .int .i64 0], []⟩ 8 (by kernel_rfl) (by kernel_rfl) (by kernel_rfl) (by kernel_rfl)) ?_
  intro W base args ds gs before hval0 hW hcnd _
  have hval : ∀ (j : Nat) t v, Try.f3.params[j]? = some t → args[j]? = some v → Value.okWide Try.prog W .any base t v := hval0
  have hW' := hW
  obtain ⟨p, q, hA0, hV, rfl, hfz, hnd⟩ := hW
  have hA : DataW.TrodAll enc Try.prog W 0 (fun _ => true) true Try.f3.params.toList args.toList ds p := hA0
  rw [Try.params3] at hA hval
  obtain ⟨v0, v1, v2, v3, d0, d1, d2, d3, p0, p1, p2, p3, rfl, rfl, rfl, h0, h1, h2, h3⟩ := trodAll_four hA
  obtain ⟨rfl, rfl⟩ := trodVars_none hV
  obtain ⟨b, rfl, rfl, rfl, w0⟩ := open_int Try.underlying2 (hval 0 2 v0 rfl rfl) h0
  obtain ⟨c, rfl, rfl, rfl, w1⟩ := open_int Try.underlying2 (hval 1 2 v1 rfl rfl) h1
  obtain ⟨j, rfl, rfl, rfl, w2⟩ := open_float Try.underlying22 (hval 2 22 v2 rfl rfl) h2
  obtain ⟨a, rfl, rfl, rfl, w3⟩ := open_int Try.underlying3 (hval 3 3 v3 rfl rfl) h3
  clear hA0 hval0
  simp only [List.append_nil] at hW'
  refine (steps_walk b c a j W (bounds_of_wf w1).2 (bounds_of_wf w3).1 (bounds_of_wf w3).2).mono fun e W' ⟨he, hg⟩ => ?_
  subst he
  exact ⟨_, rfl, post_of_same (pa := []) (pv := []) hW' (fun _ _ _ => trodAll_mk1 (shut_bool Try.underlying4 _)) (fun sp _ => trodAll_mk4 (shut_int Try.underlying2 w0) (shut_int Try.underlying2 w1) (shut_float Try.underlying22 w2) (shut_int Try.underlying3 w3)) (fun _ _ => rfl) rfl
    (hg.frame _) hg.2.1 (ok_one (by kernel_rfl) rfl (okWide_bool_mk Try.underlying4 _))⟩

theorem steps_holds : Rows.FnDoubledStepsBySaturatedDoublingSaid :=
  OpenClaim.holds_of_wide 3 Try.f3 rfl rfl rfl rfl rfl rfl rfl ⟨rfl, rfl, rfl, rfl, rfl⟩ rfl rfl rfl rfl rfl (by kernel_rfl) Try.func3 (by kernel_rfl)
    (of_decide_eq_true (by kernel_rfl)) (by unfold Func.isWrapper; first | (rw [if_pos (by decide +kernel)]; kernel_rfl) | (rw [if_neg (by decide +kernel)]; exact ⟨rfl, rfl⟩))
    (fun os started H enc _ => steps_lifted os started H enc)
end Go.Proofs.Qxb6626883a
