/- THE LAW 'FnDoubledNextAttemptIsDoubleBase': its walk out of the callees' contracts, and the row. -/
import Derived.Test.Qxb6626883aDblWalks
import Derived.ProofKit
import Derived.Laws.Cover2
namespace Go.Proofs.Qxb6626883a
open Go.ChangeShapes Go.WideShapes Go.ChangeAt Go.RowKit
namespace Twice

theorem at_max (b c a : Int) (j : Nat) (w : World) (ha : (a == 9223372036854775807) = true) :
    Calls Try.prog 4 #[.int .i64 b, .int .i64 c, .float .f64 j, .int .i64 a] w fun e w' => e = .returned (.bool true) ∧ Grown w w' := by
  go_enter Try.func4, Try.ntmps4
  go_wp2
  go_ret
  exact ⟨rfl, Grown.refl _⟩

theorem at_big (b c a : Int) (j : Nat) (w : World) (ha : (a == 9223372036854775807) = false) (hb : 4611686018427387903 < b) :
    Calls Try.prog 4 #[.int .i64 b, .int .i64 c, .float .f64 j, .int .i64 a] w fun e w' => e = .returned (.bool true) ∧ Grown w w' := by
  go_enter Try.func4, Try.ntmps4
  go_wp2
  go_ret
  exact ⟨rfl, Grown.refl _⟩

theorem at_small (b c a : Int) (j : Nat) (w : World) (ha : (a == 9223372036854775807) = false) (hb : b < -4611686018427387904) :
    Calls Try.prog 4 #[.int .i64 b, .int .i64 c, .float .f64 j, .int .i64 a] w fun e w' => e = .returned (.bool true) ∧ Grown w w' := by
  have hb' : decide (4611686018427387903 < b) = false := by simp; omega
  go_enter Try.func4, Try.ntmps4
  go_wp2
  go_ret
  exact ⟨rfl, Grown.refl _⟩

set_option maxHeartbeats 400000 in
theorem below_zero (b c a : Int) (j : Nat) (w : World) (hcm : c ≤ 9223372036854775807) (ha0 : -9223372036854775808 ≤ a) (ha1 : a < 1) (hb1 : b ≤ 4611686018427387903) (hb2 : -4611686018427387904 ≤ b)
    (hz : (decide (b ≤ 0) || decide (c ≤ 0)) = true) (e1 : dblF b c a = 0) (e2 : dblF b c 1 = 0) :
    Calls Try.prog 4 #[.int .i64 b, .int .i64 c, .float .f64 j, .int .i64 a] w fun e w' => e = .returned (.bool true) ∧ Grown w w' := by
  have ha : (a == 9223372036854775807) = false := by simp; omega
  have k1 : decide (4611686018427387903 < b) = false := by simp; omega
  have k2 : decide (b < -4611686018427387904) = false := by simp; omega
  by_cases hb : b ≤ 0
  · clear hz
    go_enter Try.func4, Try.ntmps4
    go_wp2_with fail
    refine (zz_any _ _ _ _ _ hcm (by omega)).mono ?_
    rintro e w1 ⟨rfl, g1⟩
    go_wp2_with fail
    refine (zz_any _ _ _ _ _ hcm (by omega)).mono ?_
    rintro e w2 ⟨rfl, g2⟩
    go_wp2
    go_ret
    exact ⟨rfl, grown_trans g1 g2⟩
  · have hb' : decide (b ≤ 0) = false := by simpa using hb
    have hc : c ≤ 0 := by simpa [hb'] using hz
    clear hz
    go_enter Try.func4, Try.ntmps4
    go_wp2_with fail
    refine (zz_any _ _ _ _ _ hcm (by omega)).mono ?_
    rintro e w1 ⟨rfl, g1⟩
    go_wp2_with fail
    refine (zz_any _ _ _ _ _ hcm (by omega)).mono ?_
    rintro e w2 ⟨rfl, g2⟩
    go_wp2
    go_ret
    exact ⟨rfl, grown_trans g1 g2⟩

set_option maxHeartbeats 400000 in
theorem below_pos (b c a : Int) (j : Nat) (w : World) (hcm : c ≤ 9223372036854775807) (ha0 : -9223372036854775808 ≤ a) (ha1 : a < 1) (hb1 : b ≤ 4611686018427387903) (hb2 : 0 < b) (hc : 0 < c)
    (v m : Int) (e1 : dblF b c a = v) (e2 : dblF b c 1 = v) (em : mnF b c = m) (r1 : m ≤ v) (r2 : v ≤ c) :
    Calls Try.prog 4 #[.int .i64 b, .int .i64 c, .float .f64 j, .int .i64 a] w fun e w' => e = .returned (.bool true) ∧ Grown w w' := by
  have ha : (a == 9223372036854775807) = false := by simp; omega
  have k1 : decide (4611686018427387903 < b) = false := by simp; omega
  have k2 : decide (b < -4611686018427387904) = false := by simp; omega
  have k3 : decide (b ≤ 0) = false := by simp; omega
  have k4 : decide (c ≤ 0) = false := by simp; omega
  go_enter Try.func4, Try.ntmps4
  go_wp2_with fail
  refine (zz_any _ _ _ _ _ hcm (by omega)).mono ?_
  rintro e w1 ⟨rfl, g1⟩
  go_wp2_with fail
  refine (zz_any _ _ _ _ _ hcm (by omega)).mono ?_
  rintro e w2 ⟨rfl, g2⟩
  go_wp2_with (go_at_call 6; refine (mn_any _ _ _).mono ?_; rintro e w3 ⟨rfl, rfl⟩)
  go_ret
  exact ⟨rfl, grown_trans g1 g2⟩

set_option maxHeartbeats 400000 in
theorem from_zero (b c a : Int) (j : Nat) (w : World) (hcm : c ≤ 9223372036854775807) (ha1 : 1 ≤ a) (ha2 : a < 9223372036854775807) (hb1 : b ≤ 4611686018427387903) (hb2 : -4611686018427387904 ≤ b)
    (hz : (decide (b ≤ 0) || decide (c ≤ 0)) = true) (e1 : dblF b c a = 0) (e2 : dblF b c (a + 1) = 0) (e3 : dblF (b + b) c a = 0) :
    Calls Try.prog 4 #[.int .i64 b, .int .i64 c, .float .f64 j, .int .i64 a] w fun e w' => e = .returned (.bool true) ∧ Grown w w' := by
  have ha : (a == 9223372036854775807) = false := by simp; omega
  have k0 : decide (a < 1) = false := by simp; omega
  have k1 : decide (4611686018427387903 < b) = false := by simp; omega
  have k2 : decide (b < -4611686018427387904) = false := by simp; omega
  by_cases hb : b ≤ 0
  · clear hz
    go_enter Try.func4, Try.ntmps4
    go_wp2_with fail
    refine (zz_any _ _ _ _ _ hcm (by omega)).mono ?_
    rintro e w1 ⟨rfl, g1⟩
    go_wp2_with fail
    refine (zz_any _ _ _ _ _ hcm (by omega)).mono ?_
    rintro e w2 ⟨rfl, g2⟩
    go_wp2_with fail
    refine (zz_any _ _ _ _ _ hcm (by omega)).mono ?_
    rintro e w3 ⟨rfl, g3⟩
    go_wp2
    go_ret
    exact ⟨rfl, grown_trans (grown_trans g1 g2) g3⟩
  · have hb' : decide (b ≤ 0) = false := by simpa using hb
    have hc : c ≤ 0 := by simpa [hb'] using hz
    clear hz
    go_enter Try.func4, Try.ntmps4
    go_wp2_with fail
    refine (zz_any _ _ _ _ _ hcm (by omega)).mono ?_
    rintro e w1 ⟨rfl, g1⟩
    go_wp2_with fail
    refine (zz_any _ _ _ _ _ hcm (by omega)).mono ?_
    rintro e w2 ⟨rfl, g2⟩
    go_wp2_with fail
    refine (zz_any _ _ _ _ _ hcm (by omega)).mono ?_
    rintro e w3 ⟨rfl, g3⟩
    go_wp2
    go_ret
    exact ⟨rfl, grown_trans (grown_trans g1 g2) g3⟩

set_option maxHeartbeats 400000 in
theorem from_pos (b c a : Int) (j : Nat) (w : World) (hcm : c ≤ 9223372036854775807) (ha1 : 1 ≤ a) (ha2 : a < 9223372036854775807) (hb1 : b ≤ 4611686018427387903) (hb2 : 0 < b) (hc : 0 < c)
    (v u m : Int) (e1 : dblF b c a = v) (e2 : dblF b c (a + 1) = u) (e3 : dblF (b + b) c a = u) (em : mnF b c = m) (r1 : m ≤ v) (r2 : v ≤ c) :
    Calls Try.prog 4 #[.int .i64 b, .int .i64 c, .float .f64 j, .int .i64 a] w fun e w' => e = .returned (.bool true) ∧ Grown w w' := by
  have ha : (a == 9223372036854775807) = false := by simp; omega
  have k0 : decide (a < 1) = false := by simp; omega
  have k1 : decide (4611686018427387903 < b) = false := by simp; omega
  have k2 : decide (b < -4611686018427387904) = false := by simp; omega
  have k3 : decide (b ≤ 0) = false := by simp; omega
  have k4 : decide (c ≤ 0) = false := by simp; omega
  go_enter Try.func4, Try.ntmps4
  go_wp2_with fail
  refine (zz_any _ _ _ _ _ hcm (by omega)).mono ?_
  rintro e w1 ⟨rfl, g1⟩
  go_wp2_with fail
  refine (zz_any _ _ _ _ _ hcm (by omega)).mono ?_
  rintro e w2 ⟨rfl, g2⟩
  go_wp2_with fail
  refine (zz_any _ _ _ _ _ hcm (by omega)).mono ?_
  rintro e w3 ⟨rfl, g3⟩
  go_wp2_with (go_at_call 6; refine (mn_any _ _ _).mono ?_; rintro e w4 ⟨rfl, rfl⟩)
  go_ret
  exact ⟨rfl, grown_trans (grown_trans g1 g2) g3⟩

theorem walk (b c a : Int) (j : Nat) (w : World) (hcm : c ≤ 9223372036854775807) (ha0 : -9223372036854775808 ≤ a) (ha2 : a ≤ 9223372036854775807) :
    Calls Try.prog 4 #[.int .i64 b, .int .i64 c, .float .f64 j, .int .i64 a] w fun e w' => e = .returned (.bool true) ∧ Grown w w' := by
  by_cases hM : a = 9223372036854775807
  · exact at_max b c a j w (by simpa using hM)
  by_cases h1 : 4611686018427387903 < b
  · exact at_big b c a j w (by simpa using hM) h1
  by_cases h2 : b < -4611686018427387904
  · exact at_small b c a j w (by simpa using hM) h2
  by_cases h : b ≤ 0 ∨ c ≤ 0
  · by_cases h3 : a < 1
    · exact below_zero b c a j w hcm ha0 h3 (by omega) (by omega) (by simpa using h) (dblF_zero _ _ _ h) (dblF_zero _ _ _ h)
    · exact from_zero b c a j w hcm (by omega) (by omega) (by omega) (by omega) (by simpa using h) (dblF_zero _ _ _ h) (dblF_zero _ _ _ h) (dblF_zero _ _ _ (by omega))
  have hr := dblF_range b c a (by omega) (by omega)
  by_cases h3 : a < 1
  · exact below_pos b c a j w hcm ha0 h3 (by omega) (by omega) (by omega) _ _ rfl ((dblF_low b c 1 (by omega) (by omega) (by omega)).trans (dblF_low b c a (by omega) (by omega) (by omega)).symm) rfl hr.1 hr.2.1
  · exact from_pos b c a j w hcm (by omega) (by omega) (by omega) (by omega) (by omega) _ _ _ rfl (dblF_twice b c a (by omega) (by omega) hcm (by omega)) rfl rfl hr.1 hr.2.1

theorem own : ownKnob Try.prog.godebug = none := by kernel_rfl
theorem bounds_of_wf {x : Int} (h : (Lit.int .i64 x).wf = true) : -9223372036854775808 ≤ x ∧ x ≤ 9223372036854775807 := by
  simp [Lit.wf, IntKind.min, IntKind.max, IntKind.signed, IntKind.bits] at h
  exact ⟨by omega, by omega⟩

set_option maxRecDepth 100000 in
theorem lifted (os : Os) (started : os.Started) (H : Type) (enc : TypeId × Value → H) :
    ReturnsInHanded {} Try.checked os 4 .any (Rows.fnDoubledNextAttemptIsDoubleBaseSpec.pre6 enc Try.prog Try.f4 Rows.fnDoubledNextAttemptIsDoubleBaseRow.domain false) (Rows.fnDoubledNextAttemptIsDoubleBaseSpec.post enc Try.prog Try.f4 false true false false) := by
  refine returnsInHanded_of_change (C := Try.checked) own started (by kernel_rfl) Try.func4
    (ChangeSpec.witness6 (enc := enc) (C := Try.checked) false ⟨#[], #[.int .i64 0, .int .i64 0, .float .f64 0, .int .i64 0], []⟩ 8 (by kernel_rfl) (by kernel_rfl) (by kernel_rfl) (by kernel_rfl)) ?_
  intro W base args ds gs before hval0 hW hcnd _
  have hval : ∀ (j : Nat) t v, Try.f4.params[j]? = some t → args[j]? = some v → Value.okWide Try.prog W .any base t v := hval0
  have hW' := hW
  obtain ⟨p, q, hA0, hV, rfl, hfz, hnd⟩ := hW
  have hA : DataW.TrodAll enc Try.prog W 0 (fun _ => true) true Try.f4.params.toList args.toList ds p := hA0
  rw [Try.params4] at hA hval
  obtain ⟨v0, v1, v2, v3, d0, d1, d2, d3, p0, p1, p2, p3, rfl, rfl, rfl, h0, h1, h2, h3⟩ := trodAll_four hA
  obtain ⟨rfl, rfl⟩ := trodVars_none hV
  obtain ⟨b, rfl, rfl, rfl, w0⟩ := open_int Try.underlying2 (hval 0 2 v0 rfl rfl) h0
  obtain ⟨c, rfl, rfl, rfl, w1⟩ := open_int Try.underlying2 (hval 1 2 v1 rfl rfl) h1
  obtain ⟨j, rfl, rfl, rfl, w2⟩ := open_float Try.underlying22 (hval 2 22 v2 rfl rfl) h2
  obtain ⟨a, rfl, rfl, rfl, w3⟩ := open_int Try.underlying3 (hval 3 3 v3 rfl rfl) h3
  clear hA0 hval0
  simp only [List.append_nil] at hW'
  refine (walk b c a j W (bounds_of_wf w1).2 (bounds_of_wf w3).1 (bounds_of_wf w3).2).mono fun e W' ⟨he, hg⟩ => ?_
  subst he
  exact ⟨_, rfl, post_of_same (pa := []) (pv := []) hW' (fun _ _ _ => trodAll_mk1 (shut_bool Try.underlying4 _)) (fun sp _ => trodAll_mk4 (shut_int Try.underlying2 w0) (shut_int Try.underlying2 w1) (shut_float Try.underlying22 w2) (shut_int Try.underlying3 w3)) (fun _ _ => rfl) rfl
    (hg.frame _) hg.2.1 (ok_one (by kernel_rfl) rfl (okWide_bool_mk Try.underlying4 _))⟩
end Twice

theorem twice_holds : Rows.FnDoubledNextAttemptIsDoubleBaseSaid :=
  OpenClaim.holds_of_wide 4 Try.f4 rfl rfl rfl rfl rfl rfl rfl ⟨rfl, rfl, rfl, rfl, rfl⟩ rfl rfl rfl rfl rfl (by kernel_rfl) Try.func4 (by kernel_rfl)
    (of_decide_eq_true (by kernel_rfl)) (by unfold Func.isWrapper; first | (rw [if_pos (by decide +kernel)]; kernel_rfl) | (rw [if_neg (by decide +kernel)]; exact ⟨rfl, rfl⟩))
    (fun os started H enc _ => Twice.lifted os started H enc)
end Go.Proofs.Qxb6626883a
