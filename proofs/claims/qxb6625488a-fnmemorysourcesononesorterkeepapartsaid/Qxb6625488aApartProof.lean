/- THE LAW 'FnMemorySourcesOnOneSorterKeepApart': the ways that return at once, and the row. -/
import Derived.Test.Qxb6625488aApart
import Derived.Test.Qxb6625488aExtOpen
import Derived.ProofKit
import Derived.OpenShut
namespace Go.Proofs.Qxb6625488a
open Go.ChangeShapes Go.WideShapes Go.ChangeAt Go.RowKit
namespace Apart

set_option maxRecDepth 100000 in
set_option maxHeartbeats 400000 in
theorem e1 (ao ro : Option Addr) (an ac n rc : Nat) (rd : Int) (w : World) (ha : an ≤ 9223372036854775807) (hn : n ≤ 9223372036854775807) (hd : decide (an + n ≤ 1048576) = false)  :
    Calls Try.prog 4 #[.slice ao an ac, .slice ro n rc, .int .i64 rd] w fun e w' => e = .returned (.bool true) ∧ Below w.heap.size w w' := by
  go_enter Try.func4, Try.ntmps4
  go_wp2_with (go_at_call 13; refine (bytesB_any _ _ _ _ _ _ _ _ ha hn).mono ?_; rintro e w' ⟨rfl, rfl⟩)
  go_ret
  exact ⟨rfl, Below.refl _ _⟩
set_option maxRecDepth 100000 in
set_option maxHeartbeats 400000 in
theorem e2 (ao ro : Option Addr) (an ac n rc : Nat) (rd : Int) (w : World) (ha : an ≤ 9223372036854775807) (hn : n ≤ 9223372036854775807) (hd : decide (an + n ≤ 1048576) = true) (h : 524288 < an) :
    Calls Try.prog 4 #[.slice ao an ac, .slice ro n rc, .int .i64 rd] w fun e w' => e = .returned (.bool true) ∧ Below w.heap.size w w' := by
  go_enter Try.func4, Try.ntmps4
  go_wp2_with (go_at_call 13; refine (bytesB_any _ _ _ _ _ _ _ _ ha hn).mono ?_; rintro e w' ⟨rfl, rfl⟩)
  go_ret
  exact ⟨rfl, Below.refl _ _⟩
set_option maxRecDepth 100000 in
set_option maxHeartbeats 400000 in
theorem e3 (ao ro : Option Addr) (an ac n rc : Nat) (rd : Int) (w : World) (ha : an ≤ 9223372036854775807) (hn : n ≤ 9223372036854775807) (hd : decide (an + n ≤ 1048576) = true) (h1 : an ≤ 524288) (h : 16384 < n) :
    Calls Try.prog 4 #[.slice ao an ac, .slice ro n rc, .int .i64 rd] w fun e w' => e = .returned (.bool true) ∧ Below w.heap.size w w' := by
  have d1 : decide (524288 < (an : Int)) = false := by simp; omega
  go_enter Try.func4, Try.ntmps4
  go_wp2_with (go_at_call 13; refine (bytesB_any _ _ _ _ _ _ _ _ ha hn).mono ?_; rintro e w' ⟨rfl, rfl⟩)
  go_ret
  exact ⟨rfl, Below.refl _ _⟩
set_option maxRecDepth 100000 in
set_option maxHeartbeats 400000 in
theorem e4 (ao ro : Option Addr) (an ac n rc : Nat) (rd : Int) (w : World) (ha : an ≤ 9223372036854775807) (hn : n ≤ 9223372036854775807) (hd : decide (an + n ≤ 1048576) = true) (h1 : an ≤ 524288) (h2 : n ≤ 16384) (h : rd < 0) :
    Calls Try.prog 4 #[.slice ao an ac, .slice ro n rc, .int .i64 rd] w fun e w' => e = .returned (.bool true) ∧ Below w.heap.size w w' := by
  have d1 : decide (524288 < (an : Int)) = false := by simp; omega
  have d2 : decide (16384 < (n : Int)) = false := by simp; omega
  go_enter Try.func4, Try.ntmps4
  go_wp2_with (go_at_call 13; refine (bytesB_any _ _ _ _ _ _ _ _ ha hn).mono ?_; rintro e w' ⟨rfl, rfl⟩)
  go_ret
  exact ⟨rfl, Below.refl _ _⟩
set_option maxRecDepth 100000 in
set_option maxHeartbeats 400000 in
theorem e5 (ao ro : Option Addr) (an ac n rc : Nat) (rd : Int) (w : World) (ha : an ≤ 9223372036854775807) (hn : n ≤ 9223372036854775807) (hd : decide (an + n ≤ 1048576) = true) (h1 : an ≤ 524288) (h2 : n ≤ 16384) (h : (n : Int) < rd) :
    Calls Try.prog 4 #[.slice ao an ac, .slice ro n rc, .int .i64 rd] w fun e w' => e = .returned (.bool true) ∧ Below w.heap.size w w' := by
  have d1 : decide (524288 < (an : Int)) = false := by simp; omega
  have d2 : decide (16384 < (n : Int)) = false := by simp; omega
  have d3 : decide (rd < 0) = false := by simp; omega
  go_enter Try.func4, Try.ntmps4
  go_wp2_with (go_at_call 13; refine (bytesB_any _ _ _ _ _ _ _ _ ha hn).mono ?_; rintro e w' ⟨rfl, rfl⟩)
  go_ret
  exact ⟨rfl, Below.refl _ _⟩

theorem walk (ao ro : Option Addr) (an ac n rc : Nat) (rd : Int) (A : Nat → Int) (R : Nat → Rf) (w : World) (ha : an ≤ maxLen) (hn : n ≤ maxLen) (hac : an ≤ ac) (hnil : ao = none → an = 0 ∧ ac = 0)
    (hA : seesB w ao an A) (hR : seesR w ro n R) (hok : ∀ i, i < n → (R i).Ok) :
    Calls Try.prog 4 #[.slice ao an ac, .slice ro n rc, .int .i64 rd] w fun e w' => e = .returned (.bool true) ∧ Below w.heap.size w w' := by
  unfold maxLen at ha hn
  cases hd : decide (an + n ≤ 1048576) with
  | false => exact e1 ao ro an ac n rc rd w (by omega) (by omega) hd
  | true =>
    by_cases h1 : 524288 < an
    · exact e2 ao ro an ac n rc rd w (by omega) (by omega) hd h1
    by_cases h2 : 16384 < n
    · exact e3 ao ro an ac n rc rd w (by omega) (by omega) hd (by omega) h2
    by_cases h3 : rd < 0
    · exact e4 ao ro an ac n rc rd w (by omega) (by omega) hd (by omega) (by omega) h3
    by_cases h4 : (n : Int) < rd
    · exact e5 ao ro an ac n rc rd w (by omega) (by omega) hd (by omega) (by omega) h4
    obtain ⟨m, rfl⟩ := Int.eq_ofNat_of_zero_le (show 0 ≤ rd by omega)
    exact main ao ro an ac n rc m A R w (by omega) hac (by omega) (by omega) hnil hA hR hok

theorem own : ownKnob Try.prog.godebug = none := by kernel_rfl
theorem laidOut : laidOutB Try.prog = true := by kernel_rfl

set_option maxRecDepth 100000 in
theorem lifted (os : Os) (started : os.Started) (H : Type) (enc : TypeId × Value → H) :
    ReturnsInHanded {} Try.checked os 4 .any (Rows.fnMemorySourcesOnOneSorterKeepApartSpec.pre6 enc Try.prog Try.f4 Rows.fnMemorySourcesOnOneSorterKeepApartRow.domain false) (Rows.fnMemorySourcesOnOneSorterKeepApartSpec.post enc Try.prog Try.f4 false true false false) := by
  refine returnsInHanded_of_change (C := Try.checked) own started (by kernel_rfl) Try.func4
    (ChangeSpec.witness6 (enc := enc) (C := Try.checked) false ⟨#[], #[.slice none 0 0, .slice none 0 0, .int .i64 0], []⟩ 8 (by kernel_rfl) (by kernel_rfl) (by kernel_rfl) (by kernel_rfl)) ?_
  intro W base args ds gs before hval0 hW hcnd _
  have hval : ∀ (j : Nat) t v, Try.f4.params[j]? = some t → args[j]? = some v → Value.okWide Try.prog W .any base t v := hval0
  have hW' := hW
  obtain ⟨p, q, hA0, hV, rfl, hfz, hnd⟩ := hW
  have hA : DataW.TrodAll enc Try.prog W 0 (fun _ => true) true Try.f4.params.toList args.toList ds p := hA0
  rw [Try.params4] at hA hval
  obtain ⟨v0, vs0, d0, ds0, p0, q0, hargs, rfl, rfl, h0, r0⟩ := trodAll_cons hA
  obtain ⟨v1, vs1, d1, ds1, p1, q1, rfl, rfl, rfl, h1, r1⟩ := trodAll_cons r0
  obtain ⟨v2, vs2, d2, ds2, p2, q2, rfl, rfl, rfl, h2, r2⟩ := trodAll_cons r1
  obtain ⟨rfl, rfl, rfl⟩ := trodAll_nil r2
  obtain rfl : args = #[v0, v1, v2] := by cases args; simp_all
  obtain ⟨rfl, rfl⟩ := trodVars_none hV
  have lt0 : ∀ x ∈ p0, x.block < W.heap.size := by obtain ⟨m, hm⟩ := h0; exact DataW.trod_lt m _ _ _ hm
  have lt1 : ∀ x ∈ p1, x.block < W.heap.size := by obtain ⟨m, hm⟩ := h1; exact DataW.trod_lt m _ _ _ hm
  obtain ⟨ao, an, ac, A, rfl, hac, hcm, hnil, hSA⟩ := viewB (hval 0 22 v0 rfl rfl) h0
  obtain ⟨ro, n, rc, R, rfl, hnm, hSR, hok⟩ := viewR (hval 1 23 v1 rfl rfl) h1
  obtain ⟨a2, rfl, rfl, rfl, w2⟩ := open_int Try.underlying3 (hval 2 3 v2 rfl rfl) h2
  clear hA0 hval0
  refine (walk ao ro an ac n rc a2 A R W (Nat.le_trans hac hcm) hnm hac hnil hSA hSR hok).mono fun e W' ⟨he, bel⟩ => ?_
  subst he
  exact ⟨_, rfl, _, _, _, [], _, [], hW', trodAll_mk1 (shut_bool Try.underlying4 _), (trodAll_cons_mk (Below.trod laidOut (by kernel_rfl) (of_decide_eq_true (by kernel_rfl)) h0 bel lt0) (trodAll_cons_mk (Below.trod laidOut (by kernel_rfl) (of_decide_eq_true (by kernel_rfl)) h1 bel lt1) (trodAll_cons_mk (shut_int Try.underlying3 w2) trodAll_mk0))), rfl, bel.frame _, fun h => by cases h⟩
end Apart

theorem apart_holds : Rows.FnMemorySourcesOnOneSorterKeepApartSaid :=
  OpenClaim.holds_of_wide 4 Try.f4 rfl rfl rfl rfl rfl rfl rfl ⟨rfl, rfl, rfl, rfl, rfl⟩ rfl rfl rfl rfl rfl (by kernel_rfl) Try.func4 (by kernel_rfl)
    (of_decide_eq_true (by kernel_rfl)) (by unfold Func.isWrapper; first | (rw [if_pos (by decide +kernel)]; kernel_rfl) | (rw [if_neg (by decide +kernel)]; exact ⟨rfl, rfl⟩))
    (fun os started H enc _ => Apart.lifted os started H enc)
end Go.Proofs.Qxb6625488a
