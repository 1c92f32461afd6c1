/- 'zzDigitAt', 'zzMagCmp', 'zzModelCmp' -/
import Derived.Test.Qxb6627213aOrdPlain
namespace Go.Proofs.Qxb6627213a
open Go.RowKit

theorem dAt_zero_low {a : ByteArray} {s p : Int} (h : (a.size : Int) - 1 - s - p < 0) : dAt a s p = 0 := dI_neg _ h
theorem dAt_zero_high {a : ByteArray} {s p : Int} (h : (a.size : Int) ≤ (a.size : Int) - 1 - s - p) : dAt a s p = 0 := dI_past _ (by rw [← size_list]; exact h)

set_option maxHeartbeats 400000 in
theorem digit_low (a : ByteArray) (s p : Int) (w : World) (ha : a.size ≤ 524288) (s1 : -65536 ≤ s) (s2 : s ≤ 65536) (p1 : -2097152 ≤ p) (p2 : p ≤ 2097152) (h : (a.size : Int) - 1 - s - p < 0) :
    Calls Try.prog 21 #[.string a, .int .i64 s, .int .i64 p] w fun e w' => e = .returned (.int .i64 (dAt a s p)) ∧ w = w' := by
  rw [dAt_zero_low h]
  go_enter Try.func21, Try.ntmps21
  go_wp2
  go_ret
  exact ⟨rfl, rfl⟩
set_option maxHeartbeats 400000 in
theorem digit_high (a : ByteArray) (s p : Int) (w : World) (ha : a.size ≤ 524288) (s1 : -65536 ≤ s) (s2 : s ≤ 65536) (p1 : -2097152 ≤ p) (p2 : p ≤ 2097152) (h : (a.size : Int) ≤ (a.size : Int) - 1 - s - p) :
    Calls Try.prog 21 #[.string a, .int .i64 s, .int .i64 p] w fun e w' => e = .returned (.int .i64 (dAt a s p)) ∧ w = w' := by
  rw [dAt_zero_high h]
  have h0 : decide ((a.size : Int) - 1 - s - p < 0) = false := by simp; omega
  go_enter Try.func21, Try.ntmps21
  go_wp2
  go_ret
  exact ⟨rfl, rfl⟩
theorem dAt_in {a : ByteArray} {s p : Int} (hd : Dig a.data.toList) (h1 : 0 ≤ (a.size : Int) - 1 - s - p) (h : ((a.size : Int) - 1 - s - p).toNat < a.size) :
    (((a[((a.size : Int) - 1 - s - p).toNat]'h).toNat : Int) - 48) % 256 = dAt a s p := by
  have g : a.data.toList[((a.size : Int) - 1 - s - p).toNat]? = some (a[((a.size : Int) - 1 - s - p).toNat]'h) := by
    rw [List.getElem?_eq_getElem (by rw [← size_list]; exact h)]
    rfl
  have d := hd _ (List.mem_of_getElem? g)
  unfold dAt dI
  rw [if_neg (by omega)]
  unfold dN
  rw [g]
  simp only
  omega

set_option maxHeartbeats 400000 in
theorem digit_in (a : ByteArray) (s p : Int) (w : World) (ha : a.size ≤ 524288) (hd : Dig a.data.toList) (s1 : -65536 ≤ s) (s2 : s ≤ 65536) (p1 : -2097152 ≤ p) (p2 : p ≤ 2097152) (h1 : 0 ≤ (a.size : Int) - 1 - s - p) (h2 : (a.size : Int) - 1 - s - p < a.size) :
    Calls Try.prog 21 #[.string a, .int .i64 s, .int .i64 p] w fun e w' => e = .returned (.int .i64 (dAt a s p)) ∧ w = w' := by
  have h0 : decide ((a.size : Int) - 1 - s - p < 0) = false := by simp; omega
  have h0' : decide ((a.size : Int) ≤ (a.size : Int) - 1 - s - p) = false := by simp; omega
  go_enter Try.func21, Try.ntmps21
  go_wp2
  go_ret
  exact ⟨ret_i64 (dAt_in hd h1 _), rfl⟩

theorem digit_any (a : ByteArray) (s p : Int) (w : World) (ha : a.size ≤ 524288) (hd : Dig a.data.toList) (s1 : -65536 ≤ s) (s2 : s ≤ 65536) (p1 : -2097152 ≤ p) (p2 : p ≤ 2097152) :
    Calls Try.prog 21 #[.string a, .int .i64 s, .int .i64 p] w fun e w' => e = .returned (.int .i64 (dAt a s p)) ∧ w = w' := by
  by_cases h1 : (a.size : Int) - 1 - s - p < 0
  · exact digit_low a s p w ha s1 s2 p1 p2 h1
  · by_cases h2 : (a.size : Int) ≤ (a.size : Int) - 1 - s - p
    · exact digit_high a s p w ha s1 s2 p1 p2 h2
    · exact digit_in a s p w ha hd s1 s2 p1 p2 (by omega) (by omega)

set_option maxHeartbeats 1000000 in
theorem magCmp_any (a b : ByteArray) (s t : Int) (w : World) (ha : a.size ≤ 524288) (hb : b.size ≤ 524288) (hA : CanL a.data.toList) (hB : CanL b.data.toList) (s1 : -65536 ≤ s) (s2 : s ≤ 65536) (t1 : -65536 ≤ t) (t2 : t ≤ 65536) :
    Calls Try.prog 14 #[.string a, .int .i64 s, .string b, .int .i64 t] w fun e w' => e = .returned (.int .i64 (ordM a s b t)) ∧ w = w' := by
  by_cases h1 : (a.size : Int) - 1 - s < (b.size : Int) - 1 - t
  all_goals
    by_cases h2 : -t < -s
    all_goals
      go_enter Try.func14, Try.ntmps14
      go_wp2
      go_loop [12] (fun i => ∃ p : Int, -131073 ≤ p ∧ p ≤ 1048576 ∧ i = .int .i64 p ∧ above a s b t p) (fun i => (intOf i + 2097152).toNat)
      case atStart => exact ⟨_, by omega, by omega, rfl, above_start (by omega) (by omega)⟩
      case round =>
        obtain ⟨p, p1, p2, rfl, hab⟩ := hrel
        go_wp2_with (first | (go_at_call 21; go_must (refine (digit_any _ _ _ _ (by omega) (by first | exact hA.dig | exact hB.dig) (by omega) (by omega) (by omega) (by omega)).mono ?_; rintro e w' ⟨rfl, rfl⟩)))
        · go_ret
          exact ⟨ret_i64 (ord_lt hA hB hab ‹dAt a s p < dAt b t p›).symm, rfl⟩
        · go_ret
          exact ⟨ret_i64 (ord_gt hA hB hab ‹dAt b t p < dAt a s p›).symm, rfl⟩
        · go_round
          case rel => exact ⟨p - 1, by omega, by omega, rfl, above_step hab (by omega)⟩
          case measure => simp [intOf]; omega
        · go_ret
          exact ⟨ret_i64 (ord_eq hA hB (above_end hab (by omega) (by omega))).symm, rfl⟩

theorem magB_size_le (u : ByteArray) (h : u.size ≤ 524288) : (magB u).size ≤ 524288 := Nat.le_trans (magB_le u) h

set_option maxHeartbeats 400000 in
theorem model_lt (u v : ByteArray) (s t : Int) (w : World) (h : sgnB u < sgnB v) :
    Calls Try.prog 8 #[.string u, .int .i64 s, .string v, .int .i64 t] w fun e w' => e = .returned (.int .i64 (cmpB u s v t)) ∧ w = w' := by
  have hc : cmpB u s v t = -1 := by unfold cmpB Lib.compareInt; rw [if_neg (by omega), if_pos h]
  rw [hc]
  clear hc
  go_enter Try.func8, Try.ntmps8
  go_wp2_with (first | (go_at_call 13; refine (signOf_any _ _).mono ?_; rintro e w' ⟨rfl, rfl⟩))
  go_ret
  exact ⟨rfl, rfl⟩
set_option maxHeartbeats 400000 in
theorem model_gt (u v : ByteArray) (s t : Int) (w : World) (h : sgnB v < sgnB u) :
    Calls Try.prog 8 #[.string u, .int .i64 s, .string v, .int .i64 t] w fun e w' => e = .returned (.int .i64 (cmpB u s v t)) ∧ w = w' := by
  have hc : cmpB u s v t = 1 := by unfold cmpB Lib.compareInt; rw [if_neg (by omega), if_neg (by omega), if_pos h]
  rw [hc]
  clear hc
  go_enter Try.func8, Try.ntmps8
  go_wp2_with (first | (go_at_call 13; refine (signOf_any _ _).mono ?_; rintro e w' ⟨rfl, rfl⟩))
  go_ret
  exact ⟨rfl, rfl⟩
set_option maxHeartbeats 400000 in
theorem model_zero (u v : ByteArray) (s t : Int) (w : World) (h : ¬ sgnB u < sgnB v) (h' : ¬ sgnB v < sgnB u) (h0 : (sgnB u == 0) = true) :
    Calls Try.prog 8 #[.string u, .int .i64 s, .string v, .int .i64 t] w fun e w' => e = .returned (.int .i64 (cmpB u s v t)) ∧ w = w' := by
  have hc : cmpB u s v t = 0 := by
    have g : sgnB u = 0 := by simpa using h0
    unfold cmpB Lib.compareInt
    rw [if_neg (fun x => x.2 g), if_neg h, if_neg h']
  rw [hc]
  clear hc
  go_enter Try.func8, Try.ntmps8
  go_wp2_with (first | (go_at_call 13; refine (signOf_any _ _).mono ?_; rintro e w' ⟨rfl, rfl⟩))
  go_ret
  exact ⟨rfl, rfl⟩
set_option maxHeartbeats 400000 in
theorem model_same (u v : ByteArray) (s t : Int) (w : World) (hu : u.size ≤ 524288) (hv : v.size ≤ 524288) (hC : Canon u s) (hC' : Canon v t) (s1 : -65536 ≤ s) (s2 : s ≤ 65536) (t1 : -65536 ≤ t) (t2 : t ≤ 65536) (h : ¬ sgnB u < sgnB v) (h' : ¬ sgnB v < sgnB u) (h0 : (sgnB u == 0) = false) :
    Calls Try.prog 8 #[.string u, .int .i64 s, .string v, .int .i64 t] w fun e w' => e = .returned (.int .i64 (cmpB u s v t)) ∧ w = w' := by
  have g0 : sgnB u ≠ 0 := by simpa using h0
  have hc : cmpB u s v t = sgnB u * ordM (magB u) s (magB v) t := by
    unfold cmpB ordM
    rw [if_pos ⟨by omega, g0⟩]
  have hA := canL_of hC g0
  have hB := canL_of hC' (by omega)
  have n1 := sgnB_three u
  have n2 := orI_three (compareInt_three ((magB u).size - s) ((magB v).size - t)) (compareBytes_three (magB u).data.toList (magB v).data.toList)
  have HW : Hid (wrap64 (sgnB u * ordM (magB u) s (magB v) t) = sgnB u * ordM (magB u) s (magB v) t) := wrap_mul_small n1 n2
  rw [hc]
  clear hc hC hC' n1 n2 g0
  go_enter Try.func8, Try.ntmps8
  go_wp2_with (first | (go_at_call 13; refine (signOf_any _ _).mono ?_; rintro e w' ⟨rfl, rfl⟩) | (go_at_call 15; refine (mag_any _ _).mono ?_; rintro e w' ⟨rfl, rfl⟩) | (go_at_call 14; refine (magCmp_any _ _ _ _ _ (magB_size_le u hu) (magB_size_le v hv) hA hB s1 s2 t1 t2).mono ?_; rintro e w' ⟨rfl, rfl⟩))
  go_ret
  exact ⟨ret_i64 HW.out, rfl⟩
theorem model_any (u v : ByteArray) (s t : Int) (w : World) (hu : u.size ≤ 524288) (hv : v.size ≤ 524288) (hC : Canon u s) (hC' : Canon v t) (s1 : -65536 ≤ s) (s2 : s ≤ 65536) (t1 : -65536 ≤ t) (t2 : t ≤ 65536) :
    Calls Try.prog 8 #[.string u, .int .i64 s, .string v, .int .i64 t] w fun e w' => e = .returned (.int .i64 (cmpB u s v t)) ∧ w = w' := by
  by_cases h : sgnB u < sgnB v
  · exact model_lt u v s t w h
  by_cases h' : sgnB v < sgnB u
  · exact model_gt u v s t w h'
  by_cases h0 : sgnB u = 0
  · exact model_zero u v s t w h h' (by simpa using h0)
  · exact model_same u v s t w hu hv hC hC' s1 s2 t1 t2 h h' (by simpa using h0)
end Go.Proofs.Qxb6627213a
