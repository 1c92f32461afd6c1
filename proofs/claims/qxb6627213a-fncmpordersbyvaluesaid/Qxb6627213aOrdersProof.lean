/- THE LAW 'FnCmpOrdersByValue': its walk out of the callees' contracts, and the row. -/
import Derived.Test.Qxb6627213aOrdWalks
import Derived.ProofKit
import Derived.OpenShut
namespace Go.Proofs.Qxb6627213a
open Go.ChangeShapes Go.WideShapes Go.ChangeAt Go.RowKit
namespace Orders

/-- A Decimal lies in block g. -/
def dec (w : World) (g : Nat) (u : ByteArray) (s : Int) : Prop := w.cell? ⟨g, 0, none⟩ = some (.string u) ∧ w.cell? ⟨g, 1, none⟩ = some (.int .i64 s)
theorem dec_below {B g : Nat} {w w' : World} {u : ByteArray} {s : Int} (h : dec w g u s) (hb : Below B w w') (hg : g < B) : dec w' g u s :=
  ⟨(hb.cell (p := ⟨g, _, none⟩) hg).trans h.1, (hb.cell (p := ⟨g, _, none⟩) hg).trans h.2⟩
theorem below4 (w : World) (a b c d : Obj) : Below w.heap.size w ((((w.alloc a).alloc b).alloc c).alloc d) :=
  ((((Below.refl _ _).alloc (Nat.le_refl _) _).alloc (by simp) _).alloc (by simp; omega) _).alloc (by simp; omega) _

set_option maxHeartbeats 1000000 in
theorem main (u v : ByteArray) (s t : Int) (w : World) (hu : u.size ≤ 524288) (hv : v.size ≤ 524288) (s1 : -65536 ≤ s) (s2 : s ≤ 65536) (t1 : -65536 ≤ t) (t2 : t ≤ 65536) :
    Calls Try.prog 3 #[.string u, .int .i64 s, .string v, .int .i64 t] w fun e w' => e = .returned (.bool true) ∧ Below w.heap.size w w' := by
  have hf : fitsB u v = true := decide_eq_true (by omega)
  have d1 : decide (s < -65536) = false := by simp; omega
  have d2 : decide (65536 < s) = false := by simp; omega
  have d3 : decide (t < -65536) = false := by simp; omega
  have d4 : decide (65536 < t) = false := by simp; omega
  go_enter Try.func3, Try.ntmps3
  go_wp2_with (first | (go_at_call 5; refine (bytes4_any _ _ _ _ _ (by unfold maxLen; omega) (by unfold maxLen; omega)).mono ?_; rintro e w' ⟨rfl, rfl⟩))
  refine (can_any u s _ (by omega)).mono ?_
  rintro e w' ⟨hy, rfl⟩
  rcases hy with rfl | ⟨rfl, hC⟩
  · go_wp2
    go_ret
    exact ⟨rfl, Below.refl _ _⟩
  go_wp2_with fail
  refine (can_any v t _ (by omega)).mono ?_
  rintro e w' ⟨hy, rfl⟩
  rcases hy with rfl | ⟨rfl, hC'⟩
  · go_wp2
    go_ret
    exact ⟨rfl, Below.refl _ _⟩
  clear hf d1 d2 d3 d4
  have c3 := cmpB_three u s v t
  have cs := cmpB_swap u s v t
  obtain ⟨c, hc⟩ : ∃ c, cmpB u s v t = c := ⟨_, rfl⟩
  rw [hc] at c3 cs
  have c1 : -1 ≤ c := by omega
  have c2 : c ≤ 1 := by omega
  clear c3
  have CC : Hid (Canon u s ∧ Canon v t) := ⟨hC, hC'⟩
  clear hC hC'
  go_wp2_with (first | (go_at_call 7; refine (new_any _ _ _).mono ?_; rintro e w' ⟨rfl, rfl⟩) | (go_at_call 8; refine (model_any _ _ _ _ _ hu hv CC.out.1 CC.out.2 s1 s2 t1 t2).mono ?_; rintro e w' ⟨rfl, rfl⟩))
  have D0 : dec ((((w.alloc (.cells #[.string u, .int .i64 s] 25)).alloc (.cells #[.string u, .int .i64 s] 25)).alloc (.cells #[.string v, .int .i64 t] 25)).alloc (.cells #[.string v, .int .i64 t] 25)) (w.heap.size + 1) u s := by unfold dec; simp [go_sem]
  have E0 : dec ((((w.alloc (.cells #[.string u, .int .i64 s] 25)).alloc (.cells #[.string u, .int .i64 s] 25)).alloc (.cells #[.string v, .int .i64 t] 25)).alloc (.cells #[.string v, .int .i64 t] 25)) (w.heap.size + 1 + 1 + 1) v t := by unfold dec; simp [go_sem]
  refine (cmp_any u v s t _ (by omega) (by omega) (by omega) (by omega) (by omega) (by omega)).mono ?_
  rintro e w1 ⟨rfl, hb1⟩
  have z1 := hb1.size
  have D1 := dec_below D0 hb1 (by simp)
  have E1 := dec_below E0 hb1 (by simp)
  have B1 : Below w.heap.size w w1 := (below4 w _ _ _ _).trans (hb1.mono (by simp; omega))
  simp at z1
  clear D0 E0 hb1
  obtain ⟨x1, x2⟩ := D1
  obtain ⟨x3, x4⟩ := E1
  go_wp2_with fail
  refine (cmp_any v u t s _ (by omega) (by omega) (by omega) (by omega) (by omega) (by omega)).mono ?_
  rintro e w2 ⟨rfl, hb2⟩
  have B2 : Below w.heap.size w w2 := B1.trans (hb2.mono (by omega))
  clear x1 x2 x3 x4 B1 hb2
  go_wp2
  go_ret
  exact ⟨rfl, B2⟩
set_option maxHeartbeats 400000 in
theorem e1 (u v : ByteArray) (s t : Int) (w : World) (hu : u.size ≤ maxLen) (hv : v.size ≤ maxLen) (hf : fitsB u v = false)  :
    Calls Try.prog 3 #[.string u, .int .i64 s, .string v, .int .i64 t] w fun e w' => e = .returned (.bool true) ∧ Below w.heap.size w w' := by
  go_enter Try.func3, Try.ntmps3
  go_wp2_with (go_at_call 5; refine (bytes4_any _ _ _ _ _ hu hv).mono ?_; rintro e w' ⟨rfl, rfl⟩)
  go_ret
  exact ⟨rfl, Below.refl _ _⟩
set_option maxHeartbeats 400000 in
theorem e2 (u v : ByteArray) (s t : Int) (w : World) (hu : u.size ≤ maxLen) (hv : v.size ≤ maxLen) (hf : fitsB u v = true) (h : 524288 < u.size) :
    Calls Try.prog 3 #[.string u, .int .i64 s, .string v, .int .i64 t] w fun e w' => e = .returned (.bool true) ∧ Below w.heap.size w w' := by
  go_enter Try.func3, Try.ntmps3
  go_wp2_with (go_at_call 5; refine (bytes4_any _ _ _ _ _ hu hv).mono ?_; rintro e w' ⟨rfl, rfl⟩)
  go_ret
  exact ⟨rfl, Below.refl _ _⟩
set_option maxHeartbeats 400000 in
theorem e3 (u v : ByteArray) (s t : Int) (w : World) (hu : u.size ≤ maxLen) (hv : v.size ≤ maxLen) (hf : fitsB u v = true) (h1 : u.size ≤ 524288) (h : 524288 < v.size) :
    Calls Try.prog 3 #[.string u, .int .i64 s, .string v, .int .i64 t] w fun e w' => e = .returned (.bool true) ∧ Below w.heap.size w w' := by
  go_enter Try.func3, Try.ntmps3
  go_wp2_with (go_at_call 5; refine (bytes4_any _ _ _ _ _ hu hv).mono ?_; rintro e w' ⟨rfl, rfl⟩)
  go_ret
  exact ⟨rfl, Below.refl _ _⟩
set_option maxHeartbeats 400000 in
theorem e4 (u v : ByteArray) (s t : Int) (w : World) (hu : u.size ≤ maxLen) (hv : v.size ≤ maxLen) (hf : fitsB u v = true) (h1 : u.size ≤ 524288) (h2 : v.size ≤ 524288) (h : s < -65536) :
    Calls Try.prog 3 #[.string u, .int .i64 s, .string v, .int .i64 t] w fun e w' => e = .returned (.bool true) ∧ Below w.heap.size w w' := by
  go_enter Try.func3, Try.ntmps3
  go_wp2_with (go_at_call 5; refine (bytes4_any _ _ _ _ _ hu hv).mono ?_; rintro e w' ⟨rfl, rfl⟩)
  go_ret
  exact ⟨rfl, Below.refl _ _⟩
set_option maxHeartbeats 400000 in
theorem e5 (u v : ByteArray) (s t : Int) (w : World) (hu : u.size ≤ maxLen) (hv : v.size ≤ maxLen) (hf : fitsB u v = true) (h1 : u.size ≤ 524288) (h2 : v.size ≤ 524288) (h : 65536 < s) :
    Calls Try.prog 3 #[.string u, .int .i64 s, .string v, .int .i64 t] w fun e w' => e = .returned (.bool true) ∧ Below w.heap.size w w' := by
  have d1 : decide (s < -65536) = false := by simp; omega
  go_enter Try.func3, Try.ntmps3
  go_wp2_with (go_at_call 5; refine (bytes4_any _ _ _ _ _ hu hv).mono ?_; rintro e w' ⟨rfl, rfl⟩)
  go_ret
  exact ⟨rfl, Below.refl _ _⟩
set_option maxHeartbeats 400000 in
theorem e6 (u v : ByteArray) (s t : Int) (w : World) (hu : u.size ≤ maxLen) (hv : v.size ≤ maxLen) (hf : fitsB u v = true) (h1 : u.size ≤ 524288) (h2 : v.size ≤ 524288) (s1 : -65536 ≤ s) (s2 : s ≤ 65536) (h : t < -65536) :
    Calls Try.prog 3 #[.string u, .int .i64 s, .string v, .int .i64 t] w fun e w' => e = .returned (.bool true) ∧ Below w.heap.size w w' := by
  have d1 : decide (s < -65536) = false := by simp; omega
  have d2 : decide (65536 < s) = false := by simp; omega
  go_enter Try.func3, Try.ntmps3
  go_wp2_with (go_at_call 5; refine (bytes4_any _ _ _ _ _ hu hv).mono ?_; rintro e w' ⟨rfl, rfl⟩)
  go_ret
  exact ⟨rfl, Below.refl _ _⟩
set_option maxHeartbeats 400000 in
theorem e7 (u v : ByteArray) (s t : Int) (w : World) (hu : u.size ≤ maxLen) (hv : v.size ≤ maxLen) (hf : fitsB u v = true) (h1 : u.size ≤ 524288) (h2 : v.size ≤ 524288) (s1 : -65536 ≤ s) (s2 : s ≤ 65536) (h : 65536 < t) :
    Calls Try.prog 3 #[.string u, .int .i64 s, .string v, .int .i64 t] w fun e w' => e = .returned (.bool true) ∧ Below w.heap.size w w' := by
  have d1 : decide (s < -65536) = false := by simp; omega
  have d2 : decide (65536 < s) = false := by simp; omega
  have d3 : decide (t < -65536) = false := by simp; omega
  go_enter Try.func3, Try.ntmps3
  go_wp2_with (go_at_call 5; refine (bytes4_any _ _ _ _ _ hu hv).mono ?_; rintro e w' ⟨rfl, rfl⟩)
  go_ret
  exact ⟨rfl, Below.refl _ _⟩

theorem walk (u v : ByteArray) (s t : Int) (w : World) (hu : u.size ≤ maxLen) (hv : v.size ≤ maxLen) :
    Calls Try.prog 3 #[.string u, .int .i64 s, .string v, .int .i64 t] w fun e w' => e = .returned (.bool true) ∧ Below w.heap.size w w' := by
  cases hf : fitsB u v with
  | false => exact e1 u v s t w hu hv hf
  | true =>
    by_cases h1 : 524288 < u.size
    · exact e2 u v s t w hu hv hf h1
    by_cases h2 : 524288 < v.size
    · exact e3 u v s t w hu hv hf (by omega) h2
    by_cases h3 : s < -65536
    · exact e4 u v s t w hu hv hf (by omega) (by omega) h3
    by_cases h4 : 65536 < s
    · exact e5 u v s t w hu hv hf (by omega) (by omega) h4
    by_cases h5 : t < -65536
    · exact e6 u v s t w hu hv hf (by omega) (by omega) (by omega) (by omega) h5
    by_cases h6 : 65536 < t
    · exact e7 u v s t w hu hv hf (by omega) (by omega) (by omega) (by omega) h6
    exact main u v s t w (by omega) (by omega) (by omega) (by omega) (by omega) (by omega)

theorem own : ownKnob Try.prog.godebug = none := by kernel_rfl
open Go.ChangeMaps (open_string shut_string)
set_option maxRecDepth 100000 in
theorem lifted (os : Os) (started : os.Started) (H : Type) (enc : TypeId × Value → H) :
    ReturnsInHanded {} Try.checked os 3 .any (Rows.fnCmpOrdersByValueSpec.pre6 enc Try.prog Try.f3 Rows.fnCmpOrdersByValueRow.domain false) (Rows.fnCmpOrdersByValueSpec.post enc Try.prog Try.f3 false true false false) := by
  refine returnsInHanded_of_change (C := Try.checked) own started (by kernel_rfl) Try.func3
    (ChangeSpec.witness6 (enc := enc) (C := Try.checked) false ⟨#[], #[.string ByteArray.empty, .int .i64 0, .string ByteArray.empty, .int .i64 0], []⟩ 8 (by kernel_rfl) (by kernel_rfl) (by kernel_rfl) (by kernel_rfl)) ?_
  intro W base args ds gs before hval0 hW hcnd _
  have hval : ∀ (j : Nat) t v, Try.f3.params[j]? = some t → args[j]? = some v → Value.okWide Try.prog W .any base t v := hval0
  have hW' := hW
  obtain ⟨p, q, hA0, hV, rfl, hfz, hnd⟩ := hW
  have hA : DataW.TrodAll enc Try.prog W 0 (fun _ => true) true Try.f3.params.toList args.toList ds p := hA0
  rw [Try.params3] at hA hval
  obtain ⟨v0, vs0, d0, ds0, p0, q0, hargs, rfl, rfl, h0, r0⟩ := trodAll_cons hA
  obtain ⟨v1, vs1, d1, ds1, p1, q1, rfl, rfl, rfl, h1, r1⟩ := trodAll_cons r0
  obtain ⟨v2, vs2, d2, ds2, p2, q2, rfl, rfl, rfl, h2, r2⟩ := trodAll_cons r1
  obtain ⟨v3, vs3, d3, ds3, p3, q3, rfl, rfl, rfl, h3, r3⟩ := trodAll_cons r2
  obtain ⟨rfl, rfl, rfl⟩ := trodAll_nil r3
  obtain rfl : args = #[v0, v1, v2, v3] := by cases args; simp_all
  obtain ⟨rfl, rfl⟩ := trodVars_none hV
  obtain ⟨a0, rfl, rfl, rfl, w0⟩ := open_string Try.underlying9 (hval 0 9 v0 rfl rfl) h0
  obtain ⟨a1, rfl, rfl, rfl, w1⟩ := open_int Try.underlying3 (hval 1 3 v1 rfl rfl) h1
  obtain ⟨a2, rfl, rfl, rfl, w2⟩ := open_string Try.underlying9 (hval 2 9 v2 rfl rfl) h2
  obtain ⟨a3, rfl, rfl, rfl, w3⟩ := open_int Try.underlying3 (hval 3 3 v3 rfl rfl) h3
  clear hA0 hval0
  refine (walk a0 a2 a1 a3 W w0 w2).mono fun e W' ⟨he, bel⟩ => ?_
  subst he
  exact ⟨_, rfl, _, _, _, [], _, [], hW', trodAll_mk1 (shut_bool Try.underlying4 _), (trodAll_cons_mk (shut_string Try.underlying9 w0) (trodAll_cons_mk (shut_int Try.underlying3 w1) (trodAll_cons_mk (shut_string Try.underlying9 w2) (trodAll_cons_mk (shut_int Try.underlying3 w3) trodAll_mk0)))), rfl, bel.frame _, fun h => by cases h⟩
end Orders

theorem orders_holds : Rows.FnCmpOrdersByValueSaid :=
  OpenClaim.holds_of_wide 3 Try.f3 rfl rfl rfl rfl rfl rfl rfl ⟨rfl, rfl, rfl, rfl, rfl⟩ rfl rfl rfl rfl rfl (by kernel_rfl) Try.func3 (by kernel_rfl)
    (of_decide_eq_true (by kernel_rfl)) (by unfold Func.isWrapper; first | (rw [if_pos (by decide +kernel)]; kernel_rfl) | (rw [if_neg (by decide +kernel)]; exact ⟨rfl, rfl⟩))
    (fun os started H enc _ => Orders.lifted os started H enc)
end Go.Proofs.Qxb6627213a
