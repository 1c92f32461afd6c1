/- THE LAW 'FnTotalsInsertAnywhere': its walk out of the callees' contracts, and the row. -/
import Derived.Test.Qxb6626926aLvOpen
import Derived.ProofKit
namespace Go.Proofs.Qxb6626926a
open Go.ChangeShapes Go.WideShapes Go.ChangeAt Go.RowKit
namespace Insert

theorem cells_of_sees {w w' : World} {ao : Option Addr} {n g : Nat} {Z : Nat → Int × Int × Int} (hS : sees w ao n Z) (hb : Below g w w') (hg : w.heap.size ≤ g) {i : Nat} (hi : i < n) :
    ∃ b off, ao = some ⟨b, off, none⟩ ∧ b < w.heap.size ∧ w'.cell? ⟨b, off + i * 3, none⟩ = some (.int .i64 (Z i).1) ∧ w'.cell? ⟨b, off + i * 3 + 1, none⟩ = some (.int .i64 (Z i).2.1) ∧ w'.cell? ⟨b, off + i * 3 + 2, none⟩ = some (.int .i64 (Z i).2.2) := by
  rcases hS with rfl | ⟨b, off, rfl, hlt, hl⟩
  · omega
  obtain ⟨a, c, d⟩ := lies_below hl hb (by omega) i hi
  exact ⟨b, off, rfl, hlt, a, c, d⟩

set_option maxHeartbeats 1000000 in
theorem main (ao : Option Addr) (n cap k : Nat) (Z Z' : Nat → Int × Int × Int) (w : World) (hn : n ≤ 43690) (hk : k ≤ n) (hS : sees w ao n Z) (x0 x1 x2 t0 t1 t2 l0 l1 l2 : Int)
    (hlo : ∀ i, i < k → Hid (Z i = Z' i)) (hmid : Hid (Z' k = (x0, x1, x2))) (hhi : ∀ i, k ≤ i → Hid (Z i = Z' (i + 1)))
    (hT : Hid (sumTo Z' (n + 1) = (t0, t1, t2))) (hL : Hid (sumTo Z n = (l0, l1, l2)))
    (s0 : wrap64 (l0 + x0) = t0) (s1 : wrap64 (l1 + x1) = t1) (s2 : wrap64 (l2 + x2) = t2) :
    Calls Try.prog 3 #[.slice ao n cap, .int .i64 k, .agg #[.int .i64 x0, .int .i64 x1, .int .i64 x2]] w fun e w' => e = .returned (.bool true) ∧ Below w.heap.size w w' := by
  obtain ⟨i0, hi, hz0, hz1, hz2⟩ := info_parts Try.info28
  go_enter Try.func3, Try.ntmps3
  go_wp2_with (first | (go_at_call 5; refine (bytes3_any _ _ _ _ _ _ _ _ (by omega)).mono ?_; rintro e w' ⟨rfl, o1, rfl⟩))
  have hx0 := lv3_alloc (lv3_new w x0 x1 x2 24) (by simp) (.cells o1 24)
  have B0 : Below w.heap.size w ((w.alloc (.cells #[.int .i64 x0, .int .i64 x1, .int .i64 x2] 24)).alloc (.cells o1 24)) := ((Below.refl _ _).alloc (Nat.le_refl _) _).alloc (by simp) _
  refine (toLevels_any ao n cap (by omega) Z _ (sees_below hS B0 (Nat.le_refl _))).mono ?_
  rintro e w1 ⟨rfl, hown, hb1⟩
  have hg1 := (hown.lt _ rfl).2
  have hl1 : lies w1 (w.heap.size + 1 + 1) 0 n Z := by simpa using lies_of_own hown
  have hx1 := lv3_below hx0 hb1 (by simp; omega)
  have B1 : Below w.heap.size w w1 := B0.trans (hb1.mono (by simp; omega))
  have hS1 := sees_below hS B1 (Nat.le_refl _)
  simp at hg1
  clear hown hb1 hx0 B0 hS
  go_wp2_with (at_make; refine wpList_make_own _ rfl _ _ 26 rfl w1.heap.size 28 i0 _ 3 Try.underlying26 hi hz0 hz1 .i64 .i64 _ (n + 1) rfl rfl ?c1 ?c2 ?c3 ?c4 ?_)
  case c1 => simp
  case c2 => rw [hz2]; omega
  case c3 => unfold maxLen; omega
  case c4 => omega
  intro w2 hown hgrow
  have hzg : w1.heap.size < w2.heap.size := (hown.lt w1.heap.size rfl).2
  have hbel : Below w1.heap.size w1 w2 := (Below.refl _ _).grown hgrow (Nat.le_refl _) (by simp)
  clear hgrow
  go_wp2
  go_loopw [8, 9] (fun v i wr => ∃ j : Nat, j ≤ k ∧ i = .int .i64 j ∧ v = .slice (some ⟨w1.heap.size, 0, none⟩) j (n + 1) ∧ wr.ownsRow w1.heap.size 28 3 (.slice (some ⟨w1.heap.size, 0, none⟩) j (n + 1)) j (flat Z' j) ∧ w1.heap.size < wr.heap.size ∧ Below w1.heap.size w1 wr)
    (fun _ i _ => k - (intOf i).toNat)
  case atStart => exact ⟨0, Nat.zero_le _, rfl, rfl, hown, hzg, hbel⟩
  case round =>
    clear hown hzg hbel
    obtain ⟨j, hj, rfl, rfl, hown, hzg, hbel⟩ := hrel
    by_cases hlt : j < k
    · obtain ⟨b, off, rfl, hb, c1, c2, c3⟩ := cells_of_sees hS1 hbel (Nat.le_refl _) (show j < n by omega)
      rw [(hlo j hlt).out] at c1 c2 c3
      have hjn : j < n := by omega
      go_wp2_with (first
        | (go_at_call 7; refine (toLevel_any _ _ _ _).mono ?_; rintro e w' ⟨rfl, p1, p2, rfl⟩)
        | (at_builtin; refine wpList_append_fits _ rfl _ _ 26 rfl w1.heap.size 28 i0 3 Try.underlying26 hi hz1 w1.heap.size j (n + 1) _ rfl (((hown.alloc _).alloc _).alloc _) ⟨wr.heap.size + 1 + 1, 0, none⟩ 1 1 [.int .i64 (Z' j).1, .int .i64 (Z' j).2.1, .int .i64 (Z' j).2.2] rfl rfl ?d1 ?d2 ?d3 ?_))
      case d1 => exact news_cells _ _ (by simp) _ _ _
      case d2 => exact one3 _ _ _
      case d3 => omega
      intro w3 hown3 hgrow3
      obtain ⟨hb3, hs3⟩ := step_below hbel hgrow3 (Nat.le_refl _)
      clear hgrow3
      go_wp2
      go_roundw
      case rel => exact ⟨j + 1, by omega, by go_num, rfl, hown3, by omega, hb3⟩
      case measure => simp [intOf]; omega
    · have hjk : j = k := by omega
      subst hjk
      have hxr := lv3_below hx1 hbel (by omega)
      obtain ⟨q0, q1, q2⟩ := hxr
      simp only at q0 q1 q2
      go_wp2_with (first
        | (go_at_call 7; refine (toLevel_any _ _ _ _).mono ?_; rintro e w' ⟨rfl, p1, p2, rfl⟩)
        | (at_builtin; refine wpList_append_fits _ rfl _ _ 26 rfl w1.heap.size 28 i0 3 Try.underlying26 hi hz1 w1.heap.size j (n + 1) _ rfl (((hown.alloc _).alloc _).alloc _) ⟨wr.heap.size + 1 + 1, 0, none⟩ 1 1 [.int .i64 x0, .int .i64 x1, .int .i64 x2] rfl rfl ?f1 ?f2 ?f3 ?_))
      case f1 => exact news_cells _ _ (by simp) _ _ _
      case f2 => exact one3 _ _ _
      case f3 => omega
      intro w3 hown3 hgrow3
      obtain ⟨hb3, hs3⟩ := step_below hbel hgrow3 (Nat.le_refl _)
      have hown4 : w3.ownsRow w1.heap.size 28 3 (.slice (some ⟨w1.heap.size, 0, none⟩) (j + 1) (n + 1)) (j + 1) (flat Z' (j + 1)) := by
        have e : flat Z' (j + 1) = flat Z' j ++ [.int .i64 x0, .int .i64 x1, .int .i64 x2] := by rw [flat, hmid.out]
        rw [e]; exact hown3
      clear hgrow3 hown3 hown q0 q1 q2 hbel
      go_wp2
      go_loopw [8, 10] (fun v i wr => ∃ m : Nat, j ≤ m ∧ m ≤ n ∧ i = .int .i64 m ∧ v = .slice (some ⟨w1.heap.size, 0, none⟩) (m + 1) (n + 1) ∧ wr.ownsRow w1.heap.size 28 3 (.slice (some ⟨w1.heap.size, 0, none⟩) (m + 1) (n + 1)) (m + 1) (flat Z' (m + 1)) ∧ w1.heap.size < wr.heap.size ∧ Below w1.heap.size w1 wr)
        (fun _ i _ => n - (intOf i).toNat)
      case atStart => exact ⟨j, Nat.le_refl _, hk, rfl, rfl, hown4, by omega, hb3⟩
      case round =>
        clear hown4 hb3
        obtain ⟨m, hjm, hmn, rfl, rfl, hown, hzg, hbel⟩ := hrel
        by_cases hlt : m < n
        · obtain ⟨b, off, rfl, hb, c1, c2, c3⟩ := cells_of_sees hS1 hbel (Nat.le_refl _) hlt
          rw [(hhi m hjm).out] at c1 c2 c3
          go_wp2_with (first
            | (go_at_call 7; refine (toLevel_any _ _ _ _).mono ?_; rintro e w' ⟨rfl, p1, p2, rfl⟩)
            | (at_builtin; refine wpList_append_fits _ rfl _ _ 26 rfl w1.heap.size 28 i0 3 Try.underlying26 hi hz1 w1.heap.size (m + 1) (n + 1) _ rfl (((hown.alloc _).alloc _).alloc _) ⟨wr.heap.size + 1 + 1, 0, none⟩ 1 1 [.int .i64 (Z' (m + 1)).1, .int .i64 (Z' (m + 1)).2.1, .int .i64 (Z' (m + 1)).2.2] rfl rfl ?g1 ?g2 ?g3 ?_))
          case g1 => exact news_cells _ _ (by simp) _ _ _
          case g2 => exact one3 _ _ _
          case g3 => omega
          intro w5 hown5 hgrow5
          obtain ⟨hb5, hs5⟩ := step_below hbel hgrow5 (Nat.le_refl _)
          clear hgrow5
          go_wp2
          go_roundw
          case rel => exact ⟨m + 1, by omega, by omega, by go_num, rfl, hown5, by omega, hb5⟩
          case measure => simp [intOf]; omega
        · have hmn' : m = n := by omega
          subst hmn'
          have hla := lies_of_own hown
          have hlb := lies_below hl1 hbel (by omega)
          have hxr := lv3_below hx1 hbel (by omega)
          clear hown
          go_wp2_with fail
          refine (totals_as (some ⟨w1.heap.size, 0, none⟩) (m + 1) (m + 1) (by omega) Z' _ _ _ _ hT (.inr ⟨_, _, rfl, hzg, hla⟩)).mono ?_
          rintro e w6 ⟨rfl, hb6⟩
          have hz6 := hb6.size
          have ht6 := lv3_new w6 t0 t1 t2 28
          have hl6 := lies_below (lies_below hlb hb6 (by omega)) ((Below.refl w6.heap.size w6).alloc (Nat.le_refl _) (.cells #[.int .i64 t0, .int .i64 t1, .int .i64 t2] 28)) (by omega)
          have hx6 := lv3_alloc (lv3_below hxr hb6 (by omega)) (by omega) (.cells #[.int .i64 t0, .int .i64 t1, .int .i64 t2] 28)
          clear hla hlb hxr
          go_wp2_with fail
          refine (totals_as (some ⟨w.heap.size + 1 + 1, 0, none⟩) m m (by omega) Z _ _ _ _ hL (.inr ⟨_, _, rfl, by simp; omega, hl6⟩)).mono ?_
          rintro e w7 ⟨rfl, hb7⟩
          have hz7 := hb7.size
          simp at hz7
          have ht7 := lv3_below ht6 hb7 (by simp)
          have hx7 := lv3_below hx6 hb7 (by simp; omega)
          have B6 : Below w.heap.size w w6 := (B1.trans (hbel.mono (by omega))).trans (hb6.mono (by omega))
          have B7 : Below w.heap.size w w7 := (B6.alloc (by omega) _).trans (hb7.mono (by simp; omega))
          clear hl6 ht6 hx6 hb6 hb7 hbel B6
          obtain ⟨q0, q1, q2⟩ := ht7
          obtain ⟨y0, y1, y2⟩ := hx7
          simp only at q0 q1 q2 y0 y1 y2
          have na0 : w.heap.size < w7.heap.size := by omega
          have nb0 : w6.heap.size < w7.heap.size := by omega
          have na1 : ∀ c, w.heap.size < w7.heap.size + c := by omega
          have na2 : ∀ c d, w.heap.size < w7.heap.size + c + d := by omega
          have na3 : ∀ c d e, w.heap.size < w7.heap.size + c + d + e := by omega
          have nb1 : ∀ c, w6.heap.size < w7.heap.size + c := by omega
          have nb2 : ∀ c d, w6.heap.size < w7.heap.size + c + d := by omega
          have nb3 : ∀ c d e, w6.heap.size < w7.heap.size + c + d + e := by omega
          go_wp2
          go_region_held3 (fun w' => w'.cell? ⟨w.heap.size, 0, none⟩ = some (.int .i64 x0) ∧ w'.cell? ⟨w.heap.size, 1, none⟩ = some (.int .i64 x1) ∧ w'.cell? ⟨w.heap.size, 2, none⟩ = some (.int .i64 x2) ∧ w'.cell? ⟨w6.heap.size, 0, none⟩ = some (.int .i64 t0) ∧ w'.cell? ⟨w6.heap.size, 1, none⟩ = some (.int .i64 t1) ∧ w'.cell? ⟨w6.heap.size, 2, none⟩ = some (.int .i64 t2) ∧ w'.cell? ⟨w7.heap.size, 0, none⟩ = some (.int .i64 l0) ∧ w'.cell? ⟨w7.heap.size, 1, none⟩ = some (.int .i64 l1) ∧ w'.cell? ⟨w7.heap.size, 2, none⟩ = some (.int .i64 l2)) (simp [go_sem, World.cell?_alloc_past, *])
            (first | (go_at_call 9; refine (addLevel_any _ _ _ _ _ _ _).mono ?_; rintro e w' ⟨rfl, p1, p2, p3, rfl⟩) | (go_at_call 7; refine (toLevel_any _ _ _ _).mono ?_; rintro e w' ⟨rfl, p1, p2, rfl⟩))
          all_goals
            go_wp2
          all_goals
            go_ret
            refine ⟨rfl, ?_⟩
            repeat (first | exact B7 | refine Below.drew ?_ | refine Below.alloc ?_ (by first | omega | (simp; omega)) _)

theorem many (ao : Option Addr) (n cap : Nat) (k x0 x1 x2 : Int) (w : World) (hn : 1048576 < n) :
    Calls Try.prog 3 #[.slice ao n cap, .int .i64 k, .agg #[.int .i64 x0, .int .i64 x1, .int .i64 x2]] w fun e w' => e = .returned (.bool true) ∧ Below w.heap.size w w' := by
  go_enter Try.func3, Try.ntmps3
  go_wp2_with (go_at_call 5; refine (bytes3_no _ _ _ _ _ _ _ _ hn).mono ?_; rintro e w' ⟨rfl, o1, rfl⟩)
  go_ret
  exact ⟨rfl, ((Below.refl _ _).alloc (Nat.le_refl _) _).alloc (by simp) _⟩
theorem some_more (ao : Option Addr) (n cap : Nat) (k x0 x1 x2 : Int) (w : World) (hn : 43690 < n) (hn' : n ≤ 1048576) :
    Calls Try.prog 3 #[.slice ao n cap, .int .i64 k, .agg #[.int .i64 x0, .int .i64 x1, .int .i64 x2]] w fun e w' => e = .returned (.bool true) ∧ Below w.heap.size w w' := by
  go_enter Try.func3, Try.ntmps3
  go_wp2_with (go_at_call 5; refine (bytes3_any _ _ _ _ _ _ _ _ hn').mono ?_; rintro e w' ⟨rfl, o1, rfl⟩)
  go_ret
  exact ⟨rfl, ((Below.refl _ _).alloc (Nat.le_refl _) _).alloc (by simp) _⟩
theorem k_low (ao : Option Addr) (n cap : Nat) (k x0 x1 x2 : Int) (w : World) (hn : n ≤ 43690) (hk : k < 0) :
    Calls Try.prog 3 #[.slice ao n cap, .int .i64 k, .agg #[.int .i64 x0, .int .i64 x1, .int .i64 x2]] w fun e w' => e = .returned (.bool true) ∧ Below w.heap.size w w' := by
  go_enter Try.func3, Try.ntmps3
  go_wp2_with (go_at_call 5; refine (bytes3_any _ _ _ _ _ _ _ _ (by omega)).mono ?_; rintro e w' ⟨rfl, o1, rfl⟩)
  go_ret
  exact ⟨rfl, ((Below.refl _ _).alloc (Nat.le_refl _) _).alloc (by simp) _⟩
theorem k_high (ao : Option Addr) (n cap : Nat) (k x0 x1 x2 : Int) (w : World) (hn : n ≤ 43690) (hk : (n : Int) < k) :
    Calls Try.prog 3 #[.slice ao n cap, .int .i64 k, .agg #[.int .i64 x0, .int .i64 x1, .int .i64 x2]] w fun e w' => e = .returned (.bool true) ∧ Below w.heap.size w w' := by
  have hk' : decide (k < 0) = false := by simp; omega
  go_enter Try.func3, Try.ntmps3
  go_wp2_with (go_at_call 5; refine (bytes3_any _ _ _ _ _ _ _ _ (by omega)).mono ?_; rintro e w' ⟨rfl, o1, rfl⟩)
  go_ret
  exact ⟨rfl, ((Below.refl _ _).alloc (Nat.le_refl _) _).alloc (by simp) _⟩

theorem walk (ao : Option Addr) (n cap : Nat) (k x0 x1 x2 : Int) (Z : Nat → Int × Int × Int) (w : World) (hS : sees w ao n Z) :
    Calls Try.prog 3 #[.slice ao n cap, .int .i64 k, .agg #[.int .i64 x0, .int .i64 x1, .int .i64 x2]] w fun e w' => e = .returned (.bool true) ∧ Below w.heap.size w w' := by
  by_cases h1 : 1048576 < n
  · exact many ao n cap k x0 x1 x2 w h1
  by_cases h2 : 43690 < n
  · exact some_more ao n cap k x0 x1 x2 w h2 (by omega)
  by_cases h3 : k < 0
  · exact k_low ao n cap k x0 x1 x2 w (by omega) h3
  by_cases h4 : (n : Int) < k
  · exact k_high ao n cap k x0 x1 x2 w (by omega) h4
  obtain ⟨j, rfl⟩ := Int.eq_ofNat_of_zero_le (show 0 ≤ k by omega)
  have hs := sumTo_putIn Z j (x0, x1, x2) (n - j)
  rw [show j + 1 + (n - j) = n + 1 from by omega, show j + (n - j) = n from by omega] at hs
  have s0 : wrap64 ((sumTo Z n).1 + x0) = (sumTo (putIn Z j (x0, x1, x2)) (n + 1)).1 := by rw [hs]; rfl
  have s1 : wrap64 ((sumTo Z n).2.1 + x1) = (sumTo (putIn Z j (x0, x1, x2)) (n + 1)).2.1 := by rw [hs]; rfl
  have s2 : wrap64 ((sumTo Z n).2.2 + x2) = (sumTo (putIn Z j (x0, x1, x2)) (n + 1)).2.2 := by rw [hs]; rfl
  refine main ao n cap j Z (putIn Z j (x0, x1, x2)) w (by omega) (by omega) hS x0 x1 x2 _ _ _ _ _ _ (fun i hi => ?_) ?_ (fun i hi => ?_) rfl rfl s0 s1 s2
  · show Z i = _
    unfold putIn
    rw [if_pos hi]
  · show putIn Z j (x0, x1, x2) j = _
    unfold putIn
    rw [if_neg (by omega), if_pos rfl]
  · show Z i = _
    unfold putIn
    rw [if_neg (by omega), if_neg (by omega), Nat.add_sub_cancel]

theorem own : ownKnob Try.prog.godebug = none := by kernel_rfl
theorem laidOut : laidOutB Try.prog = true := by kernel_rfl
theorem cells24 : Try.prog.cellsOf 24 = 3 := by kernel_rfl

set_option maxRecDepth 100000 in
theorem lifted (os : Os) (started : os.Started) (H : Type) (enc : TypeId × Value → H) :
    ReturnsInHanded {} Try.checked os 3 .any (Rows.fnTotalsInsertAnywhereSpec.pre6 enc Try.prog Try.f3 Rows.fnTotalsInsertAnywhereRow.domain false) (Rows.fnTotalsInsertAnywhereSpec.post enc Try.prog Try.f3 false true false false) := by
  refine returnsInHanded_of_change (C := Try.checked) own started (by kernel_rfl) Try.func3
    (ChangeSpec.witness6 (enc := enc) (C := Try.checked) false ⟨#[], #[.slice none 0 0, .int .i64 0, .agg #[.int .i64 0, .int .i64 0, .int .i64 0]], []⟩ 8 (by kernel_rfl) (by kernel_rfl) (by kernel_rfl) (by kernel_rfl)) ?_
  intro W base args ds gs before hval0 hW hcnd _
  have hval : ∀ (j : Nat) t v, Try.f3.params[j]? = some t → args[j]? = some v → Value.okWide Try.prog W .any base t v := hval0
  have hW' := hW
  obtain ⟨p, q, hA0, hV, rfl, hfz, hnd⟩ := hW
  have hA : DataW.TrodAll enc Try.prog W 0 (fun _ => true) true Try.f3.params.toList args.toList ds p := hA0
  rw [Try.params3] at hA hval
  obtain ⟨v0, vs0, d0, ds0, p0, q0, hargs, rfl, rfl, h0, r0⟩ := trodAll_cons hA
  obtain ⟨v1, vs1, d1, ds1, p1, q1, rfl, rfl, rfl, h1, r1⟩ := trodAll_cons r0
  obtain ⟨v2, vs2, d2, ds2, p2, q2, rfl, rfl, rfl, h2, r2⟩ := trodAll_cons r1
  obtain ⟨rfl, rfl, rfl⟩ := trodAll_nil r2
  obtain rfl : args = #[v0, v1, v2] := by cases args; simp_all
  obtain ⟨rfl, rfl⟩ := trodVars_none hV
  have lt0 : ∀ x ∈ p0, x.block < W.heap.size := by obtain ⟨m, hm⟩ := h0; exact DataW.trod_lt m _ _ _ hm
  have lt2 : ∀ x ∈ p2, x.block < W.heap.size := by obtain ⟨m, hm⟩ := h2; exact DataW.trod_lt m _ _ _ hm
  obtain ⟨ao, n, cap, Z, rfl, hS, hI⟩ := view (hval 0 22 v0 rfl rfl) h0
  obtain ⟨a1, rfl, rfl, rfl, w1⟩ := open_int Try.underlying3 (hval 1 3 v1 rfl rfl) h1
  have k2 := h2
  obtain ⟨c0, c1, c2, y0, y1, y2, m, rfl, _, _, g0, g1, g2⟩ := Joins.open_agg3 Try.underlying24 (by kernel_rfl) cells24 (hval 2 24 v2 rfl rfl) h2
  obtain ⟨x0, e0, _, _⟩ := DataW.trod_int Try.underlying3 g0
  obtain ⟨x1, e1, _, _⟩ := DataW.trod_int Try.underlying3 g1
  obtain ⟨x2, e2, _, _⟩ := DataW.trod_int Try.underlying3 g2
  simp only [List.cons.injEq, and_true] at e0 e1 e2
  subst e0 e1 e2
  clear hA0 hval0
  refine (walk ao n cap a1 x0 x1 x2 Z W hS).mono fun e W' ⟨he, bel⟩ => ?_
  subst he
  exact ⟨_, rfl, _, _, _, [], _, [], hW', trodAll_mk1 (shut_bool Try.underlying4 _), (trodAll_cons_mk (Below.trod laidOut (by kernel_rfl) (of_decide_eq_true (by kernel_rfl)) h0 bel lt0) (trodAll_cons_mk (shut_int Try.underlying3 w1) (trodAll_cons_mk (Below.trod laidOut (by kernel_rfl) (of_decide_eq_true (by kernel_rfl)) k2 bel lt2) trodAll_mk0))), rfl, bel.frame _, fun h => by cases h⟩
end Insert

theorem insert_holds : Rows.FnTotalsInsertAnywhereSaid :=
  OpenClaim.holds_of_wide 3 Try.f3 rfl rfl rfl rfl rfl rfl rfl ⟨rfl, rfl, rfl, rfl, rfl⟩ rfl rfl rfl rfl rfl (by kernel_rfl) Try.func3 (by kernel_rfl)
    (of_decide_eq_true (by kernel_rfl)) (by unfold Func.isWrapper; first | (rw [if_pos (by decide +kernel)]; kernel_rfl) | (rw [if_neg (by decide +kernel)]; exact ⟨rfl, rfl⟩))
    (fun os started H enc _ => Insert.lifted os started H enc)
end Go.Proofs.Qxb6626926a
