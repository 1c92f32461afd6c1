/- THE LAW 'FnMemorySourcesOnOneSorterKeepApart': its walk out of the callees' contracts. -/
import Derived.Test.Qxb6625488aStore
namespace Go.Proofs.Qxb6625488a
open Go.RowKit
namespace Apart

set_option maxRecDepth 100000 in
set_option maxHeartbeats 4000000 in
theorem main (ao ro : Option Addr) (an ac n rc rd : Nat) (A : Nat → Int) (R : Nat → Rf) (w : World) (ha : an ≤ 524288) (hac : an ≤ ac) (hn : n ≤ 16384) (hrd : rd ≤ n) (hnil : ao = none → an = 0 ∧ ac = 0)
    (hA : seesB w ao an A) (hR : seesR w ro n R) (hok : ∀ i, i < n → (R i).Ok) :
    Calls Try.prog 4 #[.slice ao an ac, .slice ro n rc, .int .i64 rd] w fun e w' => e = .returned (.bool true) ∧ Below w.heap.size w w' := by
  have hd : decide (an + n ≤ 1048576) = true := decide_eq_true (by omega)
  have d1 : decide (524288 < (an : Int)) = false := by simp; omega
  have d2 : decide (16384 < (n : Int)) = false := by simp; omega
  have d3 : decide ((rd : Int) < 0) = false := by simp
  have d4 : decide (n < rd) = false := by simp; omega
  go_enter Try.func4, Try.ntmps4
  go_wp2_with (first | (go_at_call 13; refine (bytesB_any _ _ _ _ _ _ _ _ (by omega) (by omega)).mono ?_; rintro e w' ⟨rfl, rfl⟩))
  go_loopw [7] (fun i wr => ∃ k : Nat, k ≤ n ∧ i = .int .i64 k ∧ Below w.heap.size w wr ∧ ∀ i, i < k → (R i).fits an) (fun i _ => n - (intOf i).toNat)
  case atStart => exact ⟨0, Nat.zero_le _, rfl, Below.refl _ _, fun i h => by omega⟩
  case round =>
    obtain ⟨k, hk, rfl, hbel, hfit⟩ := hrel
    have hz := hbel.size
    by_cases hlt : k < n
    · rcases hR with rfl | ⟨b, off, rfl, hb, hL⟩
      · omega
      obtain ⟨c0, c1, c2, c3, c4, c5⟩ := hL k hlt
      rw [← hbel.cell (by exact hb)] at c0 c1 c2 c3 c4 c5
      have ok := hok k hlt
      have HF : Hid (∀ i, i < k → (R i).fits an) := hfit
      clear hfit
      by_cases hf : (R k).fits an
      · have HK : Hid ((R k).fits an) := hf
        clear hf
        go_wp2_with (first | (go_at_call 6; refine (fits_yes _ _ _ _ _ _ _ _ ha ok.off ok.kl ok.vl ok.ln HK.out).mono ?_; rintro e w' ⟨rfl, o, rfl⟩))
        go_roundw
        case rel =>
          have RR : ∃ k' : Nat, k' ≤ n ∧ (Value.int .i64 ((k : Int) + 1)) = .int .i64 k' ∧ Below w.heap.size w (wr.alloc (.cells o 29)) ∧ ∀ i, i < k' → (R i).fits an := by
            refine ⟨k + 1, by omega, by go_num, hbel.alloc (by omega) _, fun i hi => ?_⟩
            by_cases e : i = k
            · rw [e]; exact HK.out
            · exact HF.out i (by omega)
          first | exact RR | ((repeat apply Exists.intro); exact ⟨RR, rfl⟩)
        case measure => simp [intOf]; omega
      · have HK : Hid (¬ (R k).fits an) := hf
        clear hf
        go_wp2_with (first | (go_at_call 6; refine (fits_no _ _ _ _ _ _ _ _ ha ok.off ok.kl ok.vl ok.ln HK.out).mono ?_; rintro e w' ⟨rfl, o, rfl⟩))
        go_ret
        exact ⟨rfl, hbel.alloc (by omega) _⟩
    · have hkn : k = n := by omega
      subst hkn
      have HF : Hid (∀ i, i < k → (R i).fits an) := hfit
      have HO : Hid (∀ i, i < k → (R i).Ok) := hok
      clear hfit hok hlt
      go_wp2_with fail
      refine (clone_any ao an ac A _ ha hnil (seesB_below hA hbel (Nat.le_refl _))).mono ?_
      rintro e w1 ⟨ao', cap', rfl, q1, q2, hC, hb1⟩
      have B1 : Below w.heap.size w w1 := hbel.trans (hb1.mono hz)
      have z1 := B1.size
      go_wp2_with fail
      refine (build_any ao' ro an cap' k rc R _ hn (seesR_below hR B1 (Nat.le_refl _))).mono ?_
      rintro e w2 ⟨rfl, hb2, v, hs⟩
      have st := store_of (seesB_below hA B1 (Nat.le_refl _)) (seesR_below hR B1 (Nat.le_refl _)) hC hb2 hs
      have B2 : Below w.heap.size w w2 := B1.trans (hb2.mono z1)
      have z2 := B2.size
      clear hs hb2 hb1 hC hbel hA hR B1
      go_wp2_with (first | (go_at_call 9; refine (newSource_any _ _ _).mono ?_; rintro e w' ⟨rfl, rfl⟩))
      have srcL : Src ((w2.alloc (.cells #[.pointer (some ⟨w1.heap.size, 0, none⟩), .int .i64 rd] 45)).alloc (.cells #[.pointer (some ⟨w1.heap.size, 0, none⟩), .int .i64 0] 45)) w2.heap.size w1.heap.size rd := ⟨by simp; omega, by simp, by simp, by simp⟩
      have srcE : Src ((w2.alloc (.cells #[.pointer (some ⟨w1.heap.size, 0, none⟩), .int .i64 rd] 45)).alloc (.cells #[.pointer (some ⟨w1.heap.size, 0, none⟩), .int .i64 0] 45)) (w2.heap.size + 1) w1.heap.size 0 := ⟨by simp, by simp, by simp, by simp⟩
      have bs0 : Below w2.heap.size w2 ((w2.alloc (.cells #[.pointer (some ⟨w1.heap.size, 0, none⟩), .int .i64 rd] 45)).alloc (.cells #[.pointer (some ⟨w1.heap.size, 0, none⟩), .int .i64 0] 45)) := ((Below.refl _ _).alloc (Nat.le_refl _) _).alloc (by simp) _
      go_loopw [12] (fun i wr => ∃ j : Nat, j ≤ rd ∧ i = .int .i64 j ∧ Below w2.heap.size w2 wr ∧ Src wr w2.heap.size w1.heap.size rd ∧ Src wr (w2.heap.size + 1) w1.heap.size j) (fun i _ => rd - (intOf i).toNat)
      case atStart => exact ⟨0, Nat.zero_le _, rfl, bs0, srcL, srcE⟩
      case round =>
        clear srcL srcE bs0
        obtain ⟨j, hj, rfl, hbs, srcL, srcE⟩ := hrel
        have stj := store_below st hbs
        by_cases hlt : j < rd
        · have okj := HO.out j (by omega)
          have fj := HF.out j (by omega)
          have hjk : j < k := by omega
          go_wp2_with fail
          refine (step_some stj srcE (by omega) hn q1 q2 okj fj).mono ?_
          rintro e w3 ⟨rfl, hm⟩
          have hb3 : Below w2.heap.size w2 w3 := below_moved hbs hm hbs.size (by omega)
          have srcE3 := src_moved srcE hm
          have srcL3 := src_other srcL hm (by omega)
          have st3 := store_below st hb3
          have z3 := hb3.size
          clear hm srcE srcL stj hbs
          have hk3 := seesB_sub st3.clone (l := (R j).off + (R j).ln) (m := (R j).kl) (by unfold Rf.fits at fj; omega) q1
          have hv3 := seesB_sub st3.clone (l := (R j).off + (R j).ln + (R j).kl) (m := (R j).vl) (by unfold Rf.fits at fj; omega) q1
          have ha3 := st3.arena
          rcases st3.refs with h0 | ⟨b, off, hro, hb, hL⟩
          · omega
          obtain ⟨c0, c1, c2, c3, c4, c5⟩ := hL j (by omega)
          subst hro
          clear st3 hL
          go_wp2_with (first | (go_at_call 11; refine (isRecord_any _ _ ao _ _ an ac A _ _ _ _ _ _ _ hac ha fj okj.ln hk3 hv3 ha3).mono ?_; rintro e w4 ⟨rfl, hb4⟩))
          go_roundw
          case rel =>
            have RR : ∃ j' : Nat, j' ≤ rd ∧ (Value.int .i64 ((j : Int) + 1)) = .int .i64 j' ∧ Below w2.heap.size w2 w4 ∧ Src w4 w2.heap.size w1.heap.size rd ∧ Src w4 (w2.heap.size + 1) w1.heap.size j' :=
              ⟨j + 1, by omega, by go_num, hb3.trans (hb4.mono z3), src_below srcL3 hb4 srcL3.here, src_below srcE3 hb4 srcE3.here⟩
            first | exact RR | ((repeat apply Exists.intro); exact ⟨RR, rfl⟩)
          case measure => simp [intOf]; omega
        · have hjk : j = rd := by omega
          subst hjk
          go_wp2
          go_loopw [17] (fun i wr' => ∃ m : Nat, j ≤ m ∧ m ≤ k ∧ i = .int .i64 m ∧ Below w2.heap.size w2 wr' ∧ Src wr' w2.heap.size w1.heap.size m ∧ Src wr' (w2.heap.size + 1) w1.heap.size m) (fun i _ => k - (intOf i).toNat)
          case atStart => exact ⟨j, Nat.le_refl _, hrd, rfl, hbs, srcL, srcE⟩
          case round =>
            clear hbs srcL srcE stj
            obtain ⟨m, hm1, hm2, rfl, hbs, srcL, srcE⟩ := hrel
            have stj := store_below st hbs
            by_cases hlt2 : m < k
            · have okm := HO.out m hlt2
              have fm := HF.out m hlt2
              go_wp2_with fail
              refine (step_some stj srcL hlt2 hn q1 q2 okm fm).mono ?_
              rintro e w3 ⟨rfl, hm⟩
              have hb3 : Below w2.heap.size w2 w3 := below_moved hbs hm hbs.size (Nat.le_refl _)
              have srcL3 := src_moved srcL hm
              have srcE3 := src_other srcE hm (by omega)
              have st3 := store_below st hb3
              have z3 := hb3.size
              clear hm srcE srcL stj hbs
              go_wp2_with fail
              refine (step_some st3 srcE3 hlt2 hn q1 q2 okm fm).mono ?_
              rintro e w4 ⟨rfl, hm⟩
              have hb4 : Below w2.heap.size w2 w4 := below_moved hb3 hm z3 (by omega)
              have srcE4 := src_moved srcE3 hm
              have srcL4 := src_other srcL3 hm (by omega)
              have st4 := store_below st hb4
              have z4 := hb4.size
              clear hm srcE3 srcL3 st3 hb3 z3
              have hk4 := seesB_sub st4.clone (l := (R m).off + (R m).ln) (m := (R m).kl) (by unfold Rf.fits at fm; omega) q1
              have hv4 := seesB_sub st4.clone (l := (R m).off + (R m).ln + (R m).kl) (m := (R m).vl) (by unfold Rf.fits at fm; omega) q1
              have ha4 := st4.arena
              have sl : (R m).kl ≤ 524288 ∧ (R m).vl ≤ 524288 := by unfold Rf.fits at fm; omega
              obtain ⟨sl1, sl2⟩ := sl
              rcases st4.refs with h0 | ⟨b, off, hro, hb, hL⟩
              · omega
              obtain ⟨c0, c1, c2, c3, c4, c5⟩ := hL m hlt2
              subst hro
              clear st4 hL
              go_wp2_with fail
              refine (sameB_any _ _ (R m).kl _ _ _ _ sl1 hk4 hk4).mono ?_
              rintro e w5 ⟨rfl, qa, rfl⟩
              go_wp2_with fail
              refine (sameB_any _ _ (R m).vl _ _ _ _ sl2 (seesB_below hv4 (below_drewN (Below.refl w4.heap.size w4) _) (Nat.le_refl _)) (seesB_below hv4 (below_drewN (Below.refl w4.heap.size w4) _) (Nat.le_refl _))).mono ?_
              rintro e w5 ⟨rfl, qb, rfl⟩
              have bd : ∀ q, Below w4.heap.size w4 (w4.drewN q) := fun q => below_drewN (Below.refl w4.heap.size w4) q
              go_wp2_with (first | (go_at_call 11; refine (isRecord_any _ _ ao _ _ an ac A _ _ _ _ _ _ _ hac ha fm okm.ln (seesB_below hk4 (bd _) (Nat.le_refl _)) (seesB_below hv4 (bd _) (Nat.le_refl _)) (seesB_below ha4 (bd _) (Nat.le_refl _))).mono ?_; rintro e w6 ⟨rfl, hb6⟩))
              have hb46 : Below w4.heap.size w4 w6 := (bd _).trans hb6
              go_roundw
              case rel =>
                have RR : ∃ m' : Nat, j ≤ m' ∧ m' ≤ k ∧ (Value.int .i64 ((m : Int) + 1)) = .int .i64 m' ∧ Below w2.heap.size w2 w6 ∧ Src w6 w2.heap.size w1.heap.size m' ∧ Src w6 (w2.heap.size + 1) w1.heap.size m' :=
                  ⟨m + 1, by omega, by omega, by go_num, hb4.trans (hb46.mono z4), src_below srcL4 hb46 srcL4.here, src_below srcE4 hb46 srcE4.here⟩
                first | exact RR | ((repeat apply Exists.intro); exact ⟨RR, rfl⟩)
              case measure => simp [intOf]; omega
            · have hmk : m = k := by omega
              subst hmk
              have hnl := fun wx => run_neq_slice_nil_any (P := Try.prog) wx 22 5 none 0 0 0 0 Try.underlying22
              go_wp2_with fail
              refine (step_end stj srcL hn).mono ?_
              rintro e w3 ⟨rfl, qa, rfl⟩
              have bd : ∀ q, Below wr.heap.size wr (wr.drewN q) := fun q => below_drewN (Below.refl wr.heap.size wr) q
              have hzr := hbs.size
              go_wp2_with fail
              refine (step_end (store_below stj (bd _)) (src_below srcE (bd _) srcE.here) hn).mono ?_
              rintro e w3 ⟨rfl, qb, rfl⟩
              have rL := srcL.read
              have rE := srcE.read
              clear stj
              go_wp2_with (first | (go_at_call_of 12 (Value.pointer (some ⟨w2.heap.size, 0, none⟩)); refine (read_any _ _ _ (by simpa using rL)).mono ?_; rintro e w3 ⟨rfl, rfl⟩) | (go_at_call 12; refine (read_any _ _ _ (by simpa using rE)).mono ?_; rintro e w3 ⟨rfl, rfl⟩))
              go_ret
              exact ⟨rfl, B2.trans ((hbs.trans ((bd _).mono hzr)).mono z2)⟩
end Apart
end Go.Proofs.Qxb6625488a
