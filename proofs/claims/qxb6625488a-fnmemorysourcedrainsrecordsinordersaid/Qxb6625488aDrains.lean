/- THE LAW 'FnMemorySourceDrainsRecordsInOrder': its walk out of the callees' contracts. -/
import Derived.Test.Qxb6625488aStore
namespace Go.Proofs.Qxb6625488a
open Go.RowKit
namespace Drains

set_option maxHeartbeats 2000000 in
theorem main (ao ro : Option Addr) (an ac n rc rd : Nat) (A : Nat → Int) (R : Nat → Rf) (w : World) (ha : an ≤ 524288) (hac : an ≤ ac) (hn : n ≤ 16384) (hrd : rd ≤ n) (hnil : ao = none → an = 0 ∧ ac = 0)
    (hA : seesB w ao an A) (hR : seesR w ro n R) (hok : ∀ i, i < n → (R i).Ok) :
    Calls Try.prog 3 #[.slice ao an ac, .slice ro n rc, .int .i64 rd] w fun e w' => e = .returned (.bool true) ∧ Below w.heap.size w w' := by
  have hd : decide (an + n ≤ 1048576) = true := decide_eq_true (by omega)
  have d1 : decide (524288 < (an : Int)) = false := by simp; omega
  have d2 : decide (16384 < (n : Int)) = false := by simp; omega
  have d3 : decide ((rd : Int) < 0) = false := by simp
  have d4 : decide (n < rd) = false := by simp; omega
  go_enter Try.func3, Try.ntmps3
  go_wp2_with (first | (go_at_call 5; refine (bytesA_any _ _ _ _ _ _ _ _ (by omega) (by omega)).mono ?_; rintro e w' ⟨rfl, rfl⟩))
  go_loopw [7] (fun i wr => ∃ k : Nat, k ≤ n ∧ i = .int .i64 k ∧ Below w.heap.size w wr ∧ ∀ i, i < k → (R i).fits an) (fun i _ => n - (intOf i).toNat)
  case atStart => exact ⟨0, Nat.zero_le _, rfl, Below.refl _ _, fun i h => by omega⟩
  case round =>
    obtain ⟨k, hk, rfl, hbel, hfit⟩ := hrel
    have hz := hbel.size
    by_cases hlt : k < n
    · rcases hR with rfl | ⟨b, off, rfl, hb, hL⟩
      · omega
      obtain ⟨c0, c1, c2, c3, c4, c5⟩ := hL k hlt
      rw [← hbel.cell (by exact hb)] at c0 c1 c2 c3 c4 c5
      have ok := hok k hlt
      have HF : Hid (∀ i, i < k → (R i).fits an) := hfit
      clear hfit
      by_cases hf : (R k).fits an
      · have HK : Hid ((R k).fits an) := hf
        clear hf
        go_wp2_with (first | (go_at_call 6; refine (fits_yes _ _ _ _ _ _ _ _ ha ok.off ok.kl ok.vl ok.ln HK.out).mono ?_; rintro e w' ⟨rfl, o, rfl⟩))
        go_roundw
        case rel =>
          have RR : ∃ k' : Nat, k' ≤ n ∧ (Value.int .i64 ((k : Int) + 1)) = .int .i64 k' ∧ Below w.heap.size w (wr.alloc (.cells o 29)) ∧ ∀ i, i < k' → (R i).fits an := by
            refine ⟨k + 1, by omega, by go_num, hbel.alloc (by omega) _, fun i hi => ?_⟩
            by_cases e : i = k
            · rw [e]; exact HK.out
            · exact HF.out i (by omega)
          first | exact RR | ((repeat apply Exists.intro); exact ⟨RR, rfl⟩)
        case measure => simp [intOf]; omega
      · have HK : Hid (¬ (R k).fits an) := hf
        clear hf
        go_wp2_with (first | (go_at_call 6; refine (fits_no _ _ _ _ _ _ _ _ ha ok.off ok.kl ok.vl ok.ln HK.out).mono ?_; rintro e w' ⟨rfl, o, rfl⟩))
        go_ret
        exact ⟨rfl, hbel.alloc (by omega) _⟩
    · have hkn : k = n := by omega
      subst hkn
      have HF : Hid (∀ i, i < k → (R i).fits an) := hfit
      have HO : Hid (∀ i, i < k → (R i).Ok) := hok
      clear hfit hok hlt
      go_wp2_with fail
      refine (clone_any ao an ac A _ ha hnil (seesB_below hA hbel (Nat.le_refl _))).mono ?_
      rintro e w1 ⟨ao', cap', rfl, q1, q2, hC, hb1⟩
      have B1 : Below w.heap.size w w1 := hbel.trans (hb1.mono hz)
      have z1 := B1.size
      go_wp2_with fail
      refine (build_any ao' ro an cap' k rc R _ hn (seesR_below hR B1 (Nat.le_refl _))).mono ?_
      rintro e w2 ⟨rfl, hb2, v, hs⟩
      have st := store_of (seesB_below hA B1 (Nat.le_refl _)) (seesR_below hR B1 (Nat.le_refl _)) hC hb2 hs
      have B2 : Below w.heap.size w w2 := B1.trans (hb2.mono z1)
      have z2 := B2.size
      clear hs hb2 hb1 hC hbel hA hR B1
      go_wp2_with (first | (go_at_call 9; refine (newSource_any _ _ _).mono ?_; rintro e w' ⟨rfl, rfl⟩))
      have src0 : Src (w2.alloc (.cells #[.pointer (some ⟨w1.heap.size, 0, none⟩), .int .i64 rd] 45)) w2.heap.size w1.heap.size rd := ⟨by simp, by simp, by simp, by simp⟩
      have bs0 : Below w2.heap.size w2 (w2.alloc (.cells #[.pointer (some ⟨w1.heap.size, 0, none⟩), .int .i64 rd] 45)) := (Below.refl _ _).alloc (Nat.le_refl _) _
      go_loopw [11] (fun i wr => ∃ j : Nat, rd ≤ j ∧ j ≤ k ∧ i = .int .i64 j ∧ Below w2.heap.size w2 wr ∧ Src wr w2.heap.size w1.heap.size j) (fun i _ => k - (intOf i).toNat)
      case atStart => exact ⟨rd, Nat.le_refl _, hrd, rfl, bs0, src0⟩
      case round =>
        clear src0 bs0
        obtain ⟨j, hj1, hj2, rfl, hbs, src⟩ := hrel
        have stj := store_below st hbs
        by_cases hlt : j < k
        · have okj := HO.out j hlt
          have fj := HF.out j hlt
          go_wp2_with fail
          refine (step_some stj src hlt hn q1 q2 okj fj).mono ?_
          rintro e w3 ⟨rfl, hm⟩
          have hb3 : Below w2.heap.size w2 w3 := below_moved hbs hm hbs.size (Nat.le_refl _)
          have src3 := src_moved src hm
          have st3 := store_below st hb3
          have z3 := hb3.size
          clear hm src stj hbs
          have hk3 := seesB_sub st3.clone (l := (R j).off + (R j).ln) (m := (R j).kl) (by unfold Rf.fits at fj; omega) q1
          have hv3 := seesB_sub st3.clone (l := (R j).off + (R j).ln + (R j).kl) (m := (R j).vl) (by unfold Rf.fits at fj; omega) q1
          have ha3 := st3.arena
          rcases st3.refs with h0 | ⟨b, off, hro, hb, hL⟩
          · omega
          obtain ⟨c0, c1, c2, c3, c4, c5⟩ := hL j hlt
          subst hro
          clear st3 hL
          go_wp2_with (first | (go_at_call 11; refine (isRecord_any _ _ ao _ _ an ac A _ _ _ _ _ _ _ hac ha fj okj.ln hk3 hv3 ha3).mono ?_; rintro e w4 ⟨rfl, hb4⟩))
          go_roundw
          case rel =>
            have RR : ∃ j' : Nat, rd ≤ j' ∧ j' ≤ k ∧ (Value.int .i64 ((j : Int) + 1)) = .int .i64 j' ∧ Below w2.heap.size w2 w4 ∧ Src w4 w2.heap.size w1.heap.size j' :=
              ⟨j + 1, by omega, by omega, by go_num, hb3.trans (hb4.mono z3), src_below src3 hb4 src3.here⟩
            first | exact RR | ((repeat apply Exists.intro); exact ⟨RR, rfl⟩)
          case measure => simp [intOf]; omega
        · have hjk : j = k := by omega
          subst hjk
          have hnl := fun wx => run_neq_slice_nil_any (P := Try.prog) wx 22 5 none 0 0 0 0 Try.underlying22
          go_wp2
          go_loopw [16] (fun i wr' => ∃ m : Nat, m ≤ 2 ∧ i = .int .i64 m ∧ Below w2.heap.size w2 wr' ∧ Src wr' w2.heap.size w1.heap.size j) (fun i _ => 2 - (intOf i).toNat)
          case atStart => exact ⟨0, by omega, rfl, hbs, src⟩
          case round =>
            clear hbs src stj
            obtain ⟨m, hm, rfl, hbs, src⟩ := hrel
            have stj := store_below st hbs
            by_cases hlt2 : m < 2
            · go_wp2_with (first | (go_at_call 10; refine (step_end stj src hn).mono ?_; rintro e w3 ⟨rfl, q, rfl⟩))
              go_roundw
              case rel =>
                have RR : ∃ m' : Nat, m' ≤ 2 ∧ (Value.int .i64 ((m : Int) + 1)) = .int .i64 m' ∧ Below w2.heap.size w2 (wr.drewN q) ∧ Src (wr.drewN q) w2.heap.size w1.heap.size j :=
                  ⟨m + 1, by omega, by go_num, below_drewN hbs _, ⟨src.here, src.ptr, src.read, src.free⟩⟩
                first | exact RR | ((repeat apply Exists.intro); exact ⟨RR, rfl⟩)
              case measure => simp [intOf]; omega
            · have hz2 := hbs.size
              have rd2 := src.read
              go_wp2_with (first | (go_at_call 12; refine (read_any _ _ _ rd2).mono ?_; rintro e w3 ⟨rfl, rfl⟩))
              go_ret
              exact ⟨rfl, B2.trans (hbs.mono z2)⟩
end Drains
end Go.Proofs.Qxb6625488a
