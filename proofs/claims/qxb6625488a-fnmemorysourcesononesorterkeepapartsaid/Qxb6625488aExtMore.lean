/- MORE WALKS: 'zzIsRecord', '(*memorySource).next', 'ZZnext'. -/
import Derived.Test.Qxb6625488aExtWalks
namespace Go.Proofs.Qxb6625488a
open Go.RowKit

theorem seesB_map {w : World} {ao : Option Addr} {n : Nat} {A : Nat → Int} (h : seesB w ao n A) {l m : Nat} (hl : l + m ≤ n) : seesB w (ao.map (·.add l)) m (fun i => A (l + i)) := by
  by_cases hm : m = 0
  · exact .inl hm
  rcases h with h | ⟨b, off, rfl, hlt, hA⟩
  · omega
  refine .inr ⟨b, off + l, by simp [Addr.add_lit], hlt, fun i hi => ?_⟩
  rw [Nat.add_assoc]
  exact hA (l + i) (by omega)

set_option maxHeartbeats 400000 in
theorem isRecord_any (ka va ao : Option Addr) (kc vc n cap : Nat) (A : Nat → Int) (p0 p1 : Int) (off kl vl ln : Nat) (w : World) (hn : n ≤ cap) (hc : n ≤ 524288) (hf : off + ln + kl + vl ≤ n) (h8 : ln ≤ 255)
    (hk : seesB w ka kl (fun i => A (off + ln + i))) (hv : seesB w va vl (fun i => A (off + ln + kl + i))) (ha : seesB w ao n A) :
    Calls Try.prog 11 #[.slice ka kl kc, .slice va vl vc, .slice ao n cap, .agg #[.int .u64 p0, .int .u64 p1, .int .u32 off, .int .u32 kl, .int .u32 vl, .int .u8 ln]] w fun e w' =>
      e = .returned (.bool true) ∧ Below w.heap.size w w' := by
  have B1 : ∀ o, Below w.heap.size w (w.alloc o) := fun o => (Below.refl _ _).alloc (Nat.le_refl _) o
  go_enter Try.func11, Try.ntmps11
  go_wp2_with fail
  all_goals
    refine (sameB_any ka _ kl kc _ (fun i => A (off + ln + i)) _ (by omega) (seesB_below hk (B1 _) (Nat.le_refl _)) (by first | exact .inl (by omega) | exact seesB_below (seesB_map ha (by omega)) (B1 _) (Nat.le_refl _))).mono ?_
    rintro e w1 ⟨rfl, q, rfl⟩
    go_wp2_with fail
  all_goals
    refine (sameB_any va _ vl vc _ (fun i => A (off + ln + kl + i)) _ (by omega) (seesB_below hv (below_drewN (B1 _) _) (Nat.le_refl _)) (by first | exact .inl (by omega) | exact seesB_below (seesB_map ha (by omega)) (below_drewN (B1 _) _) (Nat.le_refl _))).mono ?_
    rintro e w1 ⟨rfl, q', rfl⟩
    go_wp2
    go_ret
    exact ⟨rfl, below_drewN (B1 _) _⟩

theorem cell_drew_alloc (w : World) (k n i : Nat) (o : Obj) (h : n < w.heap.size) : ((w.drewN k).alloc o).cell? ⟨n, i, none⟩ = w.cell? ⟨n, i, none⟩ := by
  rw [World.cell?_alloc_past _ _ _ (by simpa using h), World.cell?_drewN]

set_option maxHeartbeats 400000 in
theorem next_end (M S : Nat) (rv : Option Addr) (n c : Nat) (w : World) (_hn : n ≤ 16384) (m0 : w.cell? ⟨M, 0, none⟩ = some (.pointer (some ⟨S, 0, none⟩))) (m1 : w.cell? ⟨M, 1, none⟩ = some (.int .i64 n))
    (s2 : w.cell? ⟨S, 2, none⟩ = some (.slice rv n c)) :
    Calls Try.prog 17 #[.pointer (some ⟨M, 0, none⟩)] w fun e w' => e = .returned (.tuple #[.slice none 0 0, .slice none 0 0, .bool false, .nilIface]) ∧ ∃ q, w' = w.drewN q := by
  go_enter Try.func17, Try.ntmps17
  go_wp2
  go_quiet (fail)
  go_wp2
  exact bodyPost_ret (v := .tuple #[.slice none 0 0, .slice none 0 0, .bool false, .nilIface]) (by simp [results, Try.results17, go_sem]) rfl ⟨rfl, _, rfl⟩

/-- Of what was there only block M has turned: its second cell holds r. -/
structure Moved (M : Nat) (r : Int) (w w' : World) : Prop where
  grown : w.grownBy w' (some M)
  ptr : w'.cell? ⟨M, 0, none⟩ = w.cell? ⟨M, 0, none⟩
  read : w'.cell? ⟨M, 1, none⟩ = some (.int .i64 r)
  free : w'.frozen? ⟨M, 1, none⟩ = false
theorem moved_of {M : Nat} {r : Int} {w W : World} {x : Value} (hb : Below w.heap.size w W) (hM : M < w.heap.size) (hx : w.cell? ⟨M, 1, none⟩ = some x) (hf : w.frozen? ⟨M, 1, none⟩ = false) : Moved M r w (W.setCell ⟨M, 1, none⟩ (.int .i64 r)) := by
  have h1 : W.cell? ⟨M, 1, none⟩ = some x := (hb.cell (p := ⟨M, 1, none⟩) hM).trans hx
  refine ⟨⟨hb.os, hb.tape, hb.output, by simpa [World.setCell] using hb.size, fun k hk hne => ?_⟩, ?_, ?_, ?_⟩
  · rw [Below.heap_setCell _ _ _ _ (by intro e; exact hne (by rw [e]))]
    exact hb.block k hk
  · rw [← hb.cell (p := ⟨M, 0, none⟩) hM]
    simp [go_sem]
  · simp [go_sem, h1]
  · rw [World.frozen?_setCell]
    exact (hb.frozen (p := ⟨M, 1, none⟩) hM).trans hf

set_option maxHeartbeats 400000 in
theorem next_some (M S : Nat) (g n c r : Nat) (ao : Option Addr) (an cap : Nat) (p0 p1 : Int) (off kl vl ln : Nat) (w : World) (hn : n ≤ 16384) (hr : r < n) (m0 : w.cell? ⟨M, 0, none⟩ = some (.pointer (some ⟨S, 0, none⟩))) (m1 : w.cell? ⟨M, 1, none⟩ = some (.int .i64 r))
    (mf : w.frozen? ⟨M, 1, none⟩ = false) (hM : M < w.heap.size) (hS : S < w.heap.size) (hg : g < w.heap.size)
    (s1 : w.cell? ⟨S, 1, none⟩ = some (.slice ao an cap)) (s2 : w.cell? ⟨S, 2, none⟩ = some (.slice (some ⟨g, 0, none⟩) n c))
    (c0 : w.cell? ⟨g, r * 6, none⟩ = some (.int .u64 p0)) (c1 : w.cell? ⟨g, r * 6 + 1, none⟩ = some (.int .u64 p1)) (c2 : w.cell? ⟨g, r * 6 + 2, none⟩ = some (.int .u32 off)) (c3 : w.cell? ⟨g, r * 6 + 3, none⟩ = some (.int .u32 kl)) (c4 : w.cell? ⟨g, r * 6 + 4, none⟩ = some (.int .u32 vl)) (c5 : w.cell? ⟨g, r * 6 + 5, none⟩ = some (.int .u8 ln))
    (ha : an ≤ cap) (hc : cap ≤ 524288) (hf : off + ln + kl + vl ≤ an) (h8 : ln ≤ 255) :
    Calls Try.prog 17 #[.pointer (some ⟨M, 0, none⟩)] w fun e w' => e = .returned (.tuple #[.slice (subA ao (off + ln) cap) kl (cap - (off + ln)), .slice (subA ao (off + ln + kl) cap) vl (cap - (off + ln + kl)), .bool true, .nilIface]) ∧ Moved M (r + 1) w w' := by
  have hne : ((r : Int) == (n : Int)) = false := by simp; omega
  go_enter Try.func17, Try.ntmps17
  go_wp2
  go_quiet (fail)
  go_wp2
  go_region_held3 (fun w' => w'.cell? ⟨M, 0, none⟩ = some (.pointer (some ⟨S, 0, none⟩)) ∧ w'.cell? ⟨M, 1, none⟩ = some (.int .i64 r) ∧ w'.cell? ⟨S, 2, none⟩ = some (.slice (some ⟨g, 0, none⟩) n c) ∧ w'.cell? ⟨g, r * 6, none⟩ = some (.int .u64 p0) ∧ w'.cell? ⟨g, r * 6 + 1, none⟩ = some (.int .u64 p1) ∧ w'.cell? ⟨g, r * 6 + 2, none⟩ = some (.int .u32 off) ∧ w'.cell? ⟨g, r * 6 + 3, none⟩ = some (.int .u32 kl) ∧ w'.cell? ⟨g, r * 6 + 4, none⟩ = some (.int .u32 vl) ∧ w'.cell? ⟨g, r * 6 + 5, none⟩ = some (.int .u8 ln)) (simp [cell_drew_alloc, hM, hS, hg, m0, m1, s2, c0, c1, c2, c3, c4, c5])
    (first | (go_at_call 18; refine (record_any S ao an cap p0 p1 off kl vl ln _ ha hc hf h8 (by simpa using hS) (by simpa using s1)).mono ?_; rintro e w' ⟨rfl, o1, q1, rfl⟩))
  have kb : Below w.heap.size w (((w.drewN (nq + 1)).alloc (.cells o1 59)).drewN q1) := below_drewN ((below_drewN (Below.refl _ _) _).alloc (by simp) _) _
  have k1 := (kb.cell (p := ⟨M, 1, none⟩) hM).trans m1
  have kf := (kb.frozen (p := ⟨M, 1, none⟩) hM).trans mf
  generalize hW : ((w.drewN (nq + 1)).alloc (.cells o1 59)).drewN q1 = W at *
  clear hW m0 s1 s2 c0 c1 c2 c3 c4 c5
  go_wp2
  exact bodyPost_ret (v := .tuple #[.slice (subA ao (off + ln) cap) kl (cap - (off + ln)), .slice (subA ao (off + ln + kl) cap) vl (cap - (off + ln + kl)), .bool true, .nilIface]) (by simp [results, Try.results17, go_sem]) rfl ⟨rfl, moved_of kb hM m1 mf⟩

set_option maxHeartbeats 400000 in
theorem zzNext_end (M S : Nat) (rv : Option Addr) (n c : Nat) (w : World) (hn : n ≤ 16384) (m0 : w.cell? ⟨M, 0, none⟩ = some (.pointer (some ⟨S, 0, none⟩))) (m1 : w.cell? ⟨M, 1, none⟩ = some (.int .i64 n))
    (s2 : w.cell? ⟨S, 2, none⟩ = some (.slice rv n c)) :
    Calls Try.prog 10 #[.pointer (some ⟨M, 0, none⟩)] w fun e w' => e = .returned (.tuple #[.slice none 0 0, .slice none 0 0, .bool false, .nilIface]) ∧ ∃ q, w' = w.drewN q := by
  go_enter Try.func10, Try.ntmps10
  go_wp2_with (go_at_call 17; refine (next_end M S rv n c _ hn m0 m1 s2).mono ?_; rintro e w' ⟨rfl, q, rfl⟩)
  exact bodyPost_ret (v := .tuple #[.slice none 0 0, .slice none 0 0, .bool false, .nilIface]) (by simp [results, Try.results10, go_sem]) rfl ⟨rfl, _, rfl⟩

set_option maxHeartbeats 400000 in
theorem zzNext_some (M S : Nat) (g n c r : Nat) (ao : Option Addr) (an cap : Nat) (p0 p1 : Int) (off kl vl ln : Nat) (w : World) (hn : n ≤ 16384) (hr : r < n) (m0 : w.cell? ⟨M, 0, none⟩ = some (.pointer (some ⟨S, 0, none⟩))) (m1 : w.cell? ⟨M, 1, none⟩ = some (.int .i64 r))
    (mf : w.frozen? ⟨M, 1, none⟩ = false) (hM : M < w.heap.size) (hS : S < w.heap.size) (hg : g < w.heap.size)
    (s1 : w.cell? ⟨S, 1, none⟩ = some (.slice ao an cap)) (s2 : w.cell? ⟨S, 2, none⟩ = some (.slice (some ⟨g, 0, none⟩) n c))
    (c0 : w.cell? ⟨g, r * 6, none⟩ = some (.int .u64 p0)) (c1 : w.cell? ⟨g, r * 6 + 1, none⟩ = some (.int .u64 p1)) (c2 : w.cell? ⟨g, r * 6 + 2, none⟩ = some (.int .u32 off)) (c3 : w.cell? ⟨g, r * 6 + 3, none⟩ = some (.int .u32 kl)) (c4 : w.cell? ⟨g, r * 6 + 4, none⟩ = some (.int .u32 vl)) (c5 : w.cell? ⟨g, r * 6 + 5, none⟩ = some (.int .u8 ln))
    (ha : an ≤ cap) (hc : cap ≤ 524288) (hf : off + ln + kl + vl ≤ an) (h8 : ln ≤ 255) :
    Calls Try.prog 10 #[.pointer (some ⟨M, 0, none⟩)] w fun e w' => e = .returned (.tuple #[.slice (subA ao (off + ln) cap) kl (cap - (off + ln)), .slice (subA ao (off + ln + kl) cap) vl (cap - (off + ln + kl)), .bool true, .nilIface]) ∧ Moved M (r + 1) w w' := by
  have hcall := next_some M S g n c r ao an cap p0 p1 off kl vl ln w hn hr m0 m1 mf hM hS hg s1 s2 c0 c1 c2 c3 c4 c5 ha hc hf h8
  have H : Hid (Calls Try.prog 17 #[.pointer (some ⟨M, 0, none⟩)] w fun e w' => e = .returned (.tuple #[.slice (subA ao (off + ln) cap) kl (cap - (off + ln)), .slice (subA ao (off + ln + kl) cap) vl (cap - (off + ln + kl)), .bool true, .nilIface]) ∧ Moved M (r + 1) w w') := hcall
  clear hcall m0 m1 mf s1 s2 c0 c1 c2 c3 c4 c5
  go_enter Try.func10, Try.ntmps10
  go_wp2_with (go_at_call 17; refine H.out.mono ?_; rintro e w' ⟨rfl, hm⟩)
  exact bodyPost_ret (v := .tuple #[.slice (subA ao (off + ln) cap) kl (cap - (off + ln)), .slice (subA ao (off + ln + kl) cap) vl (cap - (off + ln + kl)), .bool true, .nilIface]) (by simp [results, Try.results10, go_sem]) rfl ⟨rfl, hm⟩
end Go.Proofs.Qxb6625488a
