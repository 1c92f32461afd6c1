/- THE WALKS OF THE SMALL FUNCTIONS. -/
import Derived.Test.Qxb6625488aRows
import Derived.WalkKit
import Derived.WalkSpells
import Derived.WalkLawsBesides
import Derived.Deep.QuietTactic
import Derived.BigQuiet
import Derived.Deep.RegionHeld3
import Derived.Deep.RegionWith
import Derived.Deep.OwnRows
import Derived.RowKit3
namespace Go.Proofs.Qxb6625488a
open Go.RowKit

/-- A slice of n bytes, nil or not, as it is read. -/
def seesB (w : World) (ao : Option Addr) (n : Nat) (A : Nat → Int) : Prop := n = 0 ∨ ∃ b off, ao = some ⟨b, off, none⟩ ∧ b < w.heap.size ∧ ∀ i, i < n → w.cell? ⟨b, off + i, none⟩ = some (.int .u8 (A i))
theorem seesB_below {B n : Nat} {ao : Option Addr} {w w' : World} {A : Nat → Int} (h : seesB w ao n A) (hb : Below B w w') (hB : w.heap.size ≤ B) : seesB w' ao n A := by
  rcases h with h | ⟨b, off, rfl, hlt, hl⟩
  · exact .inl h
  · exact .inr ⟨b, off, rfl, Nat.lt_of_lt_of_le hlt hb.size, fun i hi => (hb.cell (p := ⟨b, _, none⟩) (Nat.lt_of_lt_of_le hlt hB)).trans (hl i hi)⟩

/-- A record entry: its six numbers. -/
structure Rf where
  p0 : Int
  p1 : Int
  off : Nat
  kl : Nat
  vl : Nat
  ln : Nat
/-- The numbers that place the record fit their kinds. -/
structure Rf.Ok (r : Rf) : Prop where
  off : r.off ≤ 4294967295
  kl : r.kl ≤ 4294967295
  vl : r.vl ≤ 4294967295
  ln : r.ln ≤ 255
/-- The record's bytes lie inside an arena of n bytes. -/
def Rf.fits (r : Rf) (n : Nat) : Prop := r.off + r.ln + r.kl + r.vl ≤ n

set_option maxHeartbeats 400000 in
theorem fits_yes (p0 p1 : Int) (off kl vl ln : Nat) (n : Nat) (w : World) (hn : n ≤ 524288) (h2 : off ≤ 4294967295) (h4 : kl ≤ 4294967295) (h6 : vl ≤ 4294967295) (h8 : ln ≤ 255) (h : off + ln + kl + vl ≤ n) :
    Calls Try.prog 6 #[.agg #[.int .u64 p0, .int .u64 p1, .int .u32 off, .int .u32 kl, .int .u32 vl, .int .u8 ln], .int .i64 n] w fun e w' => e = .returned (.bool true) ∧ ∃ o, w' = w.alloc (.cells o 29) := by
  have hd : decide ((off : Int) + ln + kl + vl ≤ n) = true := decide_eq_true (by omega)
  go_enter Try.func6, Try.ntmps6
  go_wp2
  go_ret
  exact ⟨by simp, _, rfl⟩
set_option maxHeartbeats 400000 in
theorem fits_no (p0 p1 : Int) (off kl vl ln : Nat) (n : Nat) (w : World) (hn : n ≤ 524288) (h2 : off ≤ 4294967295) (h4 : kl ≤ 4294967295) (h6 : vl ≤ 4294967295) (h8 : ln ≤ 255) (h : ¬ off + ln + kl + vl ≤ n) :
    Calls Try.prog 6 #[.agg #[.int .u64 p0, .int .u64 p1, .int .u32 off, .int .u32 kl, .int .u32 vl, .int .u8 ln], .int .i64 n] w fun e w' => e = .returned (.bool false) ∧ ∃ o, w' = w.alloc (.cells o 29) := by
  have hd : decide ((off : Int) + ln + kl + vl ≤ n) = false := decide_eq_false (by omega)
  go_enter Try.func6, Try.ntmps6
  go_wp2
  go_ret
  exact ⟨by simp, _, rfl⟩

set_option maxHeartbeats 400000 in
theorem bytesA_any (ao ao' : Option Addr) (n c n' c' : Nat) (k : Int) (w : World) (hn : n ≤ 9223372036854775807) (hn' : n' ≤ 9223372036854775807) :
    Calls Try.prog 5 #[.slice ao n c, .slice ao' n' c', .int .i64 k] w fun e w' => e = .returned (.bool (decide (n + n' ≤ 1048576))) ∧ w = w' := by
  by_cases h1 : 1048576 < n
  · have hd : decide (n + n' ≤ 1048576) = false := decide_eq_false (by omega)
    rw [hd]
    clear hd
    go_enter Try.func5, Try.ntmps5
    go_wp2
    go_ret
    exact ⟨rfl, rfl⟩
  by_cases h2 : 1048576 < n'
  · have hd : decide (n + n' ≤ 1048576) = false := decide_eq_false (by omega)
    rw [hd]
    clear hd
    go_enter Try.func5, Try.ntmps5
    go_wp2
    go_ret
    exact ⟨rfl, rfl⟩
  by_cases h3 : 1048576 < n + n'
  · have hd : decide (n + n' ≤ 1048576) = false := decide_eq_false (by omega)
    rw [hd]
    clear hd
    go_enter Try.func5, Try.ntmps5
    go_wp2
    go_ret
    exact ⟨rfl, rfl⟩
  · have hd : decide (n + n' ≤ 1048576) = true := decide_eq_true (by omega)
    rw [hd]
    clear hd
    go_enter Try.func5, Try.ntmps5
    go_wp2
    go_ret
    exact ⟨rfl, rfl⟩

set_option maxHeartbeats 400000 in
theorem bytesB_any (ao ao' : Option Addr) (n c n' c' : Nat) (k : Int) (w : World) (hn : n ≤ 9223372036854775807) (hn' : n' ≤ 9223372036854775807) :
    Calls Try.prog 13 #[.slice ao n c, .slice ao' n' c', .int .i64 k] w fun e w' => e = .returned (.bool (decide (n + n' ≤ 1048576))) ∧ w = w' := by
  by_cases h1 : 1048576 < n
  · have hd : decide (n + n' ≤ 1048576) = false := decide_eq_false (by omega)
    rw [hd]
    clear hd
    go_enter Try.func13, Try.ntmps13
    go_wp2
    go_ret
    exact ⟨rfl, rfl⟩
  by_cases h2 : 1048576 < n'
  · have hd : decide (n + n' ≤ 1048576) = false := decide_eq_false (by omega)
    rw [hd]
    clear hd
    go_enter Try.func13, Try.ntmps13
    go_wp2
    go_ret
    exact ⟨rfl, rfl⟩
  by_cases h3 : 1048576 < n + n'
  · have hd : decide (n + n' ≤ 1048576) = false := decide_eq_false (by omega)
    rw [hd]
    clear hd
    go_enter Try.func13, Try.ntmps13
    go_wp2
    go_ret
    exact ⟨rfl, rfl⟩
  · have hd : decide (n + n' ≤ 1048576) = true := decide_eq_true (by omega)
    rw [hd]
    clear hd
    go_enter Try.func13, Try.ntmps13
    go_wp2
    go_ret
    exact ⟨rfl, rfl⟩

set_option maxHeartbeats 400000 in
theorem newSorter_any (v : Value) (w : World) (hv : ∃ ao n c, v = .slice ao n c) :
    Calls Try.prog 15 #[v] w fun e w' => e = .returned (.pointer (some ⟨w.heap.size, 0, none⟩)) ∧ w' = w.alloc (.cells #[.string ⟨#[]⟩, v, .slice none 0 0, .slice none 0 0, .int .i64 0, .int .i32 0, .int .u32 0, .string ⟨#[]⟩, .bool false] 56) := by
  obtain ⟨ao, n, c, rfl⟩ := hv
  go_enter Try.func15, Try.ntmps15
  go_wp2
  go_ret
  exact ⟨rfl, rfl⟩

set_option maxHeartbeats 400000 in
theorem newSource_any (S : Nat) (r : Int) (w : World) :
    Calls Try.prog 9 #[.pointer (some ⟨S, 0, none⟩), .int .i64 r] w fun e w' => e = .returned (.pointer (some ⟨w.heap.size, 0, none⟩)) ∧ w' = w.alloc (.cells #[.pointer (some ⟨S, 0, none⟩), .int .i64 r] 45) := by
  go_enter Try.func9, Try.ntmps9
  go_wp2
  go_ret
  exact ⟨rfl, rfl⟩

set_option maxHeartbeats 400000 in
theorem read_any (M : Nat) (r : Int) (w : World) (h : w.cell? ⟨M, 1, none⟩ = some (.int .i64 r)) :
    Calls Try.prog 12 #[.pointer (some ⟨M, 0, none⟩)] w fun e w' => e = .returned (.int .i64 r) ∧ w = w' := by
  go_enter Try.func12, Try.ntmps12
  go_wp2
  go_ret
  exact ⟨rfl, rfl⟩

set_option maxHeartbeats 400000 in
theorem sameB_any (ao bo : Option Addr) (n ca cb : Nat) (A : Nat → Int) (w : World) (hn : n ≤ 524288) (ha : seesB w ao n A) (hb : seesB w bo n A) :
    Calls Try.prog 14 #[.slice ao n ca, .slice bo n cb] w fun e w' => e = .returned (.bool true) ∧ ∃ q, w' = w.drewN q := by
  go_enter Try.func14, Try.ntmps14
  go_wp2
  go_loopw [5] (fun i wr => ∃ k : Nat, k ≤ n ∧ i = .int .i64 k ∧ ∃ q, wr = w.drewN q) (fun i _ => n - (intOf i).toNat)
  case atStart => exact ⟨0, Nat.zero_le _, rfl, 0, rfl⟩
  case round =>
    obtain ⟨k, hk, rfl, q, rfl⟩ := hrel
    by_cases hlt : k < n
    · rcases ha with rfl | ⟨b, off, rfl, _, hA⟩
      · omega
      rcases hb with rfl | ⟨b', off', rfl, _, hB⟩
      · omega
      have c1 := hA k hlt
      have c2 := hB k hlt
      go_wp2
      go_quiet (fail)
      go_wp2
      go_roundw
      case rel => exact ⟨k + 1, by omega, by go_num, q + nq, rfl⟩
      case measure => simp [intOf]; omega
    · go_wp2
      go_ret
      exact ⟨rfl, q, rfl⟩

theorem Try.info5 : (Try.prog.info? 5).map (fun i => (i.zero, i.size, i.bytes)) = some (some (.int .u8 0), 1, 1) := by kernel_rfl

set_option maxHeartbeats 400000 in
theorem clone_nil (w : World) :
    Calls Try.prog 7 #[.slice none 0 0] w fun e w' => e = .returned (.slice none 0 0) ∧ w = w' := by
  have hnl := fun wx => Lib.run_eql_slice_nil (P := Try.prog) wx 22 5 none 0 0 0 0 Try.underlying22
  go_enter Try.func7, Try.ntmps7
  go_wp2
  go_ret
  exact ⟨rfl, rfl⟩

set_option maxHeartbeats 400000 in
theorem clone_some (a : Addr) (n cap : Nat) (A : Nat → Int) (w : World) (hn : n ≤ 524288) (ha : seesB w (some a) n A) :
    Calls Try.prog 7 #[.slice (some a) n cap] w fun e w' => e = .returned (.slice (some ⟨w.heap.size, 0, none⟩) n n) ∧ seesB w' (some ⟨w.heap.size, 0, none⟩) n A ∧ Below w.heap.size w w' := by
  have hnl := fun wx => Lib.run_eql_slice_nil (P := Try.prog) wx 22 5 (some a) n cap 0 0 Try.underlying22
  have hmk := run_make_row' (P := Try.prog) 22 5 (.int .u8 0) 1 Try.underlying22 Try.info5 rfl .i64 .i64 n (by omega) (by omega)
  go_enter Try.func7, Try.ntmps7
  go_wp2
  clear hmk hnl
  go_loopw [4] (fun i wr => ∃ k : Nat, k ≤ n ∧ i = .int .i64 k ∧ wr.rowIs w.heap.size 5 n (fun j => if j < k then .int .u8 (A j) else .int .u8 0) ∧ Below w.heap.size w wr) (fun i _ => n - (intOf i).toNat)
  case atStart =>
    refine ⟨0, Nat.zero_le _, rfl, ?_, (Below.refl _ _).alloc (Nat.le_refl _) _⟩
    exact (World.rowIs_made w (.int .u8 0) n 5).congr (fun i _ => by simp)
  case round =>
    obtain ⟨k, hk, rfl, hrow, hbel⟩ := hrel
    by_cases hlt : k < n
    · rcases ha with rfl | ⟨b, off, hab, hb, hA⟩
      · omega
      obtain rfl : a = ⟨b, off, none⟩ := by simpa using hab
      have c1 := (hbel.cell (p := ⟨b, off + k, none⟩) hb).trans (hA k hlt)
      have c2 := hrow.cell hlt
      have c3 := hrow.frozen k
      simp only [Nat.lt_irrefl, if_false] at c2
      go_wp2
      go_roundw
      case rel =>
        refine ⟨k + 1, by omega, by go_num, (hrow.set k _).congr (fun j _ => ?_), hbel.setCell (Nat.le_refl _) _⟩
        by_cases e : j = k
        · subst e
          simp
        · by_cases g : j < k
          · rw [if_neg e, if_pos g, if_pos (by omega)]
          · rw [if_neg e, if_neg g, if_neg (by omega)]
      case measure => simp [intOf]; omega
    · have hkn : k = n := by omega
      subst hkn
      go_wp2
      go_ret
      refine ⟨rfl, .inr ⟨_, _, rfl, hrow.lt, fun i hi => ?_⟩, hbel⟩
      have := hrow.cell hi
      simp only [hi, if_true] at this
      simpa using this

theorem clone_any (ao : Option Addr) (n cap : Nat) (A : Nat → Int) (w : World) (hn : n ≤ 524288) (hnil : ao = none → n = 0 ∧ cap = 0) (ha : seesB w ao n A) :
    Calls Try.prog 7 #[.slice ao n cap] w fun e w' => ∃ ao' cap', e = .returned (.slice ao' n cap') ∧ n ≤ cap' ∧ cap' ≤ 524288 ∧ seesB w' ao' n A ∧ Below w.heap.size w w' := by
  cases ao with
  | none =>
    obtain ⟨rfl, rfl⟩ := hnil rfl
    exact (clone_nil w).mono fun e w' ⟨he, hw⟩ => ⟨_, 0, he, Nat.le_refl _, by omega, .inl rfl, hw ▸ Below.refl _ _⟩
  | some a => exact (clone_some a n cap A w hn ha).mono fun e w' ⟨he, h1, h2⟩ => ⟨_, n, he, Nat.le_refl _, hn, h1, h2⟩

/-- Where the slice from l on begins. -/
def subA (ao : Option Addr) (l cap : Nat) : Option Addr := if cap = l then ao else ao.map (·.add l)
theorem seesB_sub {w : World} {ao : Option Addr} {n cap : Nat} {A : Nat → Int} (h : seesB w ao n A) {l m : Nat} (hl : l + m ≤ n) (hc : n ≤ cap) : seesB w (subA ao l cap) m (fun i => A (l + i)) := by
  by_cases hm : m = 0
  · exact .inl hm
  rcases h with h | ⟨b, off, rfl, hlt, hA⟩
  · omega
  refine .inr ⟨b, off + l, ?_, hlt, fun i hi => ?_⟩
  · unfold subA
    rw [if_neg (by omega)]
    simp [Addr.add_lit]
  · rw [Nat.add_assoc]
    exact hA (l + i) (by omega)

theorem ret_two {x x' y y' : Option Addr} {a a' b b' c c' d d' : Nat} (h1 : x = x') (h2 : a = a') (h3 : b = b') (h4 : y = y') (h5 : c = c') (h6 : d = d') :
    Ending.returned (.tuple #[.slice x a b, .slice y c d]) = .returned (.tuple #[.slice x' a' b', .slice y' c' d']) := by rw [h1, h2, h3, h4, h5, h6]

set_option maxHeartbeats 400000 in
theorem record_any (S : Nat) (ao : Option Addr) (n cap : Nat) (p0 p1 : Int) (off kl vl ln : Nat) (w : World) (hn : n ≤ cap) (hc : cap ≤ 524288) (hf : off + ln + kl + vl ≤ n) (h8 : ln ≤ 255)
    (hS : S < w.heap.size) (h1 : w.cell? ⟨S, 1, none⟩ = some (.slice ao n cap)) :
    Calls Try.prog 18 #[.pointer (some ⟨S, 0, none⟩), .agg #[.int .u64 p0, .int .u64 p1, .int .u32 off, .int .u32 kl, .int .u32 vl, .int .u8 ln]] w fun e w' =>
      e = .returned (.tuple #[.slice (subA ao (off + ln) cap) kl (cap - (off + ln)), .slice (subA ao (off + ln + kl) cap) vl (cap - (off + ln + kl))]) ∧ ∃ o q, w' = (w.alloc (.cells o 59)).drewN q := by
  go_enter Try.func18, Try.ntmps18
  go_wp2
  go_quiet (fail)
  go_wp2
  all_goals
    go_ret2
    refine ⟨ret_two ?_ ?_ ?_ ?_ ?_ ?_, _, _, rfl⟩
    all_goals first | omega | rfl | (simp only [subA, if_true]; done) | (unfold subA; rw [if_neg (by omega)])
end Go.Proofs.Qxb6625488a
