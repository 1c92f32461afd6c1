/- 'ZZaddRef', 'zzBuildSorter'. -/
import Derived.Test.Qxb6625488aExtMore
namespace Go.Proofs.Qxb6625488a
open Go.RowKit

theorem Try.info59 : (Try.prog.info? 59).map (fun i => (i.zero, i.size, i.bytes)) = some (some (.agg #[.int .u64 0, .int .u64 0, .int .u32 0, .int .u32 0, .int .u32 0, .int .u8 0]), 6, 32) := by kernel_rfl

/-- The six cells of an entry. -/
def cells6 (r : Rf) : List Value := [.int .u64 r.p0, .int .u64 r.p1, .int .u32 r.off, .int .u32 r.kl, .int .u32 r.vl, .int .u8 r.ln]

theorem six_cells (w : World) (r : Rf) : ∀ j u, (cells6 r)[j]? = some u → (w.alloc (.cells #[.int .u64 r.p0, .int .u64 r.p1, .int .u32 r.off, .int .u32 r.kl, .int .u32 r.vl, .int .u8 r.ln] 59)).cell? ((⟨w.heap.size, 0, none⟩ : Addr).add j) = some u := by
  intro j u hj
  rw [Addr.add_lit, World.cell?_alloc_at _ _ _ _ rfl]
  simpa [cells6] using hj
theorem one6 (r : Rf) : ∀ u ∈ cells6 r, u.oneCell' = true := by
  intro u hu
  simp [cells6] at hu
  rcases hu with rfl | rfl | rfl | rfl | rfl | rfl <;> rfl
theorem owns_shape {w : World} {base n : Nat} {v : Value} {xs : List Value} (h : w.ownsRow base 59 6 v (n + 1) xs) : ∃ g cap, v = .slice (some ⟨g, 0, none⟩) (n + 1) cap := by
  rcases h.2 with ⟨_, hz⟩ | ⟨g, cap, cur, hv, _⟩
  · omega
  · exact ⟨g, cap, hv⟩
/-- What the store into the field leaves. -/
theorem add_done {S k : Nat} {v v' : Value} {xs : List Value} {r : Rf} {w w1 : World} {o : Obj} {row : Option Nat} (hS : S < w.heap.size) (h2 : w.cell? ⟨S, 2, none⟩ = some v) (hf : w.frozen? ⟨S, 2, none⟩ = false) (hown : w1.ownsRow (S + 1) 59 6 v' k (xs ++ cells6 r)) (hg : (w.alloc o).grownBy w1 row) (hr : ∀ b, row = some b → S < b) :
    w1.cell? ⟨S, 2, none⟩ = some v ∧ w1.frozen? ⟨S, 2, none⟩ = false ∧
    (w1.setCell ⟨S, 2, none⟩ v').cell? ⟨S, 2, none⟩ = some v' ∧ (w1.setCell ⟨S, 2, none⟩ v').ownsRow (S + 1) 59 6 v' k (xs ++ cells6 r) ∧ (w1.setCell ⟨S, 2, none⟩ v').cell? ⟨S, 1, none⟩ = w.cell? ⟨S, 1, none⟩ ∧ (w1.setCell ⟨S, 2, none⟩ v').frozen? ⟨S, 2, none⟩ = false ∧ Below S w (w1.setCell ⟨S, 2, none⟩ v') := by
  have hne : some S ≠ row := fun e => by have := hr S e.symm; omega
  have hb : w1.heap[S]? = w.heap[S]? := (hg.block S (by simp; omega) hne).trans (Below.heap_alloc w o S hS)
  have q2 : w1.cell? ⟨S, 2, none⟩ = some v := (World.cell?_of_block (a := ⟨S, 2, none⟩) hb).trans h2
  have q1 : w1.cell? ⟨S, 1, none⟩ = w.cell? ⟨S, 1, none⟩ := World.cell?_of_block (a := ⟨S, 1, none⟩) hb
  have qf : w1.frozen? ⟨S, 2, none⟩ = false := (World.frozen?_of_block (a := ⟨S, 2, none⟩) hb).trans hf
  refine ⟨q2, qf, by simp [go_sem, q2], ownsRow_setCell_below hown (by simp) _, ?_, ?_, ?_⟩
  · rw [← q1]; simp [go_sem]
  · rw [World.frozen?_setCell]; exact qf
  · exact (((Below.refl S w).alloc (by omega) o).grown hg (by simp; omega) (fun b e => by have := hr b e; omega)).setCell (by simp) _

set_option maxHeartbeats 400000 in
theorem addRef_any (S k : Nat) (v : Value) (xs : List Value) (r : Rf) (w : World) (hk : k ≤ 16384) (hS : S < w.heap.size) (h2 : w.cell? ⟨S, 2, none⟩ = some v) (hf : w.frozen? ⟨S, 2, none⟩ = false) (hown : w.ownsRow (S + 1) 59 6 v k xs) :
    Calls Try.prog 16 #[.pointer (some ⟨S, 0, none⟩), .int .u64 r.p0, .int .u64 r.p1, .int .u32 r.off, .int .u32 r.kl, .int .u32 r.vl, .int .u8 r.ln] w fun e w' => e = .returned (.tuple #[]) ∧
      ∃ v', w'.cell? ⟨S, 2, none⟩ = some v' ∧ w'.ownsRow (S + 1) 59 6 v' (k + 1) (xs ++ cells6 r) ∧ w'.cell? ⟨S, 1, none⟩ = w.cell? ⟨S, 1, none⟩ ∧ w'.frozen? ⟨S, 2, none⟩ = false ∧ Below S w w' := by
  obtain ⟨i0, hi, hz0, hz1, hz2⟩ := info_parts Try.info59
  rcases hown.2 with ⟨hv, hk0⟩ | ⟨g, cap, cur, hv, hgb, hblk, hkc, hcm, hcs, htk⟩
  · subst hv
    subst hk0
    go_enter Try.func16, Try.ntmps16
    go_wp2_with (at_builtin; refine wpList_append_own _ rfl _ _ 47 rfl (S + 1) 59 i0 _ 6 32 Try.underlying47 hi hz0 hz1 hz2 rfl (by decide) _ _ _ rfl (hown.alloc _) ⟨w.heap.size, 0, none⟩ 1 1 (cells6 r) rfl rfl ?c1 ?c2 ?c3 ?c4 ?c5 ?_)
    case c1 => exact six_cells w r
    case c2 => exact one6 r
    case c3 => unfold maxLen; omega
    case c4 => omega
    case c5 => simp; omega
    intro v' w1 hown1 hgrow _
    obtain ⟨g', cap', hv'⟩ := owns_shape hown1
    rw [hv']
    have F := add_done (r := r) hS h2 hf (hv' ▸ hown1) hgrow (by simp [Value.ownBlock])
    obtain ⟨f1, f2, F⟩ := F
    clear hown1 hgrow h2 hf hown
    go_wp2
    go_end0
    exact ⟨rfl, _, F⟩
  · subst hv
    clear hblk hcs htk hkc hcm
    go_enter Try.func16, Try.ntmps16
    go_wp2_with (at_builtin; refine wpList_append_own _ rfl _ _ 47 rfl (S + 1) 59 i0 _ 6 32 Try.underlying47 hi hz0 hz1 hz2 rfl (by decide) _ _ _ rfl (hown.alloc _) ⟨w.heap.size, 0, none⟩ 1 1 (cells6 r) rfl rfl ?d1 ?d2 ?d3 ?d4 ?d5 ?_)
    case d1 => exact six_cells w r
    case d2 => exact one6 r
    case d3 => unfold maxLen; omega
    case d4 => omega
    case d5 => simp; omega
    intro v' w1 hown1 hgrow _
    obtain ⟨g', cap', hv'⟩ := owns_shape hown1
    rw [hv']
    have F := add_done (r := r) hS h2 hf (hv' ▸ hown1) hgrow (by simp [Value.ownBlock]; omega)
    obtain ⟨f1, f2, F⟩ := F
    clear hown1 hgrow h2 hf hown
    go_wp2
    go_end0
    exact ⟨rfl, _, F⟩

/-- n entries lie from offset off of block b on. -/
def liesR (w : World) (b off n : Nat) (R : Nat → Rf) : Prop := ∀ i, i < n →
  w.cell? ⟨b, off + i * 6, none⟩ = some (.int .u64 (R i).p0) ∧ w.cell? ⟨b, off + i * 6 + 1, none⟩ = some (.int .u64 (R i).p1) ∧ w.cell? ⟨b, off + i * 6 + 2, none⟩ = some (.int .u32 (R i).off) ∧
  w.cell? ⟨b, off + i * 6 + 3, none⟩ = some (.int .u32 (R i).kl) ∧ w.cell? ⟨b, off + i * 6 + 4, none⟩ = some (.int .u32 (R i).vl) ∧ w.cell? ⟨b, off + i * 6 + 5, none⟩ = some (.int .u8 (R i).ln)
theorem liesR_below {B b off n : Nat} {w w' : World} {R : Nat → Rf} (h : liesR w b off n R) (hb : Below B w w') (hB : b < B) : liesR w' b off n R := by
  intro i hi
  have H : ∀ o, w'.cell? ⟨b, o, none⟩ = w.cell? ⟨b, o, none⟩ := fun o => hb.cell (p := ⟨b, o, none⟩) hB
  rw [H, H, H, H, H, H]
  exact h i hi
/-- A slice of n entries, nil or not, as it is read. -/
def seesR (w : World) (ao : Option Addr) (n : Nat) (R : Nat → Rf) : Prop := n = 0 ∨ ∃ b off, ao = some ⟨b, off, none⟩ ∧ b < w.heap.size ∧ liesR w b off n R
theorem seesR_below {B n : Nat} {ao : Option Addr} {w w' : World} {R : Nat → Rf} (h : seesR w ao n R) (hb : Below B w w') (hB : w.heap.size ≤ B) : seesR w' ao n R := by
  rcases h with h | ⟨b, off, rfl, hlt, hl⟩
  · exact .inl h
  · exact .inr ⟨b, off, rfl, Nat.lt_of_lt_of_le hlt hb.size, liesR_below hl hb (by omega)⟩

/-- The cells of the first k entries. -/
def flatR (R : Nat → Rf) : Nat → List Value
  | 0 => []
  | k + 1 => flatR R k ++ cells6 (R k)

/-- A Sorter in block S with the arena av and the first k entries. -/
structure Sorter (w : World) (S : Nat) (av : Value) (k : Nat) (R : Nat → Rf) (v : Value) : Prop where
  here : S < w.heap.size
  arena : w.cell? ⟨S, 1, none⟩ = some av
  refs : w.cell? ⟨S, 2, none⟩ = some v
  own : w.ownsRow (S + 1) 59 6 v k (flatR R k)

set_option maxHeartbeats 1000000 in
theorem build_any (av ro : Option Addr) (an ac n rc : Nat) (R : Nat → Rf) (w : World) (hn : n ≤ 16384) (hS : seesR w ro n R) :
    Calls Try.prog 8 #[.slice av an ac, .slice ro n rc] w fun e w' => e = .returned (.pointer (some ⟨w.heap.size, 0, none⟩)) ∧ Below w.heap.size w w' ∧ ∃ v, Sorter w' w.heap.size (.slice av an ac) n R v := by
  go_enter Try.func8, Try.ntmps8
  go_wp2_with (go_at_call 15; refine (newSorter_any _ _ ⟨_, _, _, rfl⟩).mono ?_; rintro e w' ⟨rfl, rfl⟩)
  go_loopw [6] (fun i wr => ∃ k : Nat, k ≤ n ∧ i = .int .i64 k ∧ Below w.heap.size w wr ∧ wr.frozen? ⟨w.heap.size, 2, none⟩ = false ∧ ∃ v, Sorter wr w.heap.size (.slice av an ac) k R v) (fun i _ => n - (intOf i).toNat)
  case atStart =>
    refine ⟨0, Nat.zero_le _, rfl, (Below.refl _ _).alloc (Nat.le_refl _) _, by simp [go_sem], .slice none 0 0, by simp, by simp [go_sem], by simp [go_sem], World.ownsRow_nil _ _ _ _⟩
  case round =>
    obtain ⟨k, hk, rfl, hbel, hfz, v, hv⟩ := hrel
    have hz := hv.here
    by_cases hlt : k < n
    · rcases hS with rfl | ⟨b, off, rfl, hb, hL⟩
      · omega
      obtain ⟨c0, c1, c2, c3, c4, c5⟩ := hL k hlt
      rw [← hbel.cell (by exact hb)] at c0 c1 c2 c3 c4 c5
      generalize hRk : R k = r at c0 c1 c2 c3 c4 c5
      have HR : Hid (R k = r) := hRk
      clear hRk
      go_wp2_with fail
      refine (addRef_any w.heap.size k v (flatR R k) r _ (by omega) (by simp; omega) (by rw [World.cell?_alloc_past _ _ _ hz]; exact hv.refs) (by rw [World.frozen?_alloc_past _ _ _ hz]; exact hfz) (hv.own.alloc _)).mono ?_
      rintro e w1 ⟨rfl, v', a2, aown, a1, af, ab⟩
      have hz1 := ab.size
      have hb1 : Below w.heap.size w w1 := (hbel.alloc (by omega) _).trans ab
      have har : w1.cell? ⟨w.heap.size, 1, none⟩ = some (.slice av an ac) := a1.trans (by rw [World.cell?_alloc_past _ _ _ hz]; exact hv.arena)
      have hown : w1.ownsRow (w.heap.size + 1) 59 6 v' (k + 1) (flatR R (k + 1)) := by
        have e : flatR R (k + 1) = flatR R k ++ cells6 r := by rw [flatR, HR.out]
        rw [e]; exact aown
      simp at hz1
      have hs : Sorter w1 w.heap.size (.slice av an ac) (k + 1) R v' := ⟨by omega, har, a2, hown⟩
      clear a1 aown ab a2 har hown c0 c1 c2 c3 c4 c5 hbel hfz hv
      go_wp2
      go_roundw
      case rel => exact ⟨k + 1, by omega, by go_num, hb1, af, v', hs⟩
      case measure => simp [intOf]; omega
    · have hkn : k = n := by omega
      subst hkn
      go_wp2
      go_ret
      exact ⟨rfl, hbel, v, hv⟩
end Go.Proofs.Qxb6625488a
