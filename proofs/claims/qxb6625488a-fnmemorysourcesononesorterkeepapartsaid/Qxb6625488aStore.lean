/- ALL THAT THE SOURCES READ, in one word. -/
import Derived.Test.Qxb6625488aBuild
namespace Go.Proofs.Qxb6625488a
open Go.RowKit

theorem flatR_length (R : Nat → Rf) : ∀ n, (flatR R n).length = n * 6
  | 0 => rfl
  | n + 1 => by simp [flatR, flatR_length R n, cells6]; omega
theorem flatR_get (R : Nat → Rf) : ∀ n i, i < n → ∀ j u, (cells6 (R i))[j]? = some u → (flatR R n)[i * 6 + j]? = some u
  | 0, i, h => by omega
  | n + 1, i, h => by
    intro j u hj
    have hl := flatR_length R n
    have hj6 : j < 6 := by
      have := (List.getElem?_eq_some_iff.1 hj).1
      simpa [cells6] using this
    unfold flatR
    by_cases hi : i < n
    · rw [List.getElem?_append_left (by omega)]
      exact flatR_get R n i hi j u hj
    · obtain rfl : i = n := by omega
      rw [List.getElem?_append_right (by omega), hl, Nat.add_sub_cancel_left]
      exact hj
theorem liesR_of_own {w : World} {base g n cap : Nat} {R : Nat → Rf} (h : w.ownsRow base 59 6 (.slice (some ⟨g, 0, none⟩) n cap) n (flatR R n)) : liesR w g 0 n R := by
  intro i hi
  have hc := h.cells (g := g) rfl
  have H : ∀ j u, (cells6 (R i))[j]? = some u → w.cell? ⟨g, 0 + (i * 6 + j), none⟩ = some u := by
    intro j u hj
    have := hc _ _ (flatR_get R n i hi j u hj)
    rw [Addr.add_lit] at this
    exact this
  have h0 := H 0 _ rfl
  have h1 := H 1 _ rfl
  have h2 := H 2 _ rfl
  have h3 := H 3 _ rfl
  have h4 := H 4 _ rfl
  have h5 := H 5 _ rfl
  simp only [Nat.zero_add, Nat.add_zero] at h0 h1 h2 h3 h4 h5 ⊢
  exact ⟨h0, h1, h2, h3, h4, h5⟩

/-- The arguments, the Sorter in block S, its arena and its entries, in the world w. -/
structure Store (w : World) (S : Nat) (ao ro ao' : Option Addr) (an n cap' : Nat) (A : Nat → Int) (R : Nat → Rf) : Prop where
  arena : seesB w ao an A
  refs : seesR w ro n R
  clone : seesB w ao' an A
  here : S < w.heap.size
  s1 : w.cell? ⟨S, 1, none⟩ = some (.slice ao' an cap')
  s2 : ∃ rv c, w.cell? ⟨S, 2, none⟩ = some (.slice rv n c) ∧ (0 < n → ∃ g, rv = some ⟨g, 0, none⟩ ∧ g < w.heap.size ∧ liesR w g 0 n R)
theorem store_below {w w' : World} {S : Nat} {ao ro ao' : Option Addr} {an n cap' : Nat} {A : Nat → Int} {R : Nat → Rf} (h : Store w S ao ro ao' an n cap' A R) (hb : Below w.heap.size w w') : Store w' S ao ro ao' an n cap' A R := by
  obtain ⟨h1, h2, h3, h4, h5, rv, c, h6, h7⟩ := h
  have hz := hb.size
  refine ⟨seesB_below h1 hb (Nat.le_refl _), seesR_below h2 hb (Nat.le_refl _), seesB_below h3 hb (Nat.le_refl _), by omega, (hb.cell (p := ⟨S, 1, none⟩) h4).trans h5, rv, c, (hb.cell (p := ⟨S, 2, none⟩) h4).trans h6, fun hn => ?_⟩
  obtain ⟨g, e, hg, hl⟩ := h7 hn
  exact ⟨g, e, by omega, liesR_below hl hb hg⟩
theorem store_of {w1 w2 : World} {ao ro ao' : Option Addr} {an n cap' : Nat} {A : Nat → Int} {R : Nat → Rf} {v : Value} (ha : seesB w1 ao an A) (hr : seesR w1 ro n R) (hc : seesB w1 ao' an A) (hb : Below w1.heap.size w1 w2) (hs : Sorter w2 w1.heap.size (.slice ao' an cap') n R v) : Store w2 w1.heap.size ao ro ao' an n cap' A R := by
  refine ⟨seesB_below ha hb (Nat.le_refl _), seesR_below hr hb (Nat.le_refl _), seesB_below hc hb (Nat.le_refl _), hs.here, hs.arena, ?_⟩
  rcases hs.own.2 with ⟨hv, hn⟩ | ⟨g, c, cur, hv, _⟩
  · subst hv
    subst hn
    exact ⟨none, 0, hs.refs, fun h => by omega⟩
  · subst hv
    refine ⟨_, c, hs.refs, fun _ => ⟨g, rfl, (hs.own.lt g rfl).2, liesR_of_own hs.own⟩⟩

/-- A source in block M over the Sorter in block S, k entries read. -/
structure Src (w : World) (M S : Nat) (k : Nat) : Prop where
  here : M < w.heap.size
  ptr : w.cell? ⟨M, 0, none⟩ = some (.pointer (some ⟨S, 0, none⟩))
  read : w.cell? ⟨M, 1, none⟩ = some (.int .i64 k)
  free : w.frozen? ⟨M, 1, none⟩ = false
theorem src_below {w w' : World} {M S k B : Nat} (h : Src w M S k) (hb : Below B w w') (hB : M < B) : Src w' M S k :=
  ⟨Nat.lt_of_lt_of_le h.here hb.size, (hb.cell (p := ⟨M, 0, none⟩) hB).trans h.ptr, (hb.cell (p := ⟨M, 1, none⟩) hB).trans h.read, (hb.frozen (p := ⟨M, 1, none⟩) hB).trans h.free⟩
theorem src_moved {w w' : World} {M S k : Nat} (h : Src w M S k) (hm : Moved M (k + 1) w w') : Src w' M S (k + 1) :=
  ⟨Nat.lt_of_lt_of_le h.here hm.grown.size, hm.ptr.trans h.ptr, by rw [hm.read]; rfl, hm.free⟩
theorem src_other {w w' : World} {M M' S k : Nat} {r : Int} (h : Src w M S k) (hm : Moved M' r w w') (hne : M ≠ M') : Src w' M S k := by
  have hb : w'.heap[M]? = w.heap[M]? := hm.grown.block M h.here (by intro e; exact hne (Option.some.inj e))
  exact ⟨Nat.lt_of_lt_of_le h.here hm.grown.size, (World.cell?_of_block (a := ⟨M, 0, none⟩) hb).trans h.ptr, (World.cell?_of_block (a := ⟨M, 1, none⟩) hb).trans h.read, (World.frozen?_of_block (a := ⟨M, 1, none⟩) hb).trans h.free⟩
theorem below_moved {B M : Nat} {r : Int} {w0 w w' : World} (h : Below B w0 w) (hm : Moved M r w w') (hB : B ≤ w.heap.size) (hM : B ≤ M) : Below B w0 w' :=
  h.grown hm.grown hB (fun k e => by have := Option.some.inj e; omega)

/-- 'ZZnext', in these words. -/
theorem step_some {w : World} {M S : Nat} {ao ro ao' : Option Addr} {an n cap' k : Nat} {A : Nat → Int} {R : Nat → Rf} (st : Store w S ao ro ao' an n cap' A R) (src : Src w M S k) (hk : k < n) (hn : n ≤ 16384) (hac : an ≤ cap') (hc : cap' ≤ 524288) (hok : (R k).Ok) (hf : (R k).fits an) :
    Calls Try.prog 10 #[.pointer (some ⟨M, 0, none⟩)] w fun e w' => e = .returned (.tuple #[.slice (subA ao' ((R k).off + (R k).ln) cap') (R k).kl (cap' - ((R k).off + (R k).ln)), .slice (subA ao' ((R k).off + (R k).ln + (R k).kl) cap') (R k).vl (cap' - ((R k).off + (R k).ln + (R k).kl)), .bool true, .nilIface]) ∧ Moved M (k + 1) w w' := by
  obtain ⟨rv, c, h2, h3⟩ := st.s2
  obtain ⟨g, rfl, hg, hl⟩ := h3 (by omega)
  obtain ⟨c0, c1, c2, c3, c4, c5⟩ := hl k hk
  simp only [Nat.zero_add] at c0 c1 c2 c3 c4 c5
  exact zzNext_some M S g n c k ao' an cap' _ _ _ _ _ _ w hn hk src.ptr src.read src.free src.here st.here hg st.s1 h2 c0 c1 c2 c3 c4 c5 hac hc hf hok.ln
theorem step_end {w : World} {M S : Nat} {ao ro ao' : Option Addr} {an n cap' : Nat} {A : Nat → Int} {R : Nat → Rf} (st : Store w S ao ro ao' an n cap' A R) (src : Src w M S n) (hn : n ≤ 16384) :
    Calls Try.prog 10 #[.pointer (some ⟨M, 0, none⟩)] w fun e w' => e = .returned (.tuple #[.slice none 0 0, .slice none 0 0, .bool false, .nilIface]) ∧ ∃ q, w' = w.drewN q := by
  obtain ⟨rv, c, h2, _⟩ := st.s2
  exact zzNext_end M S rv n c w hn src.ptr src.read h2
end Go.Proofs.Qxb6625488a
