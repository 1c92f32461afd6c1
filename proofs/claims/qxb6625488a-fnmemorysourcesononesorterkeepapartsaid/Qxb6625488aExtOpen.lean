/- THE ARGUMENTS OPENED: a slice of bytes; a slice of entries. -/
import Derived.Test.Qxb6625488aBuild
import Derived.ProofKit
import Derived.OpenShut
import Derived.Deep.Slices
namespace Go.Proofs.Qxb6625488a
open Go.ChangeShapes Go.WideShapes Go.ChangeAt Go.RowKit

theorem u32_of_wf {x : Int} (h : (Lit.int .u32 x).wf = true) : 0 ≤ x ∧ x ≤ 4294967295 := by
  simp [Lit.wf, IntKind.min, IntKind.max, IntKind.signed, IntKind.bits] at h
  omega
theorem u8_of_wf {x : Int} (h : (Lit.int .u8 x).wf = true) : 0 ≤ x ∧ x ≤ 255 := by
  simp [Lit.wf, IntKind.min, IntKind.max, IntKind.signed, IntKind.bits] at h
  omega

theorem viewB {H : Type} {enc : TypeId × Value → H} {W : World} {base : Nat} {v : Value} {d : DataW H} {p : List MemPlace} (hv : Value.okWide Try.prog W .any base 22 v) (h : DataW.Trod enc Try.prog W 0 (fun _ => true) true 22 v d p) :
    ∃ ao n cap A, v = .slice ao n cap ∧ n ≤ cap ∧ cap ≤ maxLen ∧ (ao = none → n = 0 ∧ cap = 0) ∧ seesB W ao n A := by
  obtain ⟨ao, len, cap, rfl⟩ := okWide_slice Try.underlying22 hv
  obtain ⟨fuel, hf⟩ := h
  rcases open_ints Try.underlying22 Try.underlying5 (by kernel_rfl) hf with ⟨hcs, _⟩ | ⟨a, l, c, zs, hcs, _, hl, hm, hz, _, hcell, _⟩
  · simp [Value.cells] at hcs
    obtain ⟨rfl, rfl, rfl⟩ := hcs
    exact ⟨_, _, _, fun _ => 0, rfl, Nat.le_refl _, by unfold maxLen; omega, fun _ => ⟨rfl, rfl⟩, .inl rfl⟩
  · simp [Value.cells] at hcs
    obtain ⟨rfl, rfl, rfl⟩ := hcs
    simp only [if_true] at hz
    refine ⟨_, _, _, fun i => zs.getD i 0, rfl, hl, hm, (fun e => by cases e), ?_⟩
    by_cases hz0 : len = 0
    · exact .inl hz0
    obtain ⟨b, off, rfl, hc⟩ := ints_at hcell (by omega)
    refine .inr ⟨b, off, rfl, ?_, fun i hi => hc i (by omega)⟩
    exact World.block_lt_of_cell? _ _ (hc 0 (by omega))

/-- One entry's six cells. -/
theorem entry_cells {H : Type} {enc : TypeId × Value → H} {W : World} {n : Nat} {cs : List Value} {x : DataW H × List MemPlace} (h : DataW.trod enc Try.prog W 0 (fun _ => true) true n 29 cs = some x) :
    ∃ r : Rf, cs = cells6 r ∧ r.Ok := by
  obtain ⟨xs, m, _, _, hl, hlen, hf⟩ := DataW.trod_struct Try.underlying29 h
  have c29 : Try.prog.cellsOf 29 = 6 := by kernel_rfl
  have c26 : Try.prog.cellsOf 26 = 1 := by kernel_rfl
  have c27 : Try.prog.cellsOf 27 = 1 := by kernel_rfl
  have c5 : Try.prog.cellsOf 5 = 1 := by kernel_rfl
  rw [c29] at hl
  match cs, hl, xs, hlen with
  | [a0, a1, a2, a3, a4, a5], _, [y0, y1, y2, y3, y4, y5], _ =>
    have g0 := hf 0 _ rfl
    have g1 := hf 1 _ rfl
    have g2 := hf 2 _ rfl
    have g3 := hf 3 _ rfl
    have g4 := hf 4 _ rfl
    have g5 := hf 5 _ rfl
    simp [c26, c27, c5] at g0 g1 g2 g3 g4 g5
    obtain ⟨i0, e0, _, _⟩ := DataW.trod_int Try.underlying26 g0
    obtain ⟨i1, e1, _, _⟩ := DataW.trod_int Try.underlying26 g1
    obtain ⟨i2, e2, _, w2⟩ := DataW.trod_int Try.underlying27 g2
    obtain ⟨i3, e3, _, w3⟩ := DataW.trod_int Try.underlying27 g3
    obtain ⟨i4, e4, _, w4⟩ := DataW.trod_int Try.underlying27 g4
    obtain ⟨i5, e5, _, w5⟩ := DataW.trod_int Try.underlying5 g5
    simp at e0 e1 e2 e3 e4 e5
    subst e0 e1 e2 e3 e4 e5
    have b2 := u32_of_wf w2
    have b3 := u32_of_wf w3
    have b4 := u32_of_wf w4
    have b5 := u8_of_wf w5
    obtain ⟨n2, rfl⟩ := Int.eq_ofNat_of_zero_le b2.1
    obtain ⟨n3, rfl⟩ := Int.eq_ofNat_of_zero_le b3.1
    obtain ⟨n4, rfl⟩ := Int.eq_ofNat_of_zero_le b4.1
    obtain ⟨n5, rfl⟩ := Int.eq_ofNat_of_zero_le b5.1
    exact ⟨⟨i0, i1, n2, n3, n4, n5⟩, rfl, ⟨by show n2 ≤ _; omega, by show n3 ≤ _; omega, by show n4 ≤ _; omega, by show n5 ≤ _; omega⟩⟩

theorem viewR {H : Type} {enc : TypeId × Value → H} {W : World} {base : Nat} {v : Value} {d : DataW H} {p : List MemPlace} (hv : Value.okWide Try.prog W .any base 23 v) (h : DataW.Trod enc Try.prog W 0 (fun _ => true) true 23 v d p) :
    ∃ ao n cap R, v = .slice ao n cap ∧ n ≤ maxLen ∧ seesR W ao n R ∧ ∀ i, i < n → (R i).Ok := by
  obtain ⟨ao, len, cap, rfl⟩ := okWide_slice Try.underlying23 hv
  obtain ⟨fuel, hf⟩ := h
  have c29 : Try.prog.cellsOf 29 = 6 := by kernel_rfl
  rcases Deep.open_slice Try.underlying23 hf with ⟨hcs, _⟩ | ⟨a, l, c, m, n, D, Pl, hcs, _, hl, hm', hm, _, hx⟩
  · simp [Value.cells] at hcs
    obtain ⟨rfl, rfl, rfl⟩ := hcs
    exact ⟨_, _, _, fun _ => ⟨0, 0, 0, 0, 0, 0⟩, rfl, by unfold maxLen; omega, .inl rfl, fun i hi => by omega⟩
  · simp [Value.cells] at hcs
    obtain ⟨rfl, rfl, rfl⟩ := hcs
    by_cases hz : len = 0
    · subst hz
      exact ⟨_, _, _, fun _ => ⟨0, 0, 0, 0, 0, 0⟩, rfl, by unfold maxLen; omega, .inl rfl, fun i hi => by omega⟩
    simp only [if_true] at hm
    subst hm
    have each : ∀ i, i < len → ∃ r : Rf, r.Ok ∧ ∀ j u, (cells6 r)[j]? = some u → W.cell? ((a.add (i * 6)).add j) = some u := by
      intro i hi
      obtain ⟨cs', h1, h2⟩ := hx i (by omega)
      rw [c29] at h1
      obtain ⟨r, rfl, hr⟩ := entry_cells h2
      obtain ⟨_, _, hcell⟩ := World.cells?_some h1
      refine ⟨r, hr, fun j u hj => ?_⟩
      have hj6 : j < 6 := by
        have := (List.getElem?_eq_some_iff.1 hj).1
        simpa [cells6] using this
      rw [hcell j (by omega)]
      exact hj
    obtain ⟨R, hR⟩ : ∃ R : Nat → Rf, ∀ i, i < len → (R i).Ok ∧ ∀ j u, (cells6 (R i))[j]? = some u → W.cell? ((a.add (i * 6)).add j) = some u := by
      refine ⟨fun i => if hi : i < len then (each i hi).choose else ⟨0, 0, 0, 0, 0, 0⟩, fun i hi => ?_⟩
      have := (each i hi).choose_spec
      simpa only [hi, dif_pos] using this
    obtain ⟨b, off, spot⟩ := a
    have h0 := (hR 0 (by omega)).2 0 _ rfl
    have hspot : spot = none := by simpa [Addr.add] using World.cell?_spot h0
    subst hspot
    refine ⟨_, _, _, R, rfl, by omega, .inr ⟨b, off, rfl, ?_, ?_⟩, fun i hi => (hR i hi).1⟩
    · have := World.block_lt_of_cell? _ _ h0
      simpa [Addr.add] using this
    · intro i hi
      have H : ∀ j u, (cells6 (R i))[j]? = some u → W.cell? ⟨b, off + i * 6 + j, none⟩ = some u := by
        intro j u hj
        have := (hR i hi).2 j u hj
        rw [Addr.add_lit, Addr.add_lit] at this
        exact this
      exact ⟨H 0 _ rfl, H 1 _ rfl, H 2 _ rfl, H 3 _ rfl, H 4 _ rfl, H 5 _ rfl⟩
end Go.Proofs.Qxb6625488a
