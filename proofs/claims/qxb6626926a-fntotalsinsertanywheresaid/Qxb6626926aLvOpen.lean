/- THE ARGUMENTS OPENED: a slice of levels; a level by value. -/
import Derived.Test.Qxb6626926aLvPlain
import Derived.ProofKit
import Derived.Deep.Slices
import Derived.Deep.Strs
import Derived.Lib.SmallJoins
namespace Go.Proofs.Qxb6626926a
open Go.ChangeShapes Go.WideShapes Go.ChangeAt Go.RowKit

theorem wrap_of_wf {x : Int} (h : (Lit.int .i64 x).wf = true) : wrap64 x = x := by
  simp [Lit.wf, IntKind.min, IntKind.max, IntKind.signed, IntKind.bits] at h
  unfold wrap64
  omega

/-- One level's three cells. -/
theorem level_cells {H : Type} {enc : TypeId × Value → H} {W : World} {n : Nat} {cs : List Value} {x : DataW H × List MemPlace} (h : DataW.trod enc Try.prog W 0 (fun _ => true) true n 24 cs = some x) :
    ∃ z : Int × Int × Int, cs = [.int .i64 z.1, .int .i64 z.2.1, .int .i64 z.2.2] ∧ isInt z := by
  obtain ⟨y0, y1, y2, m, _, hl, h0, h1, h2⟩ := Deep.trod_struct3 Try.underlying24 h
  have c3 : Try.prog.cellsOf 3 = 1 := by kernel_rfl
  have c24 : Try.prog.cellsOf 24 = 3 := by kernel_rfl
  rw [c24] at hl
  match cs, hl with
  | [a, b, c], _ =>
    simp [c3] at h0 h1 h2
    obtain ⟨i0, e0, _, w0⟩ := DataW.trod_int Try.underlying3 h0
    obtain ⟨i1, e1, _, w1⟩ := DataW.trod_int Try.underlying3 h1
    obtain ⟨i2, e2, _, w2⟩ := DataW.trod_int Try.underlying3 h2
    simp at e0 e1 e2
    subst e0 e1 e2
    exact ⟨(i0, i1, i2), rfl, wrap_of_wf w0, wrap_of_wf w1, wrap_of_wf w2⟩

theorem view {H : Type} {enc : TypeId × Value → H} {W : World} {base : Nat} {v : Value} {d : DataW H} {p : List MemPlace} (hv : Value.okWide Try.prog W .any base 22 v) (h : DataW.Trod enc Try.prog W 0 (fun _ => true) true 22 v d p) :
    ∃ ao n cap Z, v = .slice ao n cap ∧ sees W ao n Z ∧ ∀ i, i < n → isInt (Z i) := by
  obtain ⟨ao, len, cap, rfl⟩ := okWide_slice Try.underlying22 hv
  obtain ⟨fuel, hf⟩ := h
  have c24 : Try.prog.cellsOf 24 = 3 := by kernel_rfl
  rcases Deep.open_slice Try.underlying22 hf with ⟨hcs, _⟩ | ⟨a, l, c, m, n, D, Pl, hcs, _, hl, _, hm, _, hx⟩
  · simp [Value.cells] at hcs
    obtain ⟨rfl, rfl, rfl⟩ := hcs
    exact ⟨_, _, _, fun _ => (0, 0, 0), rfl, .inl rfl, fun i hi => by omega⟩
  · simp [Value.cells] at hcs
    obtain ⟨rfl, rfl, rfl⟩ := hcs
    by_cases hz : len = 0
    · subst hz
      exact ⟨_, _, _, fun _ => (0, 0, 0), rfl, .inl rfl, fun i hi => by omega⟩
    simp only [if_true] at hm
    subst hm
    have each : ∀ i, i < len → ∃ z : Int × Int × Int, isInt z ∧ W.cell? (a.add (i * 3)) = some (.int .i64 z.1) ∧ W.cell? ((a.add (i * 3)).add 1) = some (.int .i64 z.2.1) ∧ W.cell? ((a.add (i * 3)).add 2) = some (.int .i64 z.2.2) := by
      intro i hi
      obtain ⟨cs', h1, h2⟩ := hx i (by omega)
      rw [c24] at h1
      obtain ⟨z, rfl, hz⟩ := level_cells h2
      obtain ⟨_, _, hcell⟩ := World.cells?_some h1
      exact ⟨z, hz, by simpa [Addr.add] using hcell 0 (by simp), by simpa using hcell 1 (by simp), by simpa using hcell 2 (by simp)⟩
    obtain ⟨Z, hZ⟩ := Deep.choose_lt each
    obtain ⟨b, off, spot⟩ := a
    have h0 := (hZ 0 (by omega)).2.1
    have hspot : spot = none := by simpa [Addr.add] using World.cell?_spot h0
    subst hspot
    refine ⟨_, _, _, Z, rfl, .inr ⟨b, off, rfl, ?_, ?_⟩, fun i hi => (hZ i hi).1⟩
    · have := World.block_lt_of_cell? _ _ h0
      simpa [Addr.add] using this
    · intro i hi
      obtain ⟨_, g0, g1, g2⟩ := hZ i hi
      rw [Addr.add_lit] at g0 g1 g2
      rw [Addr.add_lit] at g1 g2
      exact ⟨g0, g1, g2⟩

/-- A level lies in block g. -/
def lv3 (w : World) (g : Nat) (x : Int × Int × Int) : Prop :=
  w.cell? ⟨g, 0, none⟩ = some (.int .i64 x.1) ∧ w.cell? ⟨g, 1, none⟩ = some (.int .i64 x.2.1) ∧ w.cell? ⟨g, 2, none⟩ = some (.int .i64 x.2.2)
theorem lv3_new (W : World) (a b c : Int) (t : TypeId) : lv3 (W.alloc (.cells #[.int .i64 a, .int .i64 b, .int .i64 c] t)) W.heap.size (a, b, c) := by
  unfold lv3
  simp
theorem lv3_below {B g : Nat} {w w' : World} {x : Int × Int × Int} (h : lv3 w g x) (hb : Below B w w') (hg : g < B) : lv3 w' g x := by
  obtain ⟨a, c, d⟩ := h
  exact ⟨(hb.cell (p := ⟨g, _, none⟩) hg).trans a, (hb.cell (p := ⟨g, _, none⟩) hg).trans c, (hb.cell (p := ⟨g, _, none⟩) hg).trans d⟩
theorem lv3_alloc {g : Nat} {w : World} {x : Int × Int × Int} (h : lv3 w g x) (hg : g < w.heap.size) (o : Obj) : lv3 (w.alloc o) g x := 
  lv3_below h ((Below.refl w.heap.size _).alloc (Nat.le_refl _) o) hg


theorem totals_as (ao : Option Addr) (n cap : Nat) (hn : n ≤ 43691) (Z : Nat → Int × Int × Int) (w : World) (a b c : Int) (hT : Hid (sumTo Z n = (a, b, c))) (hS : sees w ao n Z) :
    Calls Try.prog 8 #[.agg #[.slice ao n cap]] w fun e w' => e = .returned (.agg #[.int .i64 a, .int .i64 b, .int .i64 c]) ∧ Below w.heap.size w w' := by
  have h := totals_any ao n cap hn Z w hS
  rw [hT.out] at h
  exact h
end Go.Proofs.Qxb6626926a
