/- THE PLAIN LAW of the order: digit by digit from the highest place is length by place, then byte by byte. -/
import Derived.Test.Qxb6627213aCmpPlain
namespace Go.Proofs.Qxb6627213a
open Go.RowKit

/-- Digit j of a magnitude, counted from its first; 0 where there is none. -/
def dN (l : List UInt8) (j : Nat) : Int := match l[j]? with | some c => (c.toNat : Int) - 48 | none => 0
/-- .. at whatever index -/
def dI (l : List UInt8) (i : Int) : Int := if i < 0 then 0 else dN l i.toNat
/-- The digit of the magnitude a (scale s) at the place value 10^p. -/
def dAt (a : ByteArray) (s p : Int) : Int := dI a.data.toList (a.size - 1 - s - p)

def Dig (l : List UInt8) : Prop := ∀ c ∈ l, 48 ≤ c.toNat ∧ c.toNat ≤ 57
def LastNZ (l : List UInt8) : Prop := ∀ c, l.getLast? = some c → c ≠ 48
structure CanL (l : List UInt8) : Prop where
  here : l ≠ []
  dig : Dig l
  first : l.head? ≠ some 48
  last : LastNZ l

theorem dN_nil (j : Nat) : dN [] j = 0 := rfl
theorem dN_zero (c : UInt8) (l : List UInt8) : dN (c :: l) 0 = (c.toNat : Int) - 48 := rfl
theorem dN_succ (c : UInt8) (l : List UInt8) (j : Nat) : dN (c :: l) (j + 1) = dN l j := rfl
theorem dN_nonneg {l : List UInt8} (h : Dig l) (j : Nat) : 0 ≤ dN l j := by
  unfold dN
  match hl : l[j]? with
  | some c =>
    have := h c (List.mem_of_getElem? hl)
    simp only
    omega
  | none => exact Int.le_refl 0
theorem dig_tail {c : UInt8} {l : List UInt8} (h : Dig (c :: l)) : Dig l := fun d hd => h d (List.mem_cons_of_mem _ hd)
theorem lastNZ_tail {c : UInt8} {l : List UInt8} (h : LastNZ (c :: l)) : LastNZ l := by
  intro d hd
  refine h d ?_
  cases l with
  | nil => simp at hd
  | cons x l => rw [List.getLast?_cons_cons]; exact hd

theorem cmp_lt : ∀ {a b : List UInt8} {i : Nat}, Dig a → (∀ j, j < i → dN a j = dN b j) → dN a i < dN b i → Lib.compareBytes a b = -1
  | [], [], i, _, _, h => by simp [dN_nil] at h
  | [], _ :: _, _, _, _, _ => rfl
  | x :: l, [], i, ha, _, h => by
    have := dN_nonneg ha i
    rw [dN_nil] at h
    omega
  | x :: l, y :: m, 0, _, _, h => by
    rw [dN_zero, dN_zero] at h
    unfold Lib.compareBytes
    rw [if_pos (UInt8.lt_iff_toNat_lt.2 (by omega))]
  | x :: l, y :: m, i + 1, ha, he, h => by
    have h0 := he 0 (by omega)
    rw [dN_zero, dN_zero] at h0
    have hxy : x = y := UInt8.toNat_inj.1 (by omega)
    subst hxy
    unfold Lib.compareBytes
    rw [if_neg (UInt8.lt_irrefl x), if_neg (UInt8.lt_irrefl x)]
    exact cmp_lt (i := i) (dig_tail ha) (fun j hj => he (j + 1) (by omega)) h

theorem cmp_eq : ∀ {a b : List UInt8}, LastNZ a → LastNZ b → Dig a → Dig b → (∀ j, dN a j = dN b j) → a = b
  | [], [], _, _, _, _, _ => rfl
  | [], y :: m, _, hb, _, db, h => by
    exfalso
    obtain ⟨c, hc⟩ : ∃ c, (y :: m).getLast? = some c := ⟨_, List.getLast?_eq_some_getLast (by simp)⟩
    have h1 := hb c hc
    rw [List.getLast?_eq_getElem?] at hc
    have h2 := h ((y :: m).length - 1)
    have h3 := db c (List.mem_of_getElem? hc)
    unfold dN at h2
    rw [hc] at h2
    simp at h2
    exact h1 (UInt8.toNat_inj.1 (by show c.toNat = 48; omega))
  | x :: l, [], ha, _, da, _, h => by
    exfalso
    obtain ⟨c, hc⟩ : ∃ c, (x :: l).getLast? = some c := ⟨_, List.getLast?_eq_some_getLast (by simp)⟩
    have h1 := ha c hc
    rw [List.getLast?_eq_getElem?] at hc
    have h2 := h ((x :: l).length - 1)
    have h3 := da c (List.mem_of_getElem? hc)
    unfold dN at h2
    rw [hc] at h2
    simp at h2
    exact h1 (UInt8.toNat_inj.1 (by show c.toNat = 48; omega))
  | x :: l, y :: m, ha, hb, da, db, h => by
    have h0 := h 0
    rw [dN_zero, dN_zero] at h0
    have hxy : x = y := UInt8.toNat_inj.1 (by omega)
    subst hxy
    rw [cmp_eq (lastNZ_tail ha) (lastNZ_tail hb) (dig_tail da) (dig_tail db) (fun j => h (j + 1))]

theorem dI_neg (l : List UInt8) {i : Int} (h : i < 0) : dI l i = 0 := by unfold dI; rw [if_pos h]
theorem dI_nat (l : List UInt8) (i : Nat) : dI l i = dN l i := by unfold dI; rw [if_neg (by omega)]; rfl
theorem dI_past (l : List UInt8) {i : Int} (h : l.length ≤ i) : dI l i = 0 := by
  unfold dI
  rw [if_neg (by omega)]
  unfold dN
  rw [List.getElem?_eq_none (by omega)]
theorem dI_nonneg {l : List UInt8} (h : Dig l) (i : Int) : 0 ≤ dI l i := by
  unfold dI
  split
  · exact Int.le_refl 0
  · exact dN_nonneg h _
theorem dI_first {l : List UInt8} (h : CanL l) : 0 < dI l 0 := by
  match l, h with
  | [], h => exact absurd rfl h.here
  | c :: l, h =>
    show 0 < (c.toNat : Int) - 48
    have h1 := h.dig c (List.mem_cons_self ..)
    have h2 : c ≠ 48 := fun e => h.first (by rw [e]; rfl)
    have h3 : c.toNat ≠ 48 := fun e => h2 (UInt8.toNat_inj.1 e)
    omega

/-- The digits of two numbers at every place above p are the same. -/
def above (a : ByteArray) (s : Int) (b : ByteArray) (t p : Int) : Prop := ∀ q, p < q → dAt a s q = dAt b t q
/-- What the comparison of the magnitudes is. -/
def ordM (a : ByteArray) (s : Int) (b : ByteArray) (t : Int) : Int := orI (Lib.compareInt (a.size - s) (b.size - t)) (Lib.compareBytes a.data.toList b.data.toList)

theorem ord_lt {a b : ByteArray} {s t p : Int} (ha : CanL a.data.toList) (hb : CanL b.data.toList) (h : above a s b t p) (hp : dAt a s p < dAt b t p) : ordM a s b t = -1 := by
  unfold ordM
  have la := size_list a
  have lb := size_list b
  unfold above at h
  unfold dAt at h hp
  by_cases h1 : (a.size : Int) - s < b.size - t
  · have e : Lib.compareInt (a.size - s) (b.size - t) = -1 := by unfold Lib.compareInt; rw [if_pos h1]
    rw [e]; rfl
  by_cases h2 : (b.size : Int) - t < a.size - s
  · exfalso
    have f := dI_first ha
    have g : dI b.data.toList ((b.size : Int) - 1 - t - (a.size - 1 - s)) = 0 := dI_neg _ (by omega)
    have n := dI_nonneg hb.dig
    by_cases h3 : p < a.size - 1 - s
    · have := h (a.size - 1 - s) h3
      rw [g, show (a.size : Int) - 1 - s - (a.size - 1 - s) = 0 from by omega] at this
      omega
    · have x : dI b.data.toList ((b.size : Int) - 1 - t - p) = 0 := dI_neg _ (by omega)
      have y := dI_nonneg ha.dig ((a.size : Int) - 1 - s - p)
      omega
  · have h3 : (a.size : Int) - s = b.size - t := by omega
    have e : Lib.compareInt (a.size - s) (b.size - t) = 0 := compareInt_zero.2 h3
    rw [e]
    show Lib.compareBytes a.data.toList b.data.toList = -1
    by_cases h4 : (a.size : Int) - 1 - s - p < 0
    · rw [dI_neg _ h4, dI_neg _ (by omega)] at hp
      omega
    · obtain ⟨i, hi⟩ := Int.eq_ofNat_of_zero_le (show 0 ≤ (a.size : Int) - 1 - s - p by omega)
      refine cmp_lt (i := i) ha.dig (fun j hj => ?_) ?_
      · have := h (p + (i - j)) (by omega)
        rw [show (a.size : Int) - 1 - s - (p + (i - j)) = (j : Int) from by omega, show (b.size : Int) - 1 - t - (p + (i - j)) = (j : Int) from by omega, dI_nat, dI_nat] at this
        exact this
      · rw [hi, show (b.size : Int) - 1 - t - p = (i : Int) from by omega, dI_nat, dI_nat] at hp
        exact hp

theorem ordM_swap (a : ByteArray) (s : Int) (b : ByteArray) (t : Int) : ordM b t a s = -ordM a s b t := by
  unfold ordM
  rw [compareInt_swap, compareBytes_swap, orI_neg]
theorem ord_gt {a b : ByteArray} {s t p : Int} (ha : CanL a.data.toList) (hb : CanL b.data.toList) (h : above a s b t p) (hp : dAt b t p < dAt a s p) : ordM a s b t = 1 := by
  have := ord_lt hb ha (fun q hq => (h q hq).symm) hp
  rw [ordM_swap] at this
  omega
theorem ord_eq {a b : ByteArray} {s t : Int} (ha : CanL a.data.toList) (hb : CanL b.data.toList) (h : ∀ q, dAt a s q = dAt b t q) : ordM a s b t = 0 := by
  unfold ordM
  have la := size_list a
  have lb := size_list b
  unfold dAt at h
  have h3 : (a.size : Int) - s = b.size - t := by
    by_cases h1 : (a.size : Int) - s < b.size - t
    · have f := dI_first hb
      have := h (b.size - 1 - t)
      rw [dI_neg _ (show (a.size : Int) - 1 - s - (b.size - 1 - t) < 0 by omega), show (b.size : Int) - 1 - t - (b.size - 1 - t) = 0 from by omega] at this
      omega
    · by_cases h2 : (b.size : Int) - t < a.size - s
      · have f := dI_first ha
        have := h (a.size - 1 - s)
        rw [dI_neg _ (show (b.size : Int) - 1 - t - (a.size - 1 - s) < 0 by omega), show (a.size : Int) - 1 - s - (a.size - 1 - s) = 0 from by omega] at this
        omega
      · omega
  rw [compareInt_zero.2 h3]
  show Lib.compareBytes a.data.toList b.data.toList = 0
  refine compareBytes_zero.2 (cmp_eq ha.last hb.last ha.dig hb.dig (fun j => ?_))
  have := h (a.size - 1 - s - j)
  rw [show (a.size : Int) - 1 - s - (a.size - 1 - s - j) = (j : Int) from by omega, show (b.size : Int) - 1 - t - (a.size - 1 - s - j) = (j : Int) from by omega, dI_nat, dI_nat] at this
  exact this

/-- Above the highest place both digits are 0. -/
theorem above_start {a b : ByteArray} {s t p : Int} (h1 : (a.size : Int) - 1 - s ≤ p) (h2 : (b.size : Int) - 1 - t ≤ p) : above a s b t p := by
  intro q hq
  unfold dAt
  rw [dI_neg _ (by omega), dI_neg _ (by omega)]
theorem above_step {a b : ByteArray} {s t p : Int} (h : above a s b t p) (he : dAt a s p = dAt b t p) : above a s b t (p - 1) := by
  intro q hq
  by_cases e : q = p
  · rw [e]; exact he
  · exact h q (by omega)
/-- Below the lowest place both digits are 0. -/
theorem above_end {a b : ByteArray} {s t p : Int} (h : above a s b t p) (h1 : p < -s) (h2 : p < -t) : ∀ q, dAt a s q = dAt b t q := by
  intro q
  by_cases e : p < q
  · exact h q e
  · have la := size_list a
    have lb := size_list b
    unfold dAt
    rw [dI_past _ (by omega), dI_past _ (by omega)]

/-- A canonical number's magnitude. -/
theorem canL_of {u : ByteArray} {s : Int} (h : Canon u s) (h0 : sgnB u ≠ 0) : CanL (magB u).data.toList := by
  have get : ∀ x (hx : x < u.size), u.data.toList[x]? = some (u[x]'hx) := by
    intro x hx
    rw [List.getElem?_eq_getElem (by rw [← size_list]; exact hx)]
    rfl
  have sz := size_list u
  have mk : ∀ i (_ : i ≤ 1) (hc : Can u i) (l : List UInt8), l = u.data.toList.drop i → CanL l := by
    intro i hi hc l hl
    have hlen : l.length = u.size - i := by rw [hl, List.length_drop, ← sz]
    have hget : ∀ x, l[x]? = u.data.toList[i + x]? := by intro x; rw [hl, List.getElem?_drop]
    have hsome := hc.some
    refine ⟨fun e => ?_, fun c hcm => ?_, fun e => ?_, fun c hcl e => ?_⟩
    · rw [e] at hlen
      simp at hlen
      omega
    · obtain ⟨x, hx⟩ := List.getElem?_of_mem hcm
      have hxl : x < l.length := by
        rw [List.getElem?_eq_some_iff] at hx
        exact hx.1
      rw [hget] at hx
      obtain ⟨g, g1, g2⟩ := hc.digits (i + x) (by omega) (by omega)
      rw [get _ g] at hx
      have := Option.some.inj hx
      rw [← this]
      exact ⟨g1, g2⟩
    · rw [List.head?_eq_getElem?, hget, Nat.add_zero, get i hsome] at e
      have := Option.some.inj e
      have hf := hc.first
      rw [this] at hf
      exact hf rfl
    · rw [List.getLast?_eq_getElem?, hget, hlen, show i + (u.size - i - 1) = u.size - 1 from by omega, get _ (by omega)] at hcl
      have := Option.some.inj hcl
      have hf := hc.last
      rw [this, e] at hf
      exact hf rfl
  have e1 := sgnB_list u
  have e4 := magB_list u
  match hl : u.data.toList with
  | [] => rw [hl] at e1; exact absurd e1 h0
  | c :: l =>
    rw [hl] at e1 e4
    simp only at e1 e4
    by_cases hc : c = 45
    · rw [if_pos hc] at e1 e4
      rw [e4]
      exact mk 1 (Nat.le_refl _) (h.2.1 e1) l (by rw [hl]; rfl)
    · rw [if_neg hc] at e1 e4
      rw [e4]
      exact mk 0 (by omega) (h.2.2 e1) (c :: l) (by rw [hl]; rfl)
end Go.Proofs.Qxb6627213a
