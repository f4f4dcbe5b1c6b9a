/-
  THE PLAIN LAWS: words of 64 bits as natural numbers, rows of words as lists. No Go in sight.
-/
import Derived.Test.Qxb6600943aModsKit
import Derived.Laws.BitsAllLaws
namespace Go.Proofs.Qxb6600943aMods

theorem M_eq : (18446744073709551616 : Nat) = 2 ^ 64 := by decide

theorem getD_at {xs : List Nat} {j : Nat} (h : j < xs.length) : xs.getD j 0 = xs[j] := by simp [List.getD, List.getElem?_eq_getElem h]

/-- Every word fits its kind. -/
def Fits (xs : List Nat) : Prop := ∀ x ∈ xs, x < 18446744073709551616
theorem Fits.at {xs : List Nat} (h : Fits xs) (j : Nat) : xs.getD j 0 < 18446744073709551616 := by
  by_cases hj : j < xs.length
  · rw [getD_at hj]; exact h _ (List.getElem_mem hj)
  · rw [List.getD_eq_getElem?_getD, List.getElem?_eq_none (by omega)]; decide

/-- Bit y of a row of words. -/
def bitAt (xs : List Nat) (y : Nat) : Bool := (xs.getD (y / 64) 0).testBit (y % 64)

/-- The word that uniteShifted makes of o for place j: q whole words and s bits. -/
def shW (os : List Nat) (q s j : Nat) : Nat :=
  if s ≠ 0 ∧ q < j then (os.getD (j - q) 0 * 2 ^ s % 18446744073709551616) ||| (os.getD (j - q - 1) 0 / 2 ^ (64 - s)) else os.getD (j - q) 0 * 2 ^ s % 18446744073709551616

/-- The word that uniteShifted leaves at place j. -/
def newW (xs os ms : List Nat) (q s j : Nat) : Nat := if j < q then xs.getD j 0 else xs.getD j 0 ||| (shW os q s j &&& ms.getD j 0)
/-- The row that it leaves. -/
def news (xs os ms : List Nat) (q s : Nat) : List Nat := (List.range xs.length).map (newW xs os ms q s)
theorem news_length (xs os ms : List Nat) (q s : Nat) : (news xs os ms q s).length = xs.length := by simp [news]
theorem news_at (xs os ms : List Nat) (q s j : Nat) (h : j < xs.length) : (news xs os ms q s)[j]'(by rw [news_length]; exact h) = newW xs os ms q s j := by simp [news]
theorem news_getD (xs os ms : List Nat) (q s j : Nat) (h : j < xs.length) : (news xs os ms q s).getD j 0 = newW xs os ms q s j := by
  rw [getD_at (by rw [news_length]; exact h), news_at xs os ms q s j h]

theorem high_bit {x i : Nat} (hx : x < 18446744073709551616) (hi : 64 ≤ i) : x.testBit i = false := by
  rw [M_eq] at hx
  exact Nat.testBit_lt_two_pow (Nat.lt_of_lt_of_le hx (Nat.pow_le_pow_right (by decide) hi))

theorem shW_bit {os : List Nat} (hf : Fits os) {q s j i : Nat} (hs : s < 64) (hqj : q ≤ j) (hi : i < 64) :
    (shW os q s j).testBit i = (decide (64 * q + s ≤ 64 * j + i) && bitAt os (64 * j + i - (64 * q + s))) := by
  have e1 : (os.getD (j - q) 0 * 2 ^ s % 18446744073709551616).testBit i = (decide (s ≤ i) && (os.getD (j - q) 0).testBit (i - s)) := by
    rw [M_eq, Nat.testBit_mod_two_pow, Nat.testBit_mul_two_pow]; simp [hi]
  unfold shW bitAt
  by_cases hsi : s ≤ i
  · have h1 : 64 * q + s ≤ 64 * j + i := by omega
    have h2 : (64 * j + i - (64 * q + s)) / 64 = j - q := by omega
    have h3 : (64 * j + i - (64 * q + s)) % 64 = i - s := by omega
    rw [h2, h3]
    simp only [h1, hsi, decide_true, Bool.true_and] at e1 ⊢
    by_cases hc : s ≠ 0 ∧ q < j
    · rw [if_pos hc, Nat.testBit_or, e1, Nat.testBit_div_two_pow, high_bit (hf.at (j - q - 1)) (show 64 ≤ i + (64 - s) by omega), Bool.or_false]
    · rw [if_neg hc, e1]
  · by_cases hlt : q < j
    · have h1 : 64 * q + s ≤ 64 * j + i := by omega
      have h2 : (64 * j + i - (64 * q + s)) / 64 = j - q - 1 := by omega
      have h3 : (64 * j + i - (64 * q + s)) % 64 = i + (64 - s) := by omega
      rw [h2, h3, if_pos ⟨by omega, hlt⟩, Nat.testBit_or, e1, Nat.testBit_div_two_pow]
      simp [hsi, h1]
    · have h1 : ¬ 64 * q + s ≤ 64 * j + i := by omega
      rw [if_neg (fun h => hlt h.2), e1]
      simp [hsi, h1]

/-- THE BIT MODEL. -/
theorem news_bit {xs os ms : List Nat} (hf : Fits os) {q s d y : Nat} (hs : s < 64) (hd : d = 64 * q + s) (hy : y < 64 * xs.length) :
    bitAt (news xs os ms q s) y = (bitAt xs y || (decide (d ≤ y) && bitAt os (y - d) && bitAt ms y)) := by
  subst hd
  have hj : y / 64 < xs.length := by omega
  have hy2 : 64 * (y / 64) + y % 64 = y := by omega
  unfold bitAt
  rw [news_getD xs os ms q s _ hj]
  unfold newW
  by_cases hq : y / 64 < q
  · rw [if_pos hq]
    have : ¬ 64 * q + s ≤ y := by omega
    simp [this]
  · rw [if_neg hq, Nat.testBit_or, Nat.testBit_and, shW_bit hf hs (by omega) (by omega), hy2]
    rfl

theorem news_fits {xs os ms : List Nat} (hx : Fits xs) (hm : Fits ms) (q s : Nat) : Fits (news xs os ms q s) := by
  intro x h
  obtain ⟨j, _, rfl⟩ := List.mem_map.1 h
  unfold newW
  split
  · exact hx.at j
  · rw [M_eq]
    have h1 := hx.at j
    have h2 := hm.at j
    rw [M_eq] at h1 h2
    exact Nat.or_lt_two_pow h1 (Nat.and_lt_two_pow _ h2)

/-! ### Did a bit come in? -/
/-- Among the first k bits one was added. -/
def addedTo (xs ns : List Nat) (k : Nat) : Bool := (List.range k).any fun y => bitAt ns y && !bitAt xs y
theorem addedTo_zero (xs ns : List Nat) : addedTo xs ns 0 = false := rfl
theorem addedTo_succ (xs ns : List Nat) (k : Nat) : addedTo xs ns (k + 1) = (addedTo xs ns k || (bitAt ns k && !bitAt xs k)) := by
  unfold addedTo; rw [List.range_succ, List.any_append]; simp

theorem row_ext {xs ys : List Nat} (hx : Fits xs) (hy : Fits ys) (hl : xs.length = ys.length) (h : ∀ y, y < 64 * xs.length → bitAt xs y = bitAt ys y) : xs = ys := by
  apply List.ext_getElem hl
  intro j h1 h2
  apply Nat.eq_of_testBit_eq
  intro i
  by_cases hi : i < 64
  · have := h (64 * j + i) (by omega)
    unfold bitAt at this
    rw [show (64 * j + i) / 64 = j by omega, show (64 * j + i) % 64 = i by omega, getD_at h1, getD_at h2] at this
    exact this
  · rw [high_bit (hx _ (List.getElem_mem h1)) (by omega), high_bit (hy _ (List.getElem_mem h2)) (by omega)]

/-- The answer of uniteShifted: some number was added. -/
theorem grew_added {xs os ms : List Nat} (hx : Fits xs) (ho : Fits os) (hm : Fits ms) {q s : Nat} (hs : s < 64) :
    (xs != news xs os ms q s) = addedTo xs (news xs os ms q s) (64 * xs.length) := by
  have key : xs = news xs os ms q s ↔ ∀ y, y < 64 * xs.length → (bitAt (news xs os ms q s) y && !bitAt xs y) = false := by
    constructor
    · intro h y hy; rw [← h]; simp
    · intro h
      refine row_ext hx (news_fits hx hm q s) (news_length _ _ _ _ _).symm fun y hy => ?_
      have h1 := h y hy
      have h2 := news_bit (xs := xs) (ms := ms) (q := q) (d := 64 * q + s) ho hs rfl hy
      rw [h2] at h1 ⊢
      cases hb : bitAt xs y
      · rw [hb] at h1; simpa using h1.symm
      · simp
  unfold addedTo
  rw [Bool.eq_iff_iff, bne_iff_ne, Ne, key, List.any_eq_true]
  constructor
  · intro h
    apply Classical.byContradiction
    intro hn
    apply h
    intro y hy
    cases hb : (bitAt (news xs os ms q s) y && !bitAt xs y)
    · rfl
    · exact absurd ⟨y, List.mem_range.2 hy, hb⟩ hn
  · rintro ⟨y, hy, hb⟩ h
    rw [h y (List.mem_range.1 hy)] at hb; cases hb
end Go.Proofs.Qxb6600943aMods
