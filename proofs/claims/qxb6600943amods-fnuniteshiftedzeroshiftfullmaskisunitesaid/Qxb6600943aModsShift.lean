/-
  uniteShifted and ZZUniteShifted_b1: what they leave.
-/
import Derived.Test.Qxb6600943aModsWords
namespace Go.Proofs.Qxb6600943aMods
open Go.RowKit

/-! ### Lists -/
theorem half_at {xs ns : List Nat} {j : Nat} (hj : j < xs.length) : (wv (xs.take (j + 1) ++ ns.drop (j + 1)))[j]? = some (.int .u64 ((xs.getD j 0 : Nat) : Int)) := by
  have h1 : j < (xs.take (j + 1)).length := by rw [List.length_take]; omega
  unfold wv
  rw [List.getElem?_map, List.getElem?_append_left h1, List.getElem?_take, if_pos (by omega)]
  simp [List.getD, List.getElem?_eq_getElem hj]
theorem half_set {xs ns : List Nat} {j : Nat} (hj : j < xs.length) (hl : ns.length = xs.length) : (xs.take (j + 1) ++ ns.drop (j + 1)).set j (ns.getD j 0) = xs.take j ++ ns.drop j := by
  have hj' : j < ns.length := by omega
  have h1 : (xs.take j).length = j := by rw [List.length_take]; omega
  rw [List.take_succ_eq_append_getElem hj, List.append_assoc, List.set_append_right _ _ (by omega), h1, Nat.sub_self, List.singleton_append, List.set_cons_zero, getD_at hj', ← List.drop_eq_getElem_cons hj']
theorem half_same {xs ns : List Nat} {j : Nat} (hj : j < xs.length) (hl : ns.length = xs.length) (h : ns.getD j 0 = xs.getD j 0) : xs.take (j + 1) ++ ns.drop (j + 1) = xs.take j ++ ns.drop j := by
  have hj' : j < ns.length := by omega
  rw [getD_at hj', getD_at hj] at h
  rw [List.take_succ_eq_append_getElem hj, List.append_assoc, List.singleton_append, ← h, ← List.drop_eq_getElem_cons hj']
theorem wv_set (l : List Nat) (j u : Nat) : (wv l).set j (.int .u64 (u : Int)) = wv (l.set j u) := by unfold wv; rw [List.map_set]
theorem drop_bne {xs ns : List Nat} {j : Nat} (hj : j < xs.length) (hl : ns.length = xs.length) : (xs.drop j != ns.drop j) = (xs.getD j 0 != ns.getD j 0 || xs.drop (j + 1) != ns.drop (j + 1)) := by
  have hj' : j < ns.length := by omega
  rw [List.drop_eq_getElem_cons hj, List.drop_eq_getElem_cons hj', getD_at hj, getD_at hj']
  rw [Bool.eq_iff_iff]
  simp only [bne_iff_ne, ne_eq, List.cons.injEq, Bool.or_eq_true]
  constructor
  · intro h
    by_cases h1 : xs[j] = ns[j]
    · exact .inr fun h2 => h ⟨h1, h2⟩
    · exact .inl h1
  · rintro (h | h) ⟨h1, h2⟩
    · exact h h1
    · exact h h2

/-! ### Words -/
theorem shl_rule (X s : Nat) : IntKind.u64.wrap ((X : Int) * 2 ^ s) = ((X * 2 ^ s % 18446744073709551616 : Nat) : Int) := by
  rw [IntKind.wrap_u64]; simp
theorem shr_rule (X s : Nat) : (X : Int) / 2 ^ (64 - s) = ((X / 2 ^ (64 - s) : Nat) : Int) := by simp
theorem shl_lt (X s : Nat) : X * 2 ^ s % 18446744073709551616 < 18446744073709551616 := Nat.mod_lt _ (by decide)
theorem shr_lt {X : Nat} (s : Nat) (h : X < 18446744073709551616) : X / 2 ^ (64 - s) < 18446744073709551616 := Nat.lt_of_le_of_lt (Nat.div_le_self _ _) h
theorem or_lt {a b : Nat} (ha : a < 18446744073709551616) (hb : b < 18446744073709551616) : a ||| b < 18446744073709551616 := by
  rw [M_eq] at ha hb ⊢; exact Nat.or_lt_two_pow ha hb
theorem and_lt (a : Nat) {b : Nat} (hb : b < 18446744073709551616) : a &&& b < 18446744073709551616 := by
  rw [M_eq] at hb ⊢; exact Nat.and_lt_two_pow a hb

/-- 'v &^ z' is 0 just where v adds nothing to z. -/
theorem andNot_zero {v z : Nat} (hv : v < 18446744073709551616) (hz : z < 18446744073709551616) : v &&& (18446744073709551615 - z) = 0 ↔ z ||| v = z := by
  have e : 18446744073709551615 - z = 2 ^ 64 - (z + 1) := by rw [← M_eq]; omega
  rw [M_eq] at hv hz
  constructor
  · intro h
    apply Nat.eq_of_testBit_eq
    intro i
    have h1 := congrArg (fun t => Nat.testBit t i) h
    simp only [e, Nat.testBit_and, Nat.testBit_two_pow_sub_succ hz, Nat.zero_testBit] at h1
    rw [Nat.testBit_or]
    by_cases hi : i < 64
    · simp only [hi, decide_true, Bool.true_and] at h1
      cases h2 : z.testBit i <;> cases h3 : v.testBit i <;> simp [h2, h3] at h1 ⊢
    · have : v.testBit i = false := Nat.testBit_lt_two_pow (Nat.lt_of_lt_of_le hv (Nat.pow_le_pow_right (by decide) (by omega)))
      rw [this, Bool.or_false]
  · intro h
    apply Nat.eq_of_testBit_eq
    intro i
    have h1 := congrArg (fun t => Nat.testBit t i) h
    simp only [Nat.testBit_or] at h1
    rw [e, Nat.testBit_and, Nat.testBit_two_pow_sub_succ hz, Nat.zero_testBit]
    cases h2 : z.testBit i <;> cases h3 : v.testBit i <;> simp [h2, h3] at h1 ⊢

/-! ### The loop's state -/
/-- Behind the places from k on: the row is half old, half new. -/
def Half (w : World) (gb : Nat) (xs ns : List Nat) (k : Nat) (wr : World) : Prop :=
  Blk wr gb 30 (wv (xs.take k ++ ns.drop k)) ∧ w.grownBy wr (some gb) ∧ wr.heap.size = w.heap.size

theorem Half.start {w : World} {gb : Nat} {xs ns : List Nat} (hB : Blk w gb 30 (wv xs)) (hl : ns.length = xs.length) : Half w gb xs ns xs.length w := by
  refine ⟨?_, World.grownBy.refl _ _, rfl⟩
  rw [List.take_length, List.drop_eq_nil_of_le (by omega), List.append_nil]; exact hB

theorem Half.set {w : World} {gb : Nat} {xs ns : List Nat} {j : Nat} {wr : World} (h : Half w gb xs ns (j + 1) wr) (hj : j < xs.length) (hl : ns.length = xs.length) {u : Nat} (hu : ns.getD j 0 = u) : Half w gb xs ns j (wr.setCell ⟨gb, j, none⟩ (.int .u64 (u : Int))) := by
  obtain ⟨h1, h2, h3⟩ := h
  refine ⟨?_, ⟨h2.os, h2.tape, h2.output, by rw [World.size_setCell]; exact h2.size, fun k hk hne => ?_⟩, by rw [World.size_setCell]; exact h3⟩
  · have := h1.set j (.int .u64 (u : Int))
    rw [wv_set, ← hu, half_set hj hl] at this
    rw [← hu]; exact this
  · rw [Below.heap_setCell _ _ _ _ (fun e => hne (by rw [e])), h2.block k hk hne]

theorem Half.same {w : World} {gb : Nat} {xs ns : List Nat} {j : Nat} {wr : World} (h : Half w gb xs ns (j + 1) wr) (hj : j < xs.length) (hl : ns.length = xs.length) (hu : ns.getD j 0 = xs.getD j 0) : Half w gb xs ns j wr := by
  obtain ⟨h1, h2, h3⟩ := h
  rw [half_same hj hl hu] at h1
  exact ⟨h1, h2, h3⟩

theorem Half.cell {w : World} {gb : Nat} {xs ns : List Nat} {k : Nat} {wr : World} (h : Half w gb xs ns k wr) {b o : Nat} {v : Value} (hb : b ≠ gb) (hc : w.cell? ⟨b, o, none⟩ = some v) : wr.cell? ⟨b, o, none⟩ = some v :=
  (World.cell?_of_block (a := ⟨b, o, none⟩) (h.2.1.block b (World.block_lt_of_cell? w _ hc) (by intro e; cases e; exact hb rfl))).trans hc
end Go.Proofs.Qxb6600943aMods
