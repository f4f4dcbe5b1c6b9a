/-
  ZZholds at a cut of a row of strings of the call's own.
-/
import Derived.Test.Qxb6600584aModsBounds
namespace Go.Proofs.Qxb6600584aMods
open Go.RowKit

/-- Does the cut of l elements from i on hold r? (A name that the walk leaves standing.) -/
def hasCut (ss : List ByteArray) (r : ByteArray) (i l : Nat) : Bool := hasB ((ss.drop i).take l) r

theorem blk_reads {w : World} {g i l : Nat} {ss : List ByteArray} (hB : Blk w g 9 (sv ss)) (_h : i + l ≤ ss.length) : Reads w (some ⟨g, i, none⟩) (sv ((ss.drop i).take l)) := by
  refine .inr ⟨g, i, rfl, fun j hj => ?_⟩
  have hjl : j < l := by rw [sv_length, List.length_take, List.length_drop] at hj; omega
  rw [hB.cell (i + j)]
  simp [sv, hjl]

theorem holds_cut (g i l c : Nat) (ss : List ByteArray) (r : ByteArray) (w : World) (hB : Blk w g 9 (sv ss)) (h : i + l ≤ ss.length) (hm : ss.length ≤ 1048576) :
    Calls Trym.prog 16 #[.slice (some ⟨g, i, none⟩) l c, .string r] w fun e w' => e = .returned (.bool (hasCut ss r i l)) ∧ w' = w :=
  zz_holds (some ⟨g, i, none⟩) l c ((ss.drop i).take l) r w (by rw [List.length_take, List.length_drop]; omega) (by omega) (blk_reads hB h)

theorem cut_one (ss : List ByteArray) (r : ByteArray) (k : Nat) (h : k < ss.length) : hasCut ss r k 1 = ((ss.getD k ByteArray.empty).toList == r.toList) := by
  unfold hasCut
  rw [List.drop_eq_getElem_cons h, List.take_succ_cons, List.take_zero, has_one]
  simp [List.getD, List.getElem?_eq_getElem h]
theorem cut_all (ss : List ByteArray) (r : ByteArray) (k n : Nat) (h : ss.length = n) (hk : k ≤ n) : hasCut ss r 0 n = (hasCut ss r 0 k || hasCut ss r k (n - k)) := by
  subst h
  unfold hasCut
  rw [List.drop_zero, List.take_length, ← has_append, List.take_of_length_le (l := ss.drop k) (by rw [List.length_drop]; omega), List.take_append_drop]
theorem cut_none (ss : List ByteArray) (r : ByteArray) (k : Nat) : hasCut ss r k 0 = false := by
  unfold hasCut; rw [List.take_zero, has_nil]

theorem holds_empty (c : Nat) (r : ByteArray) (w : World) : Calls Trym.prog 16 #[.slice none 0 c, .string r] w fun e w' => e = .returned (.bool false) ∧ w' = w :=
  zz_holds none 0 c [] r w rfl (by omega) (.inl rfl)

end Go.Proofs.Qxb6600584aMods
