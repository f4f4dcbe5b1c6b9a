/-
  Small laws on rows that a call makes, over whatever world: blocks of cells, known whole. No Go text in sight.
-/
import Derived.Test.Qxb6600943aModsRows
import Derived.WalkKit
import Derived.ProofKit
import Derived.OpenShut
import Derived.WalkSpells
import Derived.WalkLawsBesides
import Derived.Below
namespace Go.Proofs.Qxb6600943aMods
open Go.RowKit

theorem info30 : (Trym.prog.info? 30).map (fun i => (i.zero, i.size, i.bytes)) = some (some (.int .u64 0), 1, 8) := by kernel_rfl

/-- Block g is the row vs, of element type t; nothing of it is frozen. -/
def Blk (w : World) (g : Nat) (t : TypeId) (vs : List Value) : Prop := w.heap[g]? = some (.cells vs.toArray t (0, 0))

section
variable {w w' : World} {g : Nat} {t : TypeId} {vs : List Value}

theorem Blk.cell (h : Blk w g t vs) (j : Nat) : w.cell? ⟨g, j, none⟩ = vs[j]? := by
  unfold Blk at h
  simp [World.cell?, h]
theorem Blk.frozen (h : Blk w g t vs) (j : Nat) : w.frozen? ⟨g, j, none⟩ = false := by
  unfold Blk at h
  simp [World.frozen?, h]
theorem Blk.lt (h : Blk w g t vs) : g < w.heap.size := (Array.getElem?_eq_some_iff.1 h).1
theorem Blk.set (h : Blk w g t vs) (k : Nat) (v : Value) : Blk (w.setCell ⟨g, k, none⟩ v) g t (vs.set k v) := by
  unfold Blk at h ⊢
  simp [World.setCell, Array.getElem?_modify, h]
theorem Blk.other (h : Blk w g t vs) {a : Addr} (hne : g ≠ a.block) (v : Value) : Blk (w.setCell a v) g t vs := by
  unfold Blk at h ⊢
  rw [Below.heap_setCell _ _ _ _ hne]; exact h
theorem Blk.alloc (h : Blk w g t vs) (o : Obj) : Blk (w.alloc o) g t vs := by
  have hl := h.lt
  unfold Blk at h ⊢
  rw [Below.heap_alloc _ _ _ hl]; exact h
theorem Blk.new (w : World) (t : TypeId) (vs : List Value) : Blk (w.alloc (.cells vs.toArray t)) w.heap.size t vs := heap_alloc_new _ _
theorem Blk.below {B : Nat} (h : Blk w g t vs) (hb : Below B w w') (hg : g < B) : Blk w' g t vs := (hb.block g hg).trans h
theorem Blk.grown {row : Option Nat} (h : Blk w g t vs) (hb : w.grownBy w' row) (hne : some g ≠ row) : Blk w' g t vs := (hb.block g h.lt hne).trans h
theorem Blk.drew (h : Blk w g t vs) : Blk w.drew g t vs := h
theorem Blk.drewN (h : Blk w g t vs) (n : Nat) : Blk (w.drewN n) g t vs := h
end

/-- The first cells from a on are vs (where vs is not empty). -/
def Reads (w : World) (a : Option Addr) (vs : List Value) : Prop := vs = [] ∨ ∃ b off, a = some ⟨b, off, none⟩ ∧ ∀ i, i < vs.length → w.cell? ⟨b, off + i, none⟩ = vs[i]?

/-- What a copying call leaves: nil, or the block numbered g, new, holding just vs. -/
def Made (w : World) (g : Nat) (t : TypeId) (a : Option Addr) (len cap : Nat) (vs : List Value) : Prop :=
  vs.length = len ∧ ((a = none ∧ len = 0 ∧ cap = 0) ∨ (a = some ⟨g, 0, none⟩ ∧ cap = len ∧ Blk w g t vs))

theorem Made.below {w w' : World} {g : Nat} {t : TypeId} {a : Option Addr} {len cap : Nat} {vs : List Value} {B : Nat} (h : Made w g t a len cap vs) (hb : Below B w w') (hg : g < B) : Made w' g t a len cap vs := by
  obtain ⟨h1, h2⟩ := h
  refine ⟨h1, ?_⟩
  rcases h2 with h2 | ⟨h2, h3, h4⟩
  · exact .inl h2
  · exact .inr ⟨h2, h3, h4.below hb hg⟩

theorem Made.reads {w : World} {g : Nat} {t : TypeId} {a : Option Addr} {len cap : Nat} {vs : List Value} (h : Made w g t a len cap vs) : Reads w a vs := by
  obtain ⟨h1, h2⟩ := h
  rcases h2 with ⟨h2, h3, h4⟩ | ⟨h2, h3, h4⟩
  · exact .inl (List.eq_nil_of_length_eq_zero (by omega))
  · exact .inr ⟨g, 0, h2, fun i hi => by rw [Nat.zero_add]; exact h4.cell i⟩

/-- What stands below B reads as it did. -/
theorem Reads.below {w w' : World} {a : Option Addr} {vs : List Value} (h : Reads w a vs) (hb : Below w.heap.size w w') : Reads w' a vs := by
  rcases h with h | ⟨b, off, h1, h2⟩
  · exact .inl h
  · refine .inr ⟨b, off, h1, fun i hi => ?_⟩
    have hc := h2 i hi
    rw [List.getElem?_eq_getElem hi] at hc ⊢
    rw [hb.cell (World.block_lt_of_cell? w _ hc)]
    exact hc

/-- The zeros that 'make' lays, under a name that the walk leaves standing. -/
def zrow (z : Value) (n : Nat) : List Value := List.replicate n z
theorem zrow_length (z : Value) (n : Nat) : (zrow z n).length = n := by simp [zrow]

theorem toList_made (z : Value) (n : Nat) : madeCells #[z] n = (zrow z n).toArray := by
  apply Array.toList_inj.1
  rw [toList_madeCells_one]; rfl

/-- 'make([]T, l, c)', T of one cell. -/
theorem make_run {P : Program} {t e : TypeId} {z : Value} {bytes : Nat} (hu : P.underlying t = some (.slice e)) (hi : (P.info? e).map (fun i => (i.zero, i.size, i.bytes)) = some (some z, 1, bytes)) (hz : z.cells = #[z])
    (l c : Nat) (hlc : l ≤ c) (hb : bytes * c ≤ 281474976710656) (h63 : c ≤ 9223372036854775807) (w : World) :
    (Instr.makeSlice t (.int .i64 (l : Int)) (.int .i64 (c : Int))).run P w = .ok (.slice (some ⟨w.heap.size, 0, none⟩) l c) (w.alloc (.cells (zrow z c).toArray e)) := by
  obtain ⟨i, h1, h2, h3, h4⟩ := info_parts hi
  have h5 : (i.bytes : Int) * (c : Int) ≤ 281474976710656 := by
    have h6 : ((bytes * c : Nat) : Int) ≤ 281474976710656 := by omega
    rw [h4, ← Int.natCast_mul]; exact h6
  have := run_make (P := P) w t e i z hu h1 h2 .i64 .i64 l c (by omega) (by omega) h5 (by omega)
  rw [this, h3, hz]
  simp [toList_made]

/-- The row behind k rounds of a copying loop: the first k of xs, then zeros. -/
def mix (xs : List Value) (z : Value) (k : Nat) : List Value := xs.take k ++ List.replicate (xs.length - k) z
theorem mix_zero (xs : List Value) (z : Value) : mix xs z 0 = zrow z xs.length := by simp [mix, zrow]
theorem mix_all (xs : List Value) (z : Value) : mix xs z xs.length = xs := by simp [mix]
theorem mix_length (xs : List Value) (z : Value) (k : Nat) (h : k ≤ xs.length) : (mix xs z k).length = xs.length := by simp [mix]; omega
theorem mix_set (xs : List Value) (z : Value) (k : Nat) (h : k < xs.length) : (mix xs z k).set k xs[k] = mix xs z (k + 1) := by
  have e : xs.length - k = (xs.length - (k + 1)) + 1 := by omega
  have e2 : (xs.take k).length = k := by simp; omega
  unfold mix
  rw [List.set_append_right _ _ (by omega), e2, Nat.sub_self, e, List.replicate_succ, List.set_cons_zero, List.take_succ_eq_append_getElem h, List.append_assoc]
  rfl
end Go.Proofs.Qxb6600943aMods
