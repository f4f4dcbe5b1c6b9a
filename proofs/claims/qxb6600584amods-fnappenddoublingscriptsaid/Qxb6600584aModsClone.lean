import Derived.Test.Qxb6600584aModsKit
namespace Go.Proofs.Qxb6600584aMods
open Go.RowKit

theorem mkB (n c : Nat) (hlc : n ≤ c) (h : c ≤ 281474976710656) (w : World) : (Instr.makeSlice 28 (.int .i64 (n : Int)) (.int .i64 (c : Int))).run Trym.prog w = .ok (.slice (some ⟨w.heap.size, 0, none⟩) n c) (w.alloc (.cells (zrow (.int .u8 0) c).toArray 5)) :=
  make_run Trym.underlying28 info5 rfl n c hlc (by omega) (by omega) w

def ints (zs : List Int) : List Value := zs.map (Value.int .u8)
theorem ints_length (zs : List Int) : (ints zs).length = zs.length := by simp [ints]
theorem ints_at (zs : List Int) (k : Nat) (h : k < zs.length) : (ints zs)[k]? = some (.int .u8 (zs.getD k 0)) := by simp [ints, List.getElem?_map, List.getElem?_eq_getElem h]
theorem ints_get (zs : List Int) (k : Nat) (h : k < zs.length) : (ints zs)[k]'(by rw [ints_length]; exact h) = .int .u8 zs[k] := by simp [ints]

theorem Reads.at {w : World} {a : Option Addr} {vs : List Value} (h : Reads w a vs) (hp : 0 < vs.length) : ∃ b off, a = some ⟨b, off, none⟩ ∧ b < w.heap.size ∧ ∀ i, i < vs.length → w.cell? ⟨b, off + i, none⟩ = vs[i]? := by
  rcases h with h | ⟨b, off, h1, h2⟩
  · rw [h] at hp; simp at hp
  · refine ⟨b, off, h1, ?_, h2⟩
    have hc := h2 0 hp
    rw [List.getElem?_eq_getElem hp] at hc
    exact World.block_lt_of_cell? w _ hc

/-- appendLawCloneBytes at a slice that is not nil. -/
theorem clone_some (x : Addr) (n cap : Nat) (zs : List Int) (w : World) (hl : zs.length = n) (hm : n ≤ 1048576) (hr : Reads w (some x) (ints zs)) :
    Calls Trym.prog 19 #[.slice (some x) n cap] w fun e w' => e = .returned (.slice (some ⟨w.heap.size, 0, none⟩) n n) ∧ Blk w' w.heap.size 5 (ints zs) ∧ Below w.heap.size w w' := by
  have heq := fun w => Lib.run_eql_slice_nil (P := Trym.prog) w 28 5 (some x) n cap 0 0 Trym.underlying28
  have hmk := mkB n n (Nat.le_refl _) (by omega)
  have hlen : (ints zs).length = n := by rw [ints_length, hl]
  go_enter Trym.func19, Trym.ntmps19
  go_wp2
  go_loopw [4] (fun i wr => ∃ k : Nat, k ≤ n ∧ i = .int .i64 k ∧ Blk wr w.heap.size 5 (mix (ints zs) (.int .u8 0) k) ∧ Below w.heap.size w wr) (fun i _ => n - (intOf i).toNat)
  case atStart => exact ⟨0, Nat.zero_le _, rfl, by rw [mix_zero, hlen]; exact Blk.new _ _ _, (Below.refl _ _).alloc (Nat.le_refl _) _⟩
  case round =>
    obtain ⟨k, hk, rfl, hB, hbel⟩ := hrel
    by_cases hlt : k < n
    · obtain ⟨b, off, hx, hb, hc⟩ := hr.at (by omega)
      obtain rfl := Option.some.inj hx
      have hsrc : wr.cell? ⟨b, off + k, none⟩ = some (.int .u8 (zs.getD k 0)) := (hbel.cell hb).trans ((hc k (by omega)).trans (ints_at zs k (by omega)))
      have hdst : ∃ v, wr.cell? ⟨w.heap.size, k, none⟩ = some v := ⟨_, (hB.cell k).trans (List.getElem?_eq_getElem (by rw [mix_length _ _ _ (by omega)]; omega))⟩
      obtain ⟨v, hdst⟩ := hdst
      have hfr := hB.frozen k
      have hset := mix_set (ints zs) (.int .u8 0) k (by omega)
      rw [ints_get zs k (by omega)] at hset
      have R := hB.set k (.int .u8 zs[k])
      rw [hset] at R
      clear hset heq hmk
      go_wp2
      go_roundw
      case rel => exact ⟨k + 1, by omega, by go_num, R, hbel.setCell (Nat.le_refl _) _⟩
      case measure => simp [intOf]; omega
    · obtain rfl : k = n := by omega
      have R : Blk wr w.heap.size 5 (ints zs) := by
        have := hB
        rw [← hlen, mix_all] at this; exact this
      go_wp2
      go_ret
      exact ⟨rfl, R, hbel⟩

theorem clone_nil (w : World) : Calls Trym.prog 19 #[.slice none 0 0] w fun e w' => e = .returned (.slice none 0 0) ∧ w' = w := by
  have heq := fun w => Lib.run_eql_slice_nil (P := Trym.prog) w 28 5 none 0 0 0 0 Trym.underlying28
  go_enter Trym.func19, Trym.ntmps19
  go_wp2
  go_ret
  exact ⟨rfl, rfl⟩

/-- appendLawCloneBytes: a fresh copy; nil stays nil. -/
theorem clone_any (a : Option Addr) (n cap : Nat) (zs : List Int) (w : World) (hl : zs.length = n) (hm : n ≤ 1048576) (hn : a = none → n = 0 ∧ cap = 0) (hr : Reads w a (ints zs)) :
    Calls Trym.prog 19 #[.slice a n cap] w fun e w' => ∃ a' cap', e = .returned (.slice a' n cap') ∧ Made w' w.heap.size 5 a' n cap' (ints zs) ∧ Below w.heap.size w w' := by
  cases a with
  | none =>
    obtain ⟨h0, rfl⟩ := hn rfl
    rw [h0] at hl ⊢
    refine (clone_nil w).mono fun e w' ⟨he, hw⟩ => ?_
    subst hw
    exact ⟨none, 0, he, ⟨by rw [ints_length]; exact hl, .inl ⟨rfl, rfl, rfl⟩⟩, Below.refl _ _⟩
  | some x =>
    refine (clone_some x n cap zs w hl hm hr).mono fun e w' ⟨he, hB, hb⟩ => ?_
    exact ⟨_, _, he, ⟨by rw [ints_length]; exact hl, .inr ⟨rfl, rfl, hB⟩⟩, hb⟩

end Go.Proofs.Qxb6600584aMods
