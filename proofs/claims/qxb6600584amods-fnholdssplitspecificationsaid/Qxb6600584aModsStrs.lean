/-
  Rows of strings: holdsLawCloneList, holds, ZZholds, the two bounds on lengths, holdsLawSizeFits.
-/
import Derived.Test.Qxb6600584aModsKit
import Derived.Deep.QuietTactic
import Derived.BigQuiet
namespace Go.Proofs.Qxb6600584aMods
open Go.RowKit

def sv (ss : List ByteArray) : List Value := ss.map Value.string
theorem sv_length (ss : List ByteArray) : (sv ss).length = ss.length := by simp [sv]
theorem sv_at (ss : List ByteArray) (k : Nat) (h : k < ss.length) : (sv ss)[k]? = some (.string (ss.getD k ByteArray.empty)) := by simp [sv, List.getElem?_map, List.getElem?_eq_getElem h]
theorem sv_get (ss : List ByteArray) (k : Nat) (h : k < ss.length) : (sv ss)[k]'(by rw [sv_length]; exact h) = .string ss[k] := by simp [sv]

theorem Reads.atPos {w : World} {a : Option Addr} {vs : List Value} (h : Reads w a vs) (hp : 0 < vs.length) : ∃ b off, a = some ⟨b, off, none⟩ ∧ b < w.heap.size ∧ ∀ i, i < vs.length → w.cell? ⟨b, off + i, none⟩ = vs[i]? := by
  rcases h with h | ⟨b, off, h1, h2⟩
  · rw [h] at hp; simp at hp
  · refine ⟨b, off, h1, ?_, h2⟩
    have hc := h2 0 hp
    rw [List.getElem?_eq_getElem hp] at hc
    exact World.block_lt_of_cell? w _ hc

theorem Reads.str {w : World} {a : Option Addr} {ss : List ByteArray} (h : Reads w a (sv ss)) (hp : 0 < ss.length) : ∃ b off, a = some ⟨b, off, none⟩ ∧ b < w.heap.size ∧ ∀ k, k < ss.length → w.cell? ⟨b, off + k, none⟩ = some (.string (ss.getD k ByteArray.empty)) := by
  obtain ⟨b, off, h1, h3, h2⟩ := h.atPos (by rw [sv_length]; exact hp)
  exact ⟨b, off, h1, h3, fun k hk => (h2 k (by rw [sv_length]; exact hk)).trans (sv_at ss k hk)⟩

/-! ### holds -/
/-- Does the list hold r? -/
def hasB (ss : List ByteArray) (r : ByteArray) : Bool := ss.any (fun s => s.toList == r.toList)
theorem has_nil (r : ByteArray) : hasB [] r = false := rfl
theorem has_one (s r : ByteArray) : hasB [s] r = (s.toList == r.toList) := by simp [hasB]
theorem has_append (s t : List ByteArray) (r : ByteArray) : hasB (s ++ t) r = (hasB s r || hasB t r) := by simp [hasB]
theorem has_reverse (s : List ByteArray) (r : ByteArray) : hasB s.reverse r = hasB s r := by simp [hasB]
theorem has_hit {ss : List ByteArray} {r : ByteArray} {k : Nat} (h : k < ss.length) (he : (ss[k].toList == r.toList) = true) : hasB ss r = true := by
  unfold hasB; rw [List.any_eq_true]; exact ⟨ss[k], List.getElem_mem h, he⟩
theorem has_step {ss : List ByteArray} {r : ByteArray} {k : Nat} (h : k < ss.length) (hp : hasB (ss.take k) r = false) (he : (ss[k].toList == r.toList) = false) : hasB (ss.take (k + 1)) r = false := by
  rw [List.take_succ_eq_append_getElem h, has_append, hp, has_one, he]; rfl

theorem holds_some (b off n cap : Nat) (ss : List ByteArray) (r : ByteArray) (w : World) (hl : ss.length = n) (hm : n ≤ 4194304) (hc : ∀ k, k < n → w.cell? ⟨b, off + k, none⟩ = some (.string (ss.getD k ByteArray.empty))) :
    Calls Trym.prog 25 #[.slice (some ⟨b, off, none⟩) n cap, .string r] w fun e w' => e = .returned (.bool (hasB ss r)) ∧ w' = w := by
  go_enter Trym.func25, Trym.ntmps25
  go_wp2
  go_loop [9] (fun i => ∃ k : Nat, k ≤ n ∧ i = .int .i64 k ∧ hasB (ss.take k) r = false) (fun i => n - (intOf i).toNat)
  case atStart => exact ⟨0, Nat.zero_le _, rfl, rfl⟩
  case round =>
    obtain ⟨k, hk, rfl, hp⟩ := hrel
    by_cases hlt : k < n
    · have hck := hc k hlt
      have hkl : k < ss.length := by omega
      by_cases he : (ss[k].toList == r.toList) = true
      · have R := has_hit hkl he
        clear hp
        go_wp2
        go_ret
        exact ⟨rfl, rfl⟩
      · have he' : (ss[k].toList == r.toList) = false := by simpa using he
        have R := has_step hkl hp he'
        clear hp he
        go_wp2
        go_round
        case rel => exact ⟨k + 1, by omega, by go_num, R⟩
        case measure => simp [intOf]; omega
    · obtain rfl : k = n := by omega
      rw [← hl, List.take_length] at hp
      go_wp2
      go_ret
      exact ⟨rfl, rfl⟩

theorem holds_none (a : Option Addr) (cap : Nat) (r : ByteArray) (w : World) :
    Calls Trym.prog 25 #[.slice a 0 cap, .string r] w fun e w' => e = .returned (.bool false) ∧ w' = w := by
  go_enter Trym.func25, Trym.ntmps25
  go_wp2
  refine wp_loop_rounds 1 ?_
  rw [rounds_succ]
  go_wp2
  go_ret
  exact ⟨rfl, rfl⟩

theorem holds_any (a : Option Addr) (n cap : Nat) (ss : List ByteArray) (r : ByteArray) (w : World) (hl : ss.length = n) (hm : n ≤ 4194304) (hr : Reads w a (sv ss)) :
    Calls Trym.prog 25 #[.slice a n cap, .string r] w fun e w' => e = .returned (.bool (hasB ss r)) ∧ w' = w := by
  by_cases h0 : n = 0
  · subst h0
    obtain rfl : ss = [] := List.eq_nil_of_length_eq_zero hl
    exact holds_none a cap r w
  · obtain ⟨b, off, rfl, _, hc⟩ := hr.str (by omega)
    exact holds_some b off n cap ss r w hl hm (fun k hk => hc k (by omega))

theorem zz_holds (a : Option Addr) (n cap : Nat) (ss : List ByteArray) (r : ByteArray) (w : World) (hl : ss.length = n) (hm : n ≤ 4194304) (hr : Reads w a (sv ss)) :
    Calls Trym.prog 16 #[.slice a n cap, .string r] w fun e w' => e = .returned (.bool (hasB ss r)) ∧ w' = w := by
  go_enter Trym.func16, Trym.ntmps16
  go_wp2_with fail
  refine (holds_any a n cap ss r w hl hm hr).mono ?_
  rintro e w' ⟨rfl, rfl⟩
  go_wp2
  go_ret
  exact ⟨rfl, rfl⟩

/-! ### holdsLawCloneList -/
theorem mkS (n c : Nat) (hlc : n ≤ c) (h : c ≤ 17592186044416) (w : World) : (Instr.makeSlice 24 (.int .i64 (n : Int)) (.int .i64 (c : Int))).run Trym.prog w = .ok (.slice (some ⟨w.heap.size, 0, none⟩) n c) (w.alloc (.cells (zrow (.string ByteArray.empty) c).toArray 9)) :=
  make_run Trym.underlying24 info9 rfl n c hlc (by omega) (by omega) w

theorem slist_some (x : Addr) (n cap : Nat) (ss : List ByteArray) (w : World) (hl : ss.length = n) (hm : n ≤ 1048576) (hr : Reads w (some x) (sv ss)) :
    Calls Trym.prog 15 #[.slice (some x) n cap] w fun e w' => e = .returned (.slice (some ⟨w.heap.size, 0, none⟩) n n) ∧ Blk w' w.heap.size 9 (sv ss) ∧ Below w.heap.size w w' := by
  have heq := fun w => Lib.run_eql_slice_nil (P := Trym.prog) w 24 9 (some x) n cap 0 0 Trym.underlying24
  have hmk := mkS n n (Nat.le_refl _) (by omega)
  have hlen : (sv ss).length = n := by rw [sv_length, hl]
  go_enter Trym.func15, Trym.ntmps15
  go_wp2
  go_loopw [4] (fun i wr => ∃ k : Nat, k ≤ n ∧ i = .int .i64 k ∧ Blk wr w.heap.size 9 (mix (sv ss) (.string ByteArray.empty) k) ∧ Below w.heap.size w wr) (fun i _ => n - (intOf i).toNat)
  case atStart => exact ⟨0, Nat.zero_le _, rfl, by rw [mix_zero, hlen]; exact Blk.new _ _ _, (Below.refl _ _).alloc (Nat.le_refl _) _⟩
  case round =>
    obtain ⟨k, hk, rfl, hB, hbel⟩ := hrel
    by_cases hlt : k < n
    · obtain ⟨b, off, hx, hb, hc⟩ := hr.str (by omega)
      obtain rfl := Option.some.inj hx
      have hsrc : wr.cell? ⟨b, off + k, none⟩ = some (.string (ss.getD k ByteArray.empty)) := (hbel.cell hb).trans (hc k (by omega))
      have hdst : ∃ v, wr.cell? ⟨w.heap.size, k, none⟩ = some v := ⟨_, (hB.cell k).trans (List.getElem?_eq_getElem (by rw [mix_length _ _ _ (by omega)]; omega))⟩
      obtain ⟨v, hdst⟩ := hdst
      have hfr := hB.frozen k
      have hset := mix_set (sv ss) (.string ByteArray.empty) k (by omega)
      rw [sv_get ss k (by omega)] at hset
      have R := hB.set k (.string ss[k])
      rw [hset] at R
      clear hset heq hmk hc
      go_wp2
      go_roundw
      case rel => exact ⟨k + 1, by omega, by go_num, R, hbel.setCell (Nat.le_refl _) _⟩
      case measure => simp [intOf]; omega
    · obtain rfl : k = n := by omega
      have R : Blk wr w.heap.size 9 (sv ss) := by
        have := hB
        rw [← hlen, mix_all] at this; exact this
      go_wp2
      go_ret
      exact ⟨rfl, R, hbel⟩

theorem slist_nil (w : World) : Calls Trym.prog 15 #[.slice none 0 0] w fun e w' => e = .returned (.slice none 0 0) ∧ w' = w := by
  have heq := fun w => Lib.run_eql_slice_nil (P := Trym.prog) w 24 9 none 0 0 0 0 Trym.underlying24
  go_enter Trym.func15, Trym.ntmps15
  go_wp2
  go_ret
  exact ⟨rfl, rfl⟩

theorem slist_any (a : Option Addr) (n cap : Nat) (ss : List ByteArray) (w : World) (hl : ss.length = n) (hm : n ≤ 1048576) (hn : a = none → n = 0 ∧ cap = 0) (hr : Reads w a (sv ss)) :
    Calls Trym.prog 15 #[.slice a n cap] w fun e w' => ∃ a' cap', e = .returned (.slice a' n cap') ∧ Made w' w.heap.size 9 a' n cap' (sv ss) ∧ Below w.heap.size w w' := by
  cases a with
  | none =>
    obtain ⟨h0, rfl⟩ := hn rfl
    rw [h0] at hl ⊢
    refine (slist_nil w).mono fun e w' ⟨he, hw⟩ => ?_
    subst hw
    exact ⟨none, 0, he, ⟨by rw [sv_length]; exact hl, .inl ⟨rfl, rfl, rfl⟩⟩, Below.refl _ _⟩
  | some x =>
    refine (slist_some x n cap ss w hl hm hr).mono fun e w' ⟨he, hB, hb⟩ => ?_
    exact ⟨_, _, he, ⟨by rw [sv_length]; exact hl, .inr ⟨rfl, rfl, hB⟩⟩, hb⟩

end Go.Proofs.Qxb6600584aMods
