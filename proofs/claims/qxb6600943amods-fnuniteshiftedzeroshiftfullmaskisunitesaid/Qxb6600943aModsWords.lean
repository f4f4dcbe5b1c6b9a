/-
  Rows of words: cloneWords_b1, hasBit_b1.
-/
import Derived.Test.Qxb6600943aModsPlain
namespace Go.Proofs.Qxb6600943aMods
open Go.RowKit

theorem hide {p : Prop} (h : p) : Hid p := h

/-- A row of words as the cells hold it. -/
def wv (xs : List Nat) : List Value := xs.map fun (x : Nat) => Value.int .u64 (x : Int)
theorem wv_length (xs : List Nat) : (wv xs).length = xs.length := by simp [wv]
theorem wv_at (xs : List Nat) (k : Nat) (h : k < xs.length) : (wv xs)[k]? = some (.int .u64 ((xs.getD k 0 : Nat) : Int)) := by simp [wv, List.getElem?_map, List.getElem?_eq_getElem h]
theorem wv_get (xs : List Nat) (k : Nat) (h : k < xs.length) : (wv xs)[k]'(by rw [wv_length]; exact h) = .int .u64 ((xs.getD k 0 : Nat) : Int) := by simp [wv, List.getD, List.getElem?_eq_getElem h]

theorem Reads.atPos {w : World} {a : Option Addr} {vs : List Value} (h : Reads w a vs) (hp : 0 < vs.length) : ∃ b off, a = some ⟨b, off, none⟩ ∧ b < w.heap.size ∧ ∀ i, i < vs.length → w.cell? ⟨b, off + i, none⟩ = vs[i]? := by
  rcases h with h | ⟨b, off, h1, h2⟩
  · rw [h] at hp; simp at hp
  · refine ⟨b, off, h1, ?_, h2⟩
    have hc := h2 0 hp
    rw [List.getElem?_eq_getElem hp] at hc
    exact World.block_lt_of_cell? w _ hc

theorem Reads.word {w : World} {a : Option Addr} {xs : List Nat} (h : Reads w a (wv xs)) (hp : 0 < xs.length) : ∃ b off, a = some ⟨b, off, none⟩ ∧ b < w.heap.size ∧ ∀ k, k < xs.length → w.cell? ⟨b, off + k, none⟩ = some (.int .u64 ((xs.getD k 0 : Nat) : Int)) := by
  obtain ⟨b, off, h1, h3, h2⟩ := h.atPos (by rw [wv_length]; exact hp)
  exact ⟨b, off, h1, h3, fun k hk => (h2 k (by rw [wv_length]; exact hk)).trans (wv_at xs k hk)⟩

/-! ### cloneWords_b1 -/
theorem mkW (n c : Nat) (hlc : n ≤ c) (h : c ≤ 17592186044416) (w : World) : (Instr.makeSlice 24 (.int .i64 (n : Int)) (.int .i64 (c : Int))).run Trym.prog w = .ok (.slice (some ⟨w.heap.size, 0, none⟩) n c) (w.alloc (.cells (zrow (.int .u64 0) c).toArray 30)) :=
  make_run Trym.underlying24 info30 rfl n c hlc (by omega) (by omega) w

theorem clone_some (x : Addr) (n cap : Nat) (xs : List Nat) (w : World) (hl : xs.length = n) (hm : n ≤ 1048576) (hr : Reads w (some x) (wv xs)) :
    Calls Trym.prog 11 #[.slice (some x) n cap] w fun e w' => e = .returned (.slice (some ⟨w.heap.size, 0, none⟩) n n) ∧ Blk w' w.heap.size 30 (wv xs) ∧ Below w.heap.size w w' := by
  have heq := fun w => Lib.run_eql_slice_nil (P := Trym.prog) w 24 30 (some x) n cap 0 0 Trym.underlying24
  have hmk := mkW n n (Nat.le_refl _) (by omega)
  have hlen : (wv xs).length = n := by rw [wv_length, hl]
  go_enter Trym.func11, Trym.ntmps11
  go_wp2
  go_loopw [4] (fun i wr => ∃ k : Nat, k ≤ n ∧ i = .int .i64 k ∧ Blk wr w.heap.size 30 (mix (wv xs) (.int .u64 0) k) ∧ Below w.heap.size w wr) (fun i _ => n - (intOf i).toNat)
  case atStart => exact ⟨0, Nat.zero_le _, rfl, by rw [mix_zero, hlen]; exact Blk.new _ _ _, (Below.refl _ _).alloc (Nat.le_refl _) _⟩
  case round =>
    obtain ⟨k, hk, rfl, hB, hbel⟩ := hrel
    by_cases hlt : k < n
    · obtain ⟨b, off, hx, hb, hc⟩ := hr.word (by omega)
      obtain rfl := Option.some.inj hx
      have hsrc := (hbel.cell (p := ⟨b, off + k, none⟩) hb).trans (hc k (by omega))
      have hdst : ∃ v, wr.cell? ⟨w.heap.size, k, none⟩ = some v := ⟨_, (hB.cell k).trans (List.getElem?_eq_getElem (by rw [mix_length _ _ _ (by omega)]; omega))⟩
      obtain ⟨v, hdst⟩ := hdst
      have hfr := hB.frozen k
      have hset := mix_set (wv xs) (.int .u64 0) k (by omega)
      rw [wv_get xs k (by omega)] at hset
      obtain ⟨z, hz⟩ : ∃ z, z = xs.getD k 0 := ⟨_, rfl⟩
      rw [← hz] at hset hsrc
      have R := hB.set k (.int .u64 (z : Int))
      rw [hset] at R
      clear hset heq hmk hc hz
      go_wp2
      go_roundw
      case rel => exact ⟨k + 1, by omega, by go_num, R, hbel.setCell (Nat.le_refl _) _⟩
      case measure => simp [intOf]; omega
    · obtain rfl : k = n := by omega
      have R : Blk wr w.heap.size 30 (wv xs) := by
        have := hB
        rw [← hlen, mix_all] at this; exact this
      go_wp2
      go_ret
      exact ⟨rfl, R, hbel⟩

theorem clone_nil (w : World) : Calls Trym.prog 11 #[.slice none 0 0] w fun e w' => e = .returned (.slice none 0 0) ∧ w' = w := by
  have heq := fun w => Lib.run_eql_slice_nil (P := Trym.prog) w 24 30 none 0 0 0 0 Trym.underlying24
  go_enter Trym.func11, Trym.ntmps11
  go_wp2
  go_ret
  exact ⟨rfl, rfl⟩

theorem clone_any (a : Option Addr) (n cap : Nat) (xs : List Nat) (w : World) (hl : xs.length = n) (hm : n ≤ 1048576) (hn : a = none → n = 0 ∧ cap = 0) (hr : Reads w a (wv xs)) :
    Calls Trym.prog 11 #[.slice a n cap] w fun e w' => ∃ a' cap', e = .returned (.slice a' n cap') ∧ Made w' w.heap.size 30 a' n cap' (wv xs) ∧ Below w.heap.size w w' := by
  cases a with
  | none =>
    obtain ⟨h0, rfl⟩ := hn rfl
    rw [h0] at hl ⊢
    refine (clone_nil w).mono fun e w' ⟨he, hw⟩ => ?_
    subst hw
    exact ⟨none, 0, he, ⟨by rw [wv_length]; exact hl, .inl ⟨rfl, rfl, rfl⟩⟩, Below.refl _ _⟩
  | some x =>
    refine (clone_some x n cap xs w hl hm hr).mono fun e w' ⟨he, hB, hb⟩ => ?_
    exact ⟨_, _, he, ⟨by rw [wv_length]; exact hl, .inr ⟨rfl, rfl, hB⟩⟩, hb⟩

theorem Made.nil {w : World} {g : Nat} {t : TypeId} {a : Option Addr} {len cap : Nat} {vs : List Value} (h : Made w g t a len cap vs) : a = none → len = 0 ∧ cap = 0 := by
  intro e
  rcases h.2 with h' | h'
  · exact h'.2
  · rw [h'.1] at e; cases e

/-! ### hasBit_b1 -/
theorem bit_eq (z m : Nat) (hz : z < 18446744073709551616) : (bits .and .u64 ((z : Int) / 2 ^ m) 1 == 1) = z.testBit m := by
  have e : ((z : Int) / 2 ^ m) = ((z / 2 ^ m : Nat) : Int) := by simp
  have hb : z / 2 ^ m < 18446744073709551616 := Nat.lt_of_le_of_lt (Nat.div_le_self _ _) hz
  have e1 : bits .and .u64 ((z / 2 ^ m : Nat) : Int) ((1 : Nat) : Int) = _ := u64_and_nat (z / 2 ^ m) 1 hb (by decide)
  rw [e]
  rw [show ((1 : Int)) = ((1 : Nat) : Int) from rfl, e1, nat_mask1, Nat.testBit_eq_decide_div_mod_eq]
  rw [Bool.eq_iff_iff, beq_iff_eq, decide_eq_true_iff]
  omega

theorem hasBit_any (a : Option Addr) (n cap : Nat) (xs : List Nat) (x : Nat) (w : World) (hl : xs.length = n) (hn : n ≤ 1048576) (hf : Fits xs) (hx : x < 64 * n) (hr : Reads w a (wv xs)) :
    Calls Trym.prog 14 #[.slice a n cap, .int .i64 x] w fun e w' => e = .returned (.bool (bitAt xs x)) ∧ w' = w := by
  obtain ⟨b, off, rfl, _, hc⟩ := hr.word (by omega)
  have hq : x / 64 < n := by omega
  have hcq := hc (x / 64) (by omega)
  have hz := hf.at (x / 64)
  unfold bitAt
  obtain ⟨z, hz'⟩ : ∃ z, z = xs.getD (x / 64) 0 := ⟨_, rfl⟩
  rw [← hz'] at hcq hz ⊢
  obtain ⟨q, hq'⟩ : ∃ q, q = x / 64 := ⟨_, rfl⟩
  rw [← hq'] at hcq hq
  obtain ⟨m, hm'⟩ : ∃ m, m = x % 64 := ⟨_, rfl⟩
  rw [← hm']
  have h1 : (x : Int) / 64 = (q : Int) := by omega
  have h2 : (x : Int) % 64 = (m : Int) := by omega
  have h3 : m < 64 := by omega
  have h4 : x < 67108864 := by omega
  have R := hide (bit_eq z m hz)
  clear hz' hq' hm' hc hr hx
  go_enter Trym.func14, Trym.ntmps14
  go_wp2
  go_ret
  exact ⟨congrArg (fun b => Ending.returned (Value.bool b)) R.out, rfl⟩
end Go.Proofs.Qxb6600943aMods
