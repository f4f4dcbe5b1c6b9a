/-
  FnHoldsSplitSpecification: the walk.
-/
import Derived.Test.Qxb6600584aModsCut
namespace Go.Proofs.Qxb6600584aMods
open Go.RowKit

/-- k lies outside the list. -/
theorem split_out (a : Option Addr) (n cap : Nat) (ss : List ByteArray) (k : Int) (r : ByteArray) (w : World)
    (hl : ss.length = n) (hn0 : n ≤ 9223372036854775807) (hr : Reads w a (sv ss)) (hk : k < 0 ∨ (n : Int) < k) :
    Calls Trym.prog 5 #[.slice a n cap, .int .i64 k, .string r] w fun e w' => e = .returned (.bool true) ∧ Below w.heap.size w w' := by
  go_enter Trym.func5, Trym.ntmps5
  go_wp2_with fail
  refine (bytes13 a n cap k ss r w hl hn0 hr).mono ?_
  rintro e w0 ⟨⟨z, rfl, hzn⟩, rfl⟩
  cases z with
  | false =>
    go_wp2
    go_ret
    exact ⟨rfl, Below.refl _ _⟩
  | true =>
  have hn := hzn rfl
  clear hzn
  go_wp2_with fail
  refine (fits14 a n cap ss r w0 hl hn hr).mono ?_
  rintro e w ⟨⟨z, rfl, hzn⟩, rfl⟩
  cases z with
  | false =>
    go_wp2
    go_ret
    exact ⟨rfl, Below.refl _ _⟩
  | true =>
  by_cases h1 : k < 0
  · go_wp2_with fail
    go_ret
    exact ⟨rfl, Below.refl _ _⟩
  · have d1 : decide (k < 0) = false := decide_eq_false h1
    have h2 : (n : Int) < k := by omega
    go_wp2_with fail
    go_ret
    exact ⟨rfl, Below.refl _ _⟩

set_option maxHeartbeats 1000000 in
theorem split_main (a : Option Addr) (n cap : Nat) (ss : List ByteArray) (k : Nat) (r : ByteArray) (w : World)
    (hl : ss.length = n) (hn0 : n ≤ 9223372036854775807) (han : a = none → n = 0 ∧ cap = 0) (hr : Reads w a (sv ss)) (hk : k ≤ n) :
    Calls Trym.prog 5 #[.slice a n cap, .int .i64 k, .string r] w fun e w' => e = .returned (.bool true) ∧ Below w.heap.size w w' := by
  have d1 : decide ((k : Int) < 0) = false := decide_eq_false (by omega)
  have d2 : decide ((n : Int) < (k : Int)) = false := decide_eq_false (by omega)
  go_enter Trym.func5, Trym.ntmps5
  go_wp2_with fail
  refine (bytes13 a n cap k ss r w hl hn0 hr).mono ?_
  rintro e w0 ⟨⟨z, rfl, hzn⟩, rfl⟩
  cases z with
  | false =>
    go_wp2
    go_ret
    exact ⟨rfl, Below.refl _ _⟩
  | true =>
  have hn := hzn rfl
  clear hzn
  go_wp2_with fail
  refine (fits14 a n cap ss r w0 hl hn hr).mono ?_
  rintro e w ⟨⟨z, rfl, hzn⟩, rfl⟩
  cases z with
  | false =>
    go_wp2
    go_ret
    exact ⟨rfl, Below.refl _ _⟩
  | true =>
  go_wp2_with fail
  refine (slist_any a n cap ss w hl hn han hr).mono ?_
  rintro e w1 ⟨a1, cap1, rfl, ⟨hM0, hM⟩, hb⟩
  rcases hM with ⟨rfl, rfl, rfl⟩ | ⟨rfl, rfl, hB⟩
  · obtain rfl : k = 0 := by omega
    clear han hr hzn
    go_wp2_with fail
    refine (holds_empty 0 r w1).mono ?_
    rintro e w2 ⟨rfl, rfl⟩
    go_wp2_with fail
    go_quiet ((go_at_call 16; exact Calls.quiet_of_same (holds_empty _ _ _)))
    go_wp2
    go_ret
    exact ⟨rfl, below_drewN hb _⟩
  clear han hr hzn
  go_wp2_with fail
  refine (zz_holds (some ⟨w.heap.size, 0, none⟩) 0 cap1 [] r w1 rfl (by omega) (.inl rfl)).mono ?_
  rintro e w2 ⟨rfl, rfl⟩
  rw [has_nil]
  by_cases hlt : k < cap1
  · obtain ⟨s, hs⟩ : ∃ s, s = ss.getD k ByteArray.empty := ⟨_, rfl⟩
    have ck : w2.cell? ⟨w.heap.size, k, none⟩ = some (.string s) := by rw [hs, hB.cell k]; exact sv_at ss k (by omega)
    have e1 := cut_one ss r k (by omega)
    rw [← hs] at e1
    clear hs
    have i1 : (k : Int) < (cap1 : Int) := by omega
    have i3 : ¬ cap1 = k := by omega
    have i2 : (k : Int) + 1 ≤ (cap1 : Int) := by omega
    go_wp2_with fail
    go_quiet ((go_at_call 16; exact Calls.quiet_of_same (holds_cut _ _ _ _ ss r _ (hB.drewN _) (by omega) (by omega))))
    have hall := cut_all ss r k cap1 hl hk
    rename_i nq
    have hB3 := hB.drewN nq
    have hb3 := below_drewN hb nq
    clear ck e1 hB hb
    generalize w2.drewN nq = w3 at hB3 hb3 ⊢
    have hB := hB3
    have hb := hb3
    clear hB3 hb3
    cases hP : hasCut ss r 0 k with
    | true =>
      rw [hP, Bool.true_or] at hall
      go_wp2
      go_quiet ((go_at_call 16; exact Calls.quiet_of_same (holds_cut _ _ _ _ ss r _ (hB.drewN _) (by omega) (by omega))))
      go_wp2
      go_ret
      exact ⟨rfl, below_drewN hb _⟩
    | false =>
      rw [hP, Bool.false_or] at hall
      go_wp2
      go_quiet ((go_at_call 16; exact Calls.quiet_of_same (holds_cut _ _ _ _ ss r _ (hB.drewN _) (by omega) (by omega))))
      go_wp2
      go_ret
      exact ⟨rfl, below_drewN hb _⟩
  · obtain rfl : k = cap1 := by omega
    have hall := cut_none ss r 0
    cases hP : hasCut ss r 0 k with
    | true =>
      go_wp2
      go_quiet ((go_at_call 16; exact Calls.quiet_of_same (holds_cut _ _ _ _ ss r _ (hB.drewN _) (by omega) (by omega))))
      go_wp2
      go_ret
      exact ⟨rfl, below_drewN hb _⟩
    | false =>
      go_wp2
      go_quiet ((go_at_call 16; exact Calls.quiet_of_same (holds_cut _ _ _ _ ss r _ (hB.drewN _) (by omega) (by omega))))
      go_wp2
      go_ret
      exact ⟨rfl, below_drewN hb _⟩
end Go.Proofs.Qxb6600584aMods
