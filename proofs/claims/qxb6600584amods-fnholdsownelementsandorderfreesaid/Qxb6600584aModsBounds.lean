/-
  The bounds on lengths: zzBytes_FnHoldsSplitSpecification, zzBytes_FnHoldsOwnElementsAndOrderFree, holdsLawSizeFits: each answers some bool and turns nothing.
-/
import Derived.Test.Qxb6600584aModsStrs
namespace Go.Proofs.Qxb6600584aMods
open Go.RowKit

/-- Some bool; if it is true, n is within the bound. -/
def SaysB (n : Nat) (e : Ending) : Prop := ∃ z, e = .returned (.bool z) ∧ (z = true → n ≤ 1048576)

theorem bytes13 (a : Option Addr) (n cap : Nat) (k : Int) (ss : List ByteArray) (r : ByteArray) (w : World) (hl : ss.length = n) (hn : n ≤ 9223372036854775807) (hr : Reads w a (sv ss)) :
    Calls Trym.prog 13 #[.slice a n cap, .int .i64 k, .string r] w fun e w' => SaysB n e ∧ w' = w := by
  by_cases hn2 : n ≤ 1048576
  · go_enter Trym.func13, Trym.ntmps13
    go_wp2
    go_loop [7, 8] (fun t i => ∃ j : Nat, ∃ T : Int, j ≤ n ∧ i = .int .i64 j ∧ t = .int .i64 T ∧ 0 ≤ T ∧ T ≤ 1048576) (fun _ i => n - (intOf i).toNat)
    case atStart => exact ⟨0, _, Nat.zero_le _, rfl, rfl, by omega, by omega⟩
    case round =>
      obtain ⟨j, T, hj, rfl, rfl, hT0, hT1⟩ := hrel
      by_cases hlt : j < n
      · obtain ⟨b, off, rfl, _, hc⟩ := hr.str (by omega)
        have hcj := hc j (by omega)
        obtain ⟨s, hs⟩ : ∃ s, s = ss.getD j ByteArray.empty := ⟨_, rfl⟩
        rw [← hs] at hcj
        clear hs hc hr
        by_cases h1 : s.size ≤ 1048576
        · by_cases h2 : T + s.size ≤ 1048576
          · go_wp2
            go_round
            case rel => exact ⟨j + 1, _, by omega, by go_num, rfl, by omega, by omega⟩
            case measure => simp [intOf]; omega
          · go_wp2
            go_ret
            exact ⟨⟨_, rfl, fun _ => hn2⟩, rfl⟩
        · go_wp2
          go_ret
          exact ⟨⟨_, rfl, fun _ => hn2⟩, rfl⟩
      · by_cases h1 : r.size ≤ 1048576
        · by_cases h2 : T + r.size ≤ 1048576
          · go_wp2
            go_ret
            exact ⟨⟨_, rfl, fun _ => hn2⟩, rfl⟩
          · go_wp2
            go_ret
            exact ⟨⟨_, rfl, fun _ => hn2⟩, rfl⟩
        · go_wp2
          go_ret
          exact ⟨⟨_, rfl, fun _ => hn2⟩, rfl⟩
  · go_enter Trym.func13, Trym.ntmps13
    go_wp2
    go_ret
    exact ⟨⟨false, rfl, by simp⟩, rfl⟩
theorem bytes17 (a : Option Addr) (n cap : Nat) (k : Int) (ss : List ByteArray) (r : ByteArray) (w : World) (hl : ss.length = n) (hn : n ≤ 9223372036854775807) (hr : Reads w a (sv ss)) :
    Calls Trym.prog 17 #[.slice a n cap, .int .i64 k, .string r] w fun e w' => SaysB n e ∧ w' = w := by
  by_cases hn2 : n ≤ 1048576
  · go_enter Trym.func17, Trym.ntmps17
    go_wp2
    go_loop [7, 8] (fun t i => ∃ j : Nat, ∃ T : Int, j ≤ n ∧ i = .int .i64 j ∧ t = .int .i64 T ∧ 0 ≤ T ∧ T ≤ 1048576) (fun _ i => n - (intOf i).toNat)
    case atStart => exact ⟨0, _, Nat.zero_le _, rfl, rfl, by omega, by omega⟩
    case round =>
      obtain ⟨j, T, hj, rfl, rfl, hT0, hT1⟩ := hrel
      by_cases hlt : j < n
      · obtain ⟨b, off, rfl, _, hc⟩ := hr.str (by omega)
        have hcj := hc j (by omega)
        obtain ⟨s, hs⟩ : ∃ s, s = ss.getD j ByteArray.empty := ⟨_, rfl⟩
        rw [← hs] at hcj
        clear hs hc hr
        by_cases h1 : s.size ≤ 1048576
        · by_cases h2 : T + s.size ≤ 1048576
          · go_wp2
            go_round
            case rel => exact ⟨j + 1, _, by omega, by go_num, rfl, by omega, by omega⟩
            case measure => simp [intOf]; omega
          · go_wp2
            go_ret
            exact ⟨⟨_, rfl, fun _ => hn2⟩, rfl⟩
        · go_wp2
          go_ret
          exact ⟨⟨_, rfl, fun _ => hn2⟩, rfl⟩
      · by_cases h1 : r.size ≤ 1048576
        · by_cases h2 : T + r.size ≤ 1048576
          · go_wp2
            go_ret
            exact ⟨⟨_, rfl, fun _ => hn2⟩, rfl⟩
          · go_wp2
            go_ret
            exact ⟨⟨_, rfl, fun _ => hn2⟩, rfl⟩
        · go_wp2
          go_ret
          exact ⟨⟨_, rfl, fun _ => hn2⟩, rfl⟩
  · go_enter Trym.func17, Trym.ntmps17
    go_wp2
    go_ret
    exact ⟨⟨false, rfl, by simp⟩, rfl⟩
theorem fits14 (a : Option Addr) (n cap : Nat) (ss : List ByteArray) (r : ByteArray) (w : World) (hl : ss.length = n) (hn : n ≤ 1048576) (hr : Reads w a (sv ss)) :
    Calls Trym.prog 14 #[.slice a n cap, .string r] w fun e w' => SaysB n e ∧ w' = w := by
  by_cases hr1 : (1048576 : Int) < (r.size : Int)
  · go_enter Trym.func14, Trym.ntmps14
    go_wp2
    go_ret
    exact ⟨⟨_, rfl, fun _ => hn⟩, rfl⟩
  have d1 : decide ((1048576 : Int) < (r.size : Int)) = false := decide_eq_false hr1
  by_cases hn2 : (65536 : Int) < (n : Int)
  · go_enter Trym.func14, Trym.ntmps14
    go_wp2
    go_ret
    exact ⟨⟨_, rfl, fun _ => hn⟩, rfl⟩
  have d2 : decide ((65536 : Int) < (n : Int)) = false := decide_eq_false hn2
  go_enter Trym.func14, Trym.ntmps14
  go_wp2
  go_loop [5, 6] (fun t i => ∃ j : Nat, ∃ T : Int, j ≤ n ∧ i = .int .i64 j ∧ t = .int .i64 T ∧ 0 ≤ T ∧ T ≤ 4194304) (fun _ i => n - (intOf i).toNat)
  case atStart => exact ⟨0, _, Nat.zero_le _, rfl, rfl, by omega, by omega⟩
  case round =>
    obtain ⟨j, T, hj, rfl, rfl, hT0, hT1⟩ := hrel
    by_cases hlt : j < n
    · obtain ⟨b, off, rfl, _, hc⟩ := hr.str (by omega)
      have hcj := hc j (by omega)
      obtain ⟨s, hs⟩ : ∃ s, s = ss.getD j ByteArray.empty := ⟨_, rfl⟩
      rw [← hs] at hcj
      clear hs hc hr
      by_cases h1 : s.size ≤ 1048576
      · by_cases h2 : T + s.size ≤ 1048576
        · go_wp2
          go_round
          case rel => exact ⟨j + 1, _, by omega, by go_num, rfl, by omega, by omega⟩
          case measure => simp [intOf]; omega
        · go_wp2
          go_ret
          exact ⟨⟨_, rfl, fun _ => hn⟩, rfl⟩
      · go_wp2
        go_ret
        exact ⟨⟨_, rfl, fun _ => hn⟩, rfl⟩
    · go_wp2
      go_ret
      exact ⟨⟨_, rfl, fun _ => hn⟩, rfl⟩
end Go.Proofs.Qxb6600584aMods
