/-
  appendDoubling and ZZappendDoubling: one contract for every line of the call's own; the bound on lengths.
-/
import Derived.Test.Qxb6600584aModsGrow
namespace Go.Proofs.Qxb6600584aMods
open Go.RowKit

/-- What a call of appendDoubling leaves. -/
def Grew (w w' : World) (a : Option Addr) (n cap m : Nat) (a' : Option Addr) (cap' : Nat) : Prop :=
  (n + m ≤ cap ∧ a' = a ∧ cap' = cap ∧ w.grownBy w' (a.map (·.block))) ∨ (cap < n + m ∧ cap' = max (2 * cap) (n + m) ∧ a' = some ⟨w.heap.size, 0, none⟩ ∧ Below w.heap.size w w')

theorem Line.reads {w : World} {a : Option Addr} {n cap : Nat} {xs : List Int} (h : Line w a n cap xs) : Reads w a (ints xs) := by
  obtain ⟨h1, ⟨h2, h3, h4⟩ | ⟨g, sp, h2, h3, h4⟩⟩ := h
  · exact .inl (List.eq_nil_of_length_eq_zero (by rw [ints_length]; omega))
  · refine .inr ⟨g, 0, h2, fun i hi => ?_⟩
    rw [Nat.zero_add, h4.cell i, List.getElem?_append_left hi]

theorem grow_any (a : Option Addr) (n cap : Nat) (xs : List Int) (b : Option Addr) (m c : Nat) (ys : List Int) (w : World) (hL : Line w a n cap xs)
    (hy : ys.length = m) (hbn : b = none → m = 0 ∧ c = 0) (hr : Reads w b (ints ys)) (hnm : n + m ≤ 4194304) (hcap : cap ≤ 4194304) :
    Calls Trym.prog 26 #[.slice a n cap, .slice b m c] w fun e w' => ∃ a' cap', e = .returned (.slice a' (n + m) cap') ∧ Line w' a' (n + m) cap' (xs ++ ys) ∧ Grew w w' a n cap m a' cap' := by
  have hra := hL.reads
  obtain ⟨hx, hL⟩ := hL
  have hxy : (xs ++ ys).length = n + m := by rw [List.length_append, hx, hy]
  by_cases hroom : n + m ≤ cap
  · rcases hL with ⟨rfl, rfl, rfl⟩ | ⟨g, sp, rfl, hsp, hB⟩
    · obtain rfl : m = 0 := by omega
      have hxe : xs = [] := List.eq_nil_of_length_eq_zero hx
      have hye : ys = [] := List.eq_nil_of_length_eq_zero hy
      subst hxe; subst hye
      refine (grow_nil b c w).mono fun e w' ⟨he, hw⟩ => ?_
      subst hw
      exact ⟨none, 0, he, ⟨rfl, .inl ⟨rfl, rfl, rfl⟩⟩, .inl ⟨Nat.le_refl _, rfl, rfl, World.grownBy.refl _ _⟩⟩
    · refine (grow_room g n cap xs sp b m c ys w hx hsp hB hy hbn hr hroom hcap).mono fun e w' ⟨he, hB', hg, hs⟩ => ?_
      exact ⟨_, _, he, ⟨hxy, .inr ⟨g, _, rfl, by rw [List.length_drop]; omega, hB'⟩⟩, .inl ⟨hroom, rfl, rfl, hg⟩⟩
  · refine (grow_more a n cap xs b m c ys w hx ?_ hra hy hbn hr (by omega) hnm _ rfl).mono fun e w' ⟨he, ⟨sp, hsp, hB'⟩, hb⟩ => ?_
    · rcases hL with ⟨_, h, _⟩ | ⟨g, sp, h, _⟩
      · intro _; exact h
      · intro h'; rw [h] at h'; cases h'
    · exact ⟨_, _, he, ⟨hxy, .inr ⟨_, sp, rfl, hsp, hB'⟩⟩, .inr ⟨by omega, rfl, rfl, hb⟩⟩

theorem zz_grow (a : Option Addr) (n cap : Nat) (xs : List Int) (b : Option Addr) (m c : Nat) (ys : List Int) (w : World) (hL : Line w a n cap xs)
    (hy : ys.length = m) (hbn : b = none → m = 0 ∧ c = 0) (hr : Reads w b (ints ys)) (hnm : n + m ≤ 4194304) (hcap : cap ≤ 4194304) :
    Calls Trym.prog 20 #[.slice a n cap, .slice b m c] w fun e w' => ∃ a' cap', e = .returned (.slice a' (n + m) cap') ∧ Line w' a' (n + m) cap' (xs ++ ys) ∧ Grew w w' a n cap m a' cap' := by
  go_enter Trym.func20, Trym.ntmps20
  go_wp2_with fail
  refine (grow_any a n cap xs b m c ys w hL hy hbn hr hnm hcap).mono ?_
  rintro e w' ⟨a', cap', rfl, R⟩
  go_wp2
  go_ret
  exact ⟨_, _, rfl, R⟩

/-- zzBytes_FnAppendDoublingContents. -/
theorem bytes_contents (a : Option Addr) (n cap : Nat) (r : Int) (b : Option Addr) (m c : Nat) (w : World) (hn : n ≤ 9223372036854775807) (hm : m ≤ 9223372036854775807) :
    Calls Trym.prog 18 #[.slice a n cap, .int .i64 r, .slice b m c] w fun e w' => e = .returned (.bool (decide (n + m ≤ 1048576))) ∧ w' = w := by
  by_cases h1 : n ≤ 1048576
  · by_cases h2 : m ≤ 1048576
    · by_cases h3 : n + m ≤ 1048576
      · go_enter Trym.func18, Trym.ntmps18
        go_wp2
        go_ret
        exact ⟨by simp [h3], rfl⟩
      · go_enter Trym.func18, Trym.ntmps18
        go_wp2
        go_ret
        exact ⟨by simp [h3], rfl⟩
    · have h3 : ¬ n + m ≤ 1048576 := by omega
      go_enter Trym.func18, Trym.ntmps18
      go_wp2
      go_ret
      exact ⟨by simp [h3], rfl⟩
  · have h3 : ¬ n + m ≤ 1048576 := by omega
    go_enter Trym.func18, Trym.ntmps18
    go_wp2
    go_ret
    exact ⟨by simp [h3], rfl⟩

end Go.Proofs.Qxb6600584aMods
