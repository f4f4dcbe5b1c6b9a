/-
  unite, ZZUnite_b1, sameWords_b1: the walks.
-/
import Derived.Test.Qxb6600943aModsShifted
import Derived.RegionTactic
import Derived.ChangeAlike
import Derived.Deep.QuietTactic
import Derived.BigQuiet
namespace Go.Proofs.Qxb6600943aMods
open Go.RowKit

/-! ### The plain union -/
def uni (xs os : List Nat) : List Nat := (List.range xs.length).map fun j => xs.getD j 0 ||| os.getD j 0
theorem uni_length (xs os : List Nat) : (uni xs os).length = xs.length := by simp [uni]
theorem uni_at (xs os : List Nat) (j : Nat) (h : j < xs.length) : (uni xs os).getD j 0 = (xs.getD j 0 ||| os.getD j 0) := by
  rw [getD_at (by rw [uni_length]; exact h)]; simp [uni]

/-- Behind k rounds: the first k words are new. -/
theorem front_at {xs us : List Nat} {k : Nat} (hk : k < xs.length) (hl : us.length = xs.length) : (wv (us.take k ++ xs.drop k))[k]? = some (.int .u64 ((xs.getD k 0 : Nat) : Int)) := by
  have h1 : (us.take k).length = k := by rw [List.length_take]; omega
  unfold wv
  rw [List.getElem?_map, List.getElem?_append_right (by omega), h1, Nat.sub_self, List.getElem?_drop, Nat.add_zero]
  simp [List.getD, List.getElem?_eq_getElem hk]
theorem front_set {xs us : List Nat} {k : Nat} (hk : k < xs.length) (hl : us.length = xs.length) : (us.take k ++ xs.drop k).set k (us.getD k 0) = us.take (k + 1) ++ xs.drop (k + 1) := by
  have hk' : k < us.length := by omega
  have h1 : (us.take k).length = k := by rw [List.length_take]; omega
  rw [List.set_append_right _ _ (by omega), h1, Nat.sub_self, List.drop_eq_getElem_cons hk, List.set_cons_zero, List.take_succ_eq_append_getElem hk', List.append_assoc, getD_at hk']
  rfl

def Front (w : World) (gb : Nat) (xs us : List Nat) (k : Nat) (wr : World) : Prop :=
  Blk wr gb 30 (wv (us.take k ++ xs.drop k)) ∧ w.grownBy wr (some gb) ∧ wr.heap.size = w.heap.size
theorem Front.start {w : World} {gb : Nat} {xs us : List Nat} (hB : Blk w gb 30 (wv xs)) : Front w gb xs us 0 w := ⟨hB, World.grownBy.refl _ _, rfl⟩
theorem Front.step {w : World} {gb : Nat} {xs us : List Nat} {k : Nat} {wr : World} (h : Front w gb xs us k wr) (hk : k < xs.length) (hl : us.length = xs.length) {u : Nat} (hu : us.getD k 0 = u) : Front w gb xs us (k + 1) (wr.setCell ⟨gb, k, none⟩ (.int .u64 (u : Int))).drew := by
  obtain ⟨h1, h2, h3⟩ := h
  refine ⟨?_, ⟨h2.os, h2.tape, h2.output, by show _ ≤ (wr.setCell _ _).heap.size; rw [World.size_setCell]; exact h2.size, fun i hi hne => ?_⟩, by show (wr.setCell _ _).heap.size = _; rw [World.size_setCell]; exact h3⟩
  · have := h1.set k (.int .u64 (u : Int))
    rw [wv_set, ← hu, front_set hk hl] at this
    rw [← hu]; exact this.drew
  · show (wr.setCell _ _).heap[i]? = _
    rw [Below.heap_setCell _ _ _ _ (fun e => hne (by rw [e]))]; exact h2.block i hi hne
theorem Front.cell {w : World} {gb : Nat} {xs us : List Nat} {k : Nat} {wr : World} (h : Front w gb xs us k wr) {b o : Nat} {v : Value} (hb : b ≠ gb) (hc : w.cell? ⟨b, o, none⟩ = some v) : wr.cell? ⟨b, o, none⟩ = some v :=
  (World.cell?_of_block (a := ⟨b, o, none⟩) (h.2.1.block b (World.block_lt_of_cell? w _ hc) (by intro e; cases e; exact hb rfl))).trans hc

set_option maxHeartbeats 1000000 in
theorem unite_pos (gb n cb bo oo co : Nat) (xs os : List Nat) (w : World) (hn : n ≤ 1048576) (hxl : xs.length = n) (hx : Fits xs) (ho : Fits os) (hB : Blk w gb 30 (wv xs)) (hbo : bo ≠ gb)
    (hco : ∀ k, k < n → w.cell? ⟨bo, oo + k, none⟩ = some (.int .u64 ((os.getD k 0 : Nat) : Int))) :
    Calls Trym.prog 21 #[.slice (some ⟨gb, 0, none⟩) n cb, .slice (some ⟨bo, oo, none⟩) n co] w fun e w' => e = .returned (.tuple #[]) ∧ Front w gb xs (uni xs os) n w' := by
  have HX := hide hxl
  have HO := hide hco
  have HL := hide (uni_length xs os)
  have h0 := Front.start (us := uni xs os) hB
  clear hco hxl hB
  go_enter Trym.func21, Trym.ntmps21
  go_wp2
  go_loopw [7] (fun i wr => ∃ k : Nat, k ≤ n ∧ i = .int .i64 k ∧ Front w gb xs (uni xs os) k wr) (fun i _ => n - (intOf i).toNat)
  case atStart => exact ⟨0, Nat.zero_le _, rfl, h0⟩
  case round =>
    obtain ⟨k, hk, rfl, hF⟩ := hrel
    by_cases hlt : k < n
    · have hkx : k < xs.length := by rw [HX.out]; exact hlt
      have c1 := hF.cell hbo (HO.out k hlt)
      have c3 := (hF.1.cell k).trans (front_at hkx HL.out)
      have f3 := hF.1.frozen k
      have hu := uni_at xs os k hkx
      obtain ⟨X, hX⟩ : ∃ X, os.getD k 0 = X := ⟨_, rfl⟩
      obtain ⟨Z, hZ⟩ : ∃ Z, xs.getD k 0 = Z := ⟨_, rfl⟩
      rw [hX] at c1 hu
      rw [hZ] at c3 hu
      have bX : X < 18446744073709551616 := by rw [← hX]; exact ho.at _
      have bZ : Z < 18446744073709551616 := by rw [← hZ]; exact hx.at _
      obtain ⟨U, hU⟩ : ∃ U, Z ||| X = U := ⟨_, rfl⟩
      have r6 : bits .or .u64 (Z : Int) (X : Int) = (U : Int) := by rw [← hU]; exact u64_or_nat Z X bZ bX
      rw [hU] at hu
      have R := hF.step hkx HL.out hu
      have i1 : (k : Int) < (n : Int) := by omega
      clear hF hX hZ hU hu HO bX bZ
      go_wp2
      go_region
      go_wp2
      go_roundw
      case rel => exact ⟨k + 1, by omega, by go_num, R⟩
      case measure => simp [intOf]; omega
    · obtain rfl : k = n := by omega
      clear HO
      go_wp2
      go_end0
      exact ⟨rfl, hF⟩

theorem unite_none (ab ao : Option Addr) (cb co : Nat) (w : World) : Calls Trym.prog 21 #[.slice ab 0 cb, .slice ao 0 co] w fun e w' => e = .returned (.tuple #[]) ∧ w' = w := by
  go_enter Trym.func21, Trym.ntmps21
  go_wp2
  refine wp_loop_rounds 1 ?_
  rw [rounds_succ]
  go_wp2
  go_end0
  exact ⟨rfl, rfl⟩

theorem unite_any (gb go : Nat) (ab ao : Option Addr) (n cb co : Nat) (xs os : List Nat) (w : World) (hn : n ≤ 1048576) (hxl : xs.length = n) (hol : os.length = n) (hx : Fits xs) (ho : Fits os) (hB : Made w gb 30 ab n cb (wv xs)) (hO : Made w go 30 ao n co (wv os)) (hbo : 0 < n → go ≠ gb) :
    Calls Trym.prog 21 #[.slice ab n cb, .slice ao n co] w fun e w' => e = .returned (.tuple #[]) ∧ Made w' gb 30 ab n cb (wv (uni xs os)) ∧ w.grownBy w' (some gb) ∧ w'.heap.size = w.heap.size := by
  have hnl : (wv (uni xs os)).length = n := by rw [wv_length, uni_length, hxl]
  by_cases h0 : n = 0
  · subst h0
    have e1 : xs = [] := List.eq_nil_of_length_eq_zero hxl
    have e2 : uni xs os = [] := List.eq_nil_of_length_eq_zero (by rw [uni_length, hxl])
    refine (unite_none ab ao cb co w).mono fun e w' ⟨he, hw⟩ => ?_
    subst hw
    rw [e2]
    rw [e1] at hB
    exact ⟨he, hB, World.grownBy.refl _ _, rfl⟩
  · obtain ⟨rfl, hc, hB1⟩ := hB.some (by omega)
    obtain ⟨rfl, _, hO1⟩ := hO.some (by omega)
    refine (unite_pos gb n cb go 0 co xs os w hn hxl hx ho hB1 (hbo (by omega)) (hO1.words hol)).mono fun e w' ⟨he, h1, h2, h3⟩ => ?_
    rw [List.take_of_length_le (by rw [uni_length]; omega), List.drop_eq_nil_of_le (by omega), List.append_nil] at h1
    exact ⟨he, ⟨hnl, .inr ⟨rfl, hc, h1⟩⟩, h2, h3⟩

theorem zz_unite (gb go : Nat) (ab ao : Option Addr) (n cb co : Nat) (xs os : List Nat) (w : World) (hn : n ≤ 1048576) (hxl : xs.length = n) (hol : os.length = n) (hx : Fits xs) (ho : Fits os) (hB : Made w gb 30 ab n cb (wv xs)) (hO : Made w go 30 ao n co (wv os)) (hbo : 0 < n → go ≠ gb) :
    Calls Trym.prog 12 #[.slice ab n cb, .slice ao n co] w fun e w' => e = .returned (.tuple #[]) ∧ Made w' gb 30 ab n cb (wv (uni xs os)) ∧ w.grownBy w' (some gb) ∧ w'.heap.size = w.heap.size := by
  go_enter Trym.func12, Trym.ntmps12
  go_wp2_with fail
  refine (unite_any gb go ab ao n cb co xs os w hn hxl hol hx ho hB hO hbo).mono ?_
  rintro e w' ⟨rfl, R⟩
  go_wp2
  go_end0
  exact ⟨rfl, R⟩

/-! ### sameWords_b1 -/
theorem same_hit {xs ys : List Nat} {k : Nat} (h : xs.getD k 0 ≠ ys.getD k 0) : (xs == ys) = false := by
  rw [beq_eq_false_iff_ne]; intro e; exact h (by rw [e])
theorem same_step {xs ys : List Nat} {k : Nat} (hk : k < xs.length) (hl : ys.length = xs.length) (hp : xs.take k = ys.take k) (h : xs.getD k 0 = ys.getD k 0) : xs.take (k + 1) = ys.take (k + 1) := by
  have hk' : k < ys.length := by omega
  rw [getD_at hk, getD_at hk'] at h
  rw [List.take_succ_eq_append_getElem hk, List.take_succ_eq_append_getElem hk', hp, h]

theorem drewN_two (w : World) (p q : Nat) : (w.drewN p).drewN q = w.drewN (p + q) := by simp [World.drewN, Nat.add_assoc]

set_option maxHeartbeats 1000000 in
theorem same_any (a b : Option Addr) (n ca cb : Nat) (xs ys : List Nat) (w : World) (hn : n ≤ 1048576) (hxl : xs.length = n) (hyl : ys.length = n) (hr : Reads w a (wv xs)) (hs : Reads w b (wv ys)) :
    Calls Trym.prog 13 #[.slice a n ca, .slice b n cb] w fun e w' => e = .returned (.bool (xs == ys)) ∧ ∃ q, w' = w.drewN q := by
  have HX := hide hxl
  have HY := hide hyl
  clear hxl hyl
  go_enter Trym.func13, Trym.ntmps13
  go_wp2
  go_loopw [5] (fun i wr => ∃ k q : Nat, k ≤ n ∧ i = .int .i64 k ∧ Hid (xs.take k = ys.take k) ∧ wr = w.drewN q) (fun i _ => n - (intOf i).toNat)
  case atStart => exact ⟨0, 0, Nat.zero_le _, rfl, rfl, rfl⟩
  case round =>
    obtain ⟨k, q, hk, rfl, HP, rfl⟩ := hrel
    by_cases hlt : k < n
    · have hkx : k < xs.length := by rw [HX.out]; exact hlt
      have hll : ys.length = xs.length := by rw [HX.out, HY.out]
      have HLL := hide hll
      obtain ⟨ba, oa, rfl, _, hca⟩ := hr.word (by omega)
      obtain ⟨bb, ob, rfl, _, hcb⟩ := hs.word (by rw [hll]; omega)
      have c1 := hca k hkx
      have c2 := hcb k (by rw [hll]; exact hkx)
      obtain ⟨X, hX⟩ : ∃ X, xs.getD k 0 = X := ⟨_, rfl⟩
      obtain ⟨Y, hY⟩ : ∃ Y, ys.getD k 0 = Y := ⟨_, rfl⟩
      rw [hX] at c1
      rw [hY] at c2
      have i1 : (k : Int) < (n : Int) := by omega
      have i2 := hide hkx
      have H1 := hide hX
      have H2 := hide hY
      clear hca hcb hr hs hX hY hll hkx
      by_cases he : X = Y
      · have R := hide (same_step i2.out HLL.out HP.out (by rw [H1.out, H2.out, he]))
        have t1 : ((X : Int) != (Y : Int)) = false := by simp [he]
        clear he
        go_wp2
        go_quiet (fail)
        go_wp2
        go_roundw
        case rel => exact ⟨k + 1, _, by omega, by go_num, R, rfl⟩
        case measure => simp [intOf]; omega
      · have R := same_hit (xs := xs) (ys := ys) (k := k) (by rw [H1.out, H2.out]; exact he)
        have t1 : ((X : Int) != (Y : Int)) = true := by rw [bne_iff_ne]; omega
        clear he
        go_wp2
        go_quiet (fail)
        go_wp2
        go_ret
        exact ⟨by rw [R]; rfl, _, drewN_two _ _ _⟩
    · obtain rfl : k = n := by omega
      have R : (xs == ys) = true := by
        have := HP.out
        rw [List.take_of_length_le (by rw [HX.out]; omega), List.take_of_length_le (by rw [HY.out]; omega)] at this
        rw [this]; simp
      clear hr hs
      go_wp2
      go_ret
      exact ⟨by rw [R]; rfl, _, rfl⟩

/-! ### A full mask, no shift: uniteShifted is unite -/
def FM : Nat := 18446744073709551615
theorem full_fits (n : Nat) : Fits (List.replicate n FM) := by
  intro x hx; rw [List.eq_of_mem_replicate hx]; decide
theorem news_full {xs os : List Nat} (ho : Fits os) : news xs os (List.replicate xs.length FM) 0 0 = uni xs os := by
  unfold news uni
  apply List.map_congr_left
  intro j hj
  have hj' : j < xs.length := List.mem_range.1 hj
  have h1 := ho.at j
  unfold newW shW
  rw [if_neg (by omega), if_neg (by simp), Nat.sub_zero, Nat.pow_zero, Nat.mul_one, Nat.mod_eq_of_lt h1]
  have e : (List.replicate xs.length FM).getD j 0 = 2 ^ 64 - 1 := by rw [getD_at (by rw [List.length_replicate]; exact hj')]; simp [FM]
  rw [e, Nat.and_two_pow_sub_one_eq_mod, ← M_eq, Nat.mod_eq_of_lt h1]
end Go.Proofs.Qxb6600943aMods
