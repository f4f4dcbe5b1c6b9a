/-
  FnHoldsOwnElementsAndOrderFree: the walk.
-/
import Derived.Test.Qxb6600584aModsCut
namespace Go.Proofs.Qxb6600584aMods
open Go.RowKit

theorem has_last (ss : List ByteArray) (r : ByteArray) : hasB (ss ++ [r]) r = true := by rw [has_append, has_one]; simp
theorem rev_get (ss : List ByteArray) (n j : Nat) (hl : ss.length = n) (hj : j < n) : (sv ss.reverse)[j]'(by rw [sv_length, List.length_reverse]; omega) = .string (ss.getD (n - 1 - j) ByteArray.empty) := by
  subst hl
  rw [sv_get ss.reverse j (by rw [List.length_reverse]; exact hj), List.getElem_reverse]
  simp [List.getD, List.getElem?_eq_getElem (show ss.length - 1 - j < ss.length by omega)]
theorem ext_get (ss : List ByteArray) (r : ByteArray) (j : Nat) (hj : j < ss.length) : (sv (ss ++ [r]))[j]'(by rw [sv_length, List.length_append]; omega) = .string (ss.getD j ByteArray.empty) := by
  rw [sv_get (ss ++ [r]) j (by rw [List.length_append]; omega), List.getElem_append_left hj]
  simp [List.getD, List.getElem?_eq_getElem hj]
theorem ext_last (ss : List ByteArray) (r : ByteArray) (n : Nat) (hl : ss.length = n) : (sv (ss ++ [r]))[n]'(by rw [sv_length, List.length_append]; simp; omega) = .string r := by
  subst hl
  rw [sv_get (ss ++ [r]) ss.length (by simp)]
  simp

set_option maxHeartbeats 1000000 in
theorem own_main (a : Option Addr) (n cap : Nat) (ss : List ByteArray) (k : Int) (r : ByteArray) (w : World)
    (hl : ss.length = n) (hn0 : n ≤ 9223372036854775807) (han : a = none → n = 0 ∧ cap = 0) (hr : Reads w a (sv ss)) :
    Calls Trym.prog 6 #[.slice a n cap, .int .i64 k, .string r] w fun e w' => e = .returned (.bool true) ∧ Below w.heap.size w w' := by
  go_enter Trym.func6, Trym.ntmps6
  go_wp2_with fail
  refine (bytes17 a n cap k ss r w hl hn0 hr).mono ?_
  rintro e w0 ⟨⟨z, rfl, hzn⟩, rfl⟩
  cases z with
  | false =>
    go_wp2
    go_ret
    exact ⟨rfl, Below.refl _ _⟩
  | true =>
  have hn := hzn rfl
  clear hzn
  go_wp2_with fail
  refine (fits14 a n cap ss r w0 hl hn hr).mono ?_
  rintro e w ⟨⟨z, rfl, hzn⟩, rfl⟩
  cases z with
  | false =>
    go_wp2
    go_ret
    exact ⟨rfl, Below.refl _ _⟩
  | true =>
  go_wp2_with fail
  refine (slist_any a n cap ss w hl hn han hr).mono ?_
  rintro e w1 ⟨a1, cap1, rfl, ⟨hM0, hM⟩, hb⟩
  have hrd : Reads w1 a1 (sv ss) := Made.reads ⟨hM0, hM⟩
  have hmk := mkS n n (Nat.le_refl _) (by omega)
  have hmk2 := mkS (n + 1) (n + 1) (Nat.le_refl _) (by omega)
  have ec : ((n + 1 : Nat) : Int) = (n : Int) + 1 := by omega
  rw [ec] at hmk2
  clear ec hM hM0 hr han hzn hn0
  rcases (show (0 ≤ k ∧ k < (n : Int)) ∨ k < 0 ∨ (n : Int) ≤ k from by omega) with ⟨h1, h2⟩ | h1 | h1
  · have d1 : decide (0 ≤ k) = true := decide_eq_true h1
    have d2 : decide (k < (n : Int)) = true := decide_eq_true h2
    obtain ⟨i, rfl⟩ := Int.eq_ofNat_of_zero_le h1
    obtain ⟨b, off, rfl, hb0, hc⟩ := hrd.str (by omega)
    have hci := hc i (by omega)
    obtain ⟨s, hs⟩ : ∃ s, s = ss.getD i ByteArray.empty := ⟨_, rfl⟩
    rw [← hs] at hci
    have hhit : hasB ss s = true := has_hit (k := i) (by omega) (by rw [hs]; simp [List.getD, List.getElem?_eq_getElem (show i < ss.length by omega)])
    clear hs hc
    go_wp2_with fail
    refine (zz_holds (some ⟨b, off, none⟩) n cap1 ss s w1 hl (by omega) hrd).mono ?_
    rintro e w2 ⟨rfl, hw⟩
    have hw := hw.symm
    subst hw
    rw [hhit]
    clear hhit hci d1 d2
    go_wp2_with fail
    go_loopw [9] (fun i wr => ∃ j : Nat, j ≤ n ∧ i = .int .i64 j ∧ Blk wr w1.heap.size 9 (mix (sv ss.reverse) (.string ByteArray.empty) j) ∧ Below w1.heap.size w1 wr) (fun i _ => n - (intOf i).toNat)
    case atStart => exact ⟨0, Nat.zero_le _, rfl, by rw [mix_zero, sv_length, List.length_reverse, hl]; exact Blk.new _ _ _, (Below.refl _ _).alloc (Nat.le_refl _) _⟩
    case round =>
      obtain ⟨j, hj, rfl, hB, hbel⟩ := hrel
      have hrl : (sv ss.reverse).length = n := by rw [sv_length, List.length_reverse, hl]
      by_cases hlt : j < n
      · obtain ⟨b', off', hx, hb', hc⟩ := hrd.str (by omega)
        rw [hx]
        obtain ⟨m, hm⟩ : ∃ m : Nat, m = n - 1 - j := ⟨_, rfl⟩
        have em : (n : Int) - 1 - (j : Int) = (m : Int) := by omega
        have hmn : m < n := by omega
        have hsrc : wr.cell? ⟨b', off' + m, none⟩ = some (.string (ss.getD m ByteArray.empty)) := (hbel.cell hb').trans (hc m (by omega))
        have hdst : ∃ v, wr.cell? ⟨w1.heap.size, j, none⟩ = some v := ⟨_, (hB.cell j).trans (List.getElem?_eq_getElem (by rw [mix_length _ _ _ (by omega)]; omega))⟩
        obtain ⟨v, hdst⟩ := hdst
        have hfr := hB.frozen j
        have hset := mix_set (sv ss.reverse) (.string ByteArray.empty) j (by omega)
        rw [rev_get ss n j hl hlt, ← hm] at hset
        obtain ⟨s, hs⟩ : ∃ s, s = ss.getD m ByteArray.empty := ⟨_, rfl⟩
        rw [← hs] at hset hsrc
        have R := hB.set j (.string s)
        rw [hset] at R
        clear hset hmk hmk2 hc hs hm hx
        go_wp2
        go_roundw
        case rel => exact ⟨j + 1, by omega, by go_num, R, hbel.setCell (Nat.le_refl _) _⟩
        case measure => simp [intOf]; omega
      · obtain rfl : j = n := by omega
        have hB2 : Blk wr w1.heap.size 9 (sv ss.reverse) := by
          have := hB
          rw [← hrl, mix_all] at this; exact this
        have hrd2 : Reads wr (some ⟨b, off, none⟩) (sv ss) := hrd.below hbel
        have hrv : Reads wr (some ⟨w1.heap.size, 0, none⟩) (sv ss.reverse) := .inr ⟨_, 0, rfl, fun i hi => by rw [Nat.zero_add]; exact hB2.cell i⟩
        clear hB hmk
        go_wp2_with fail
        refine (zz_holds (some ⟨w1.heap.size, 0, none⟩) j j ss.reverse r wr (by rw [List.length_reverse, hl]) (by omega) hrv).mono ?_
        rintro e w2 ⟨rfl, rfl⟩
        rw [has_reverse]
        go_wp2_with fail
        refine (zz_holds (some ⟨b, off, none⟩) j cap1 ss r w2 hl (by omega) hrd2).mono ?_
        rintro e wr ⟨rfl, rfl⟩
        go_wp2_with fail
        have hB3 := hB2.alloc (.cells (zrow (.string ByteArray.empty) (j + 1)).toArray 9)
        have hrd3 := hrd2.below ((Below.refl wr.heap.size wr).alloc (Nat.le_refl _) (.cells (zrow (.string ByteArray.empty) (j + 1)).toArray 9))
        obtain ⟨wo, hwo⟩ : ∃ wo : World, wo = wr := ⟨_, rfl⟩
        subst hwo
        have hxl : (sv (ss ++ [r])).length = j + 1 := by rw [sv_length, List.length_append, hl]; rfl
        go_loopw [11] (fun i wr => ∃ t : Nat, t ≤ j ∧ i = .int .i64 t ∧ Blk wr wo.heap.size 9 (mix (sv (ss ++ [r])) (.string ByteArray.empty) t) ∧ Below wo.heap.size wo wr) (fun i _ => j - (intOf i).toNat)
        case atStart => exact ⟨0, Nat.zero_le _, rfl, by rw [mix_zero, hxl]; exact Blk.new _ _ _, (Below.refl _ _).alloc (Nat.le_refl _) _⟩
        case round =>
          obtain ⟨t, ht, rfl, hB, hbel2⟩ := hrel
          by_cases hlt2 : t < j
          · obtain ⟨b', off', hx, hb', hc⟩ := hrd2.str (by omega)
            rw [hx]
            have hsrc : wr.cell? ⟨b', off' + t, none⟩ = some (.string (ss.getD t ByteArray.empty)) := (hbel2.cell hb').trans (hc t (by omega))
            have hdst : ∃ v, wr.cell? ⟨wo.heap.size, t, none⟩ = some v := ⟨_, (hB.cell t).trans (List.getElem?_eq_getElem (by rw [mix_length _ _ _ (by omega)]; omega))⟩
            obtain ⟨v, hdst⟩ := hdst
            have hfr := hB.frozen t
            have hset := mix_set (sv (ss ++ [r])) (.string ByteArray.empty) t (by omega)
            rw [ext_get ss r t (by omega)] at hset
            obtain ⟨s, hs⟩ : ∃ s, s = ss.getD t ByteArray.empty := ⟨_, rfl⟩
            rw [← hs] at hset hsrc
            have R := hB.set t (.string s)
            rw [hset] at R
            clear hset hmk2 hc hs hx
            go_wp2
            go_roundw
            case rel => exact ⟨t + 1, by omega, by go_num, R, hbel2.setCell (Nat.le_refl _) _⟩
            case measure => simp [intOf]; omega
          · obtain rfl : t = j := by omega
            have hdst : ∃ v, wr.cell? ⟨wo.heap.size, t, none⟩ = some v := ⟨_, (hB.cell t).trans (List.getElem?_eq_getElem (by rw [mix_length _ _ _ (by omega)]; omega))⟩
            obtain ⟨v, hdst⟩ := hdst
            have hfr := hB.frozen t
            have hset := mix_set (sv (ss ++ [r])) (.string ByteArray.empty) t (by omega)
            rw [ext_last ss r t hl] at hset
            have R := hB.set t (.string r)
            rw [hset, ← hxl, mix_all] at R
            have hre : Reads (wr.setCell ⟨wo.heap.size, t, none⟩ (.string r)) (some ⟨wo.heap.size, 0, none⟩) (sv (ss ++ [r])) := .inr ⟨_, 0, rfl, fun i hi => by rw [Nat.zero_add]; exact R.cell i⟩
            have B1 : Below w.heap.size w (wr.setCell ⟨wo.heap.size, t, none⟩ (.string r)) := ((hb.trans (hbel.mono hb.size)).trans (hbel2.mono (Nat.le_trans hb.size hbel.size))).setCell (Nat.le_trans hb.size hbel.size) _
            clear hset hmk2
            go_wp2_with fail
            refine (zz_holds (some ⟨wo.heap.size, 0, none⟩) (t + 1) (t + 1) (ss ++ [r]) r _ (by rw [List.length_append, hl]; rfl) (by omega) hre).mono ?_
            rintro e w5 ⟨rfl, rfl⟩
            rw [has_last]
            go_wp2
            go_ret
            exact ⟨rfl, B1⟩
  · have d1 : decide (0 ≤ k) = false := decide_eq_false (by omega)
    go_wp2_with fail
    clear d1
    go_loopw [9] (fun i wr => ∃ j : Nat, j ≤ n ∧ i = .int .i64 j ∧ Blk wr w1.heap.size 9 (mix (sv ss.reverse) (.string ByteArray.empty) j) ∧ Below w1.heap.size w1 wr) (fun i _ => n - (intOf i).toNat)
    case atStart => exact ⟨0, Nat.zero_le _, rfl, by rw [mix_zero, sv_length, List.length_reverse, hl]; exact Blk.new _ _ _, (Below.refl _ _).alloc (Nat.le_refl _) _⟩
    case round =>
      obtain ⟨j, hj, rfl, hB, hbel⟩ := hrel
      have hrl : (sv ss.reverse).length = n := by rw [sv_length, List.length_reverse, hl]
      by_cases hlt : j < n
      · obtain ⟨b', off', hx, hb', hc⟩ := hrd.str (by omega)
        rw [hx]
        obtain ⟨m, hm⟩ : ∃ m : Nat, m = n - 1 - j := ⟨_, rfl⟩
        have em : (n : Int) - 1 - (j : Int) = (m : Int) := by omega
        have hmn : m < n := by omega
        have hsrc : wr.cell? ⟨b', off' + m, none⟩ = some (.string (ss.getD m ByteArray.empty)) := (hbel.cell hb').trans (hc m (by omega))
        have hdst : ∃ v, wr.cell? ⟨w1.heap.size, j, none⟩ = some v := ⟨_, (hB.cell j).trans (List.getElem?_eq_getElem (by rw [mix_length _ _ _ (by omega)]; omega))⟩
        obtain ⟨v, hdst⟩ := hdst
        have hfr := hB.frozen j
        have hset := mix_set (sv ss.reverse) (.string ByteArray.empty) j (by omega)
        rw [rev_get ss n j hl hlt, ← hm] at hset
        obtain ⟨s, hs⟩ : ∃ s, s = ss.getD m ByteArray.empty := ⟨_, rfl⟩
        rw [← hs] at hset hsrc
        have R := hB.set j (.string s)
        rw [hset] at R
        clear hset hmk hmk2 hc hs hm hx
        go_wp2
        go_roundw
        case rel => exact ⟨j + 1, by omega, by go_num, R, hbel.setCell (Nat.le_refl _) _⟩
        case measure => simp [intOf]; omega
      · obtain rfl : j = n := by omega
        have hB2 : Blk wr w1.heap.size 9 (sv ss.reverse) := by
          have := hB
          rw [← hrl, mix_all] at this; exact this
        have hrd2 : Reads wr (a1) (sv ss) := hrd.below hbel
        have hrv : Reads wr (some ⟨w1.heap.size, 0, none⟩) (sv ss.reverse) := .inr ⟨_, 0, rfl, fun i hi => by rw [Nat.zero_add]; exact hB2.cell i⟩
        clear hB hmk
        go_wp2_with fail
        refine (zz_holds (some ⟨w1.heap.size, 0, none⟩) j j ss.reverse r wr (by rw [List.length_reverse, hl]) (by omega) hrv).mono ?_
        rintro e w2 ⟨rfl, rfl⟩
        rw [has_reverse]
        go_wp2_with fail
        refine (zz_holds (a1) j cap1 ss r w2 hl (by omega) hrd2).mono ?_
        rintro e wr ⟨rfl, rfl⟩
        go_wp2_with fail
        have hB3 := hB2.alloc (.cells (zrow (.string ByteArray.empty) (j + 1)).toArray 9)
        have hrd3 := hrd2.below ((Below.refl wr.heap.size wr).alloc (Nat.le_refl _) (.cells (zrow (.string ByteArray.empty) (j + 1)).toArray 9))
        obtain ⟨wo, hwo⟩ : ∃ wo : World, wo = wr := ⟨_, rfl⟩
        subst hwo
        have hxl : (sv (ss ++ [r])).length = j + 1 := by rw [sv_length, List.length_append, hl]; rfl
        go_loopw [11] (fun i wr => ∃ t : Nat, t ≤ j ∧ i = .int .i64 t ∧ Blk wr wo.heap.size 9 (mix (sv (ss ++ [r])) (.string ByteArray.empty) t) ∧ Below wo.heap.size wo wr) (fun i _ => j - (intOf i).toNat)
        case atStart => exact ⟨0, Nat.zero_le _, rfl, by rw [mix_zero, hxl]; exact Blk.new _ _ _, (Below.refl _ _).alloc (Nat.le_refl _) _⟩
        case round =>
          obtain ⟨t, ht, rfl, hB, hbel2⟩ := hrel
          by_cases hlt2 : t < j
          · obtain ⟨b', off', hx, hb', hc⟩ := hrd2.str (by omega)
            rw [hx]
            have hsrc : wr.cell? ⟨b', off' + t, none⟩ = some (.string (ss.getD t ByteArray.empty)) := (hbel2.cell hb').trans (hc t (by omega))
            have hdst : ∃ v, wr.cell? ⟨wo.heap.size, t, none⟩ = some v := ⟨_, (hB.cell t).trans (List.getElem?_eq_getElem (by rw [mix_length _ _ _ (by omega)]; omega))⟩
            obtain ⟨v, hdst⟩ := hdst
            have hfr := hB.frozen t
            have hset := mix_set (sv (ss ++ [r])) (.string ByteArray.empty) t (by omega)
            rw [ext_get ss r t (by omega)] at hset
            obtain ⟨s, hs⟩ : ∃ s, s = ss.getD t ByteArray.empty := ⟨_, rfl⟩
            rw [← hs] at hset hsrc
            have R := hB.set t (.string s)
            rw [hset] at R
            clear hset hmk2 hc hs hx
            go_wp2
            go_roundw
            case rel => exact ⟨t + 1, by omega, by go_num, R, hbel2.setCell (Nat.le_refl _) _⟩
            case measure => simp [intOf]; omega
          · obtain rfl : t = j := by omega
            have hdst : ∃ v, wr.cell? ⟨wo.heap.size, t, none⟩ = some v := ⟨_, (hB.cell t).trans (List.getElem?_eq_getElem (by rw [mix_length _ _ _ (by omega)]; omega))⟩
            obtain ⟨v, hdst⟩ := hdst
            have hfr := hB.frozen t
            have hset := mix_set (sv (ss ++ [r])) (.string ByteArray.empty) t (by omega)
            rw [ext_last ss r t hl] at hset
            have R := hB.set t (.string r)
            rw [hset, ← hxl, mix_all] at R
            have hre : Reads (wr.setCell ⟨wo.heap.size, t, none⟩ (.string r)) (some ⟨wo.heap.size, 0, none⟩) (sv (ss ++ [r])) := .inr ⟨_, 0, rfl, fun i hi => by rw [Nat.zero_add]; exact R.cell i⟩
            have B1 : Below w.heap.size w (wr.setCell ⟨wo.heap.size, t, none⟩ (.string r)) := ((hb.trans (hbel.mono hb.size)).trans (hbel2.mono (Nat.le_trans hb.size hbel.size))).setCell (Nat.le_trans hb.size hbel.size) _
            clear hset hmk2
            go_wp2_with fail
            refine (zz_holds (some ⟨wo.heap.size, 0, none⟩) (t + 1) (t + 1) (ss ++ [r]) r _ (by rw [List.length_append, hl]; rfl) (by omega) hre).mono ?_
            rintro e w5 ⟨rfl, rfl⟩
            rw [has_last]
            go_wp2
            go_ret
            exact ⟨rfl, B1⟩
  · have d1 : decide (0 ≤ k) = true := decide_eq_true (by omega)
    have d2 : decide (k < (n : Int)) = false := decide_eq_false (by omega)
    go_wp2_with fail
    clear d1 d2
    go_loopw [9] (fun i wr => ∃ j : Nat, j ≤ n ∧ i = .int .i64 j ∧ Blk wr w1.heap.size 9 (mix (sv ss.reverse) (.string ByteArray.empty) j) ∧ Below w1.heap.size w1 wr) (fun i _ => n - (intOf i).toNat)
    case atStart => exact ⟨0, Nat.zero_le _, rfl, by rw [mix_zero, sv_length, List.length_reverse, hl]; exact Blk.new _ _ _, (Below.refl _ _).alloc (Nat.le_refl _) _⟩
    case round =>
      obtain ⟨j, hj, rfl, hB, hbel⟩ := hrel
      have hrl : (sv ss.reverse).length = n := by rw [sv_length, List.length_reverse, hl]
      by_cases hlt : j < n
      · obtain ⟨b', off', hx, hb', hc⟩ := hrd.str (by omega)
        rw [hx]
        obtain ⟨m, hm⟩ : ∃ m : Nat, m = n - 1 - j := ⟨_, rfl⟩
        have em : (n : Int) - 1 - (j : Int) = (m : Int) := by omega
        have hmn : m < n := by omega
        have hsrc : wr.cell? ⟨b', off' + m, none⟩ = some (.string (ss.getD m ByteArray.empty)) := (hbel.cell hb').trans (hc m (by omega))
        have hdst : ∃ v, wr.cell? ⟨w1.heap.size, j, none⟩ = some v := ⟨_, (hB.cell j).trans (List.getElem?_eq_getElem (by rw [mix_length _ _ _ (by omega)]; omega))⟩
        obtain ⟨v, hdst⟩ := hdst
        have hfr := hB.frozen j
        have hset := mix_set (sv ss.reverse) (.string ByteArray.empty) j (by omega)
        rw [rev_get ss n j hl hlt, ← hm] at hset
        obtain ⟨s, hs⟩ : ∃ s, s = ss.getD m ByteArray.empty := ⟨_, rfl⟩
        rw [← hs] at hset hsrc
        have R := hB.set j (.string s)
        rw [hset] at R
        clear hset hmk hmk2 hc hs hm hx
        go_wp2
        go_roundw
        case rel => exact ⟨j + 1, by omega, by go_num, R, hbel.setCell (Nat.le_refl _) _⟩
        case measure => simp [intOf]; omega
      · obtain rfl : j = n := by omega
        have hB2 : Blk wr w1.heap.size 9 (sv ss.reverse) := by
          have := hB
          rw [← hrl, mix_all] at this; exact this
        have hrd2 : Reads wr (a1) (sv ss) := hrd.below hbel
        have hrv : Reads wr (some ⟨w1.heap.size, 0, none⟩) (sv ss.reverse) := .inr ⟨_, 0, rfl, fun i hi => by rw [Nat.zero_add]; exact hB2.cell i⟩
        clear hB hmk
        go_wp2_with fail
        refine (zz_holds (some ⟨w1.heap.size, 0, none⟩) j j ss.reverse r wr (by rw [List.length_reverse, hl]) (by omega) hrv).mono ?_
        rintro e w2 ⟨rfl, rfl⟩
        rw [has_reverse]
        go_wp2_with fail
        refine (zz_holds (a1) j cap1 ss r w2 hl (by omega) hrd2).mono ?_
        rintro e wr ⟨rfl, rfl⟩
        go_wp2_with fail
        have hB3 := hB2.alloc (.cells (zrow (.string ByteArray.empty) (j + 1)).toArray 9)
        have hrd3 := hrd2.below ((Below.refl wr.heap.size wr).alloc (Nat.le_refl _) (.cells (zrow (.string ByteArray.empty) (j + 1)).toArray 9))
        obtain ⟨wo, hwo⟩ : ∃ wo : World, wo = wr := ⟨_, rfl⟩
        subst hwo
        have hxl : (sv (ss ++ [r])).length = j + 1 := by rw [sv_length, List.length_append, hl]; rfl
        go_loopw [11] (fun i wr => ∃ t : Nat, t ≤ j ∧ i = .int .i64 t ∧ Blk wr wo.heap.size 9 (mix (sv (ss ++ [r])) (.string ByteArray.empty) t) ∧ Below wo.heap.size wo wr) (fun i _ => j - (intOf i).toNat)
        case atStart => exact ⟨0, Nat.zero_le _, rfl, by rw [mix_zero, hxl]; exact Blk.new _ _ _, (Below.refl _ _).alloc (Nat.le_refl _) _⟩
        case round =>
          obtain ⟨t, ht, rfl, hB, hbel2⟩ := hrel
          by_cases hlt2 : t < j
          · obtain ⟨b', off', hx, hb', hc⟩ := hrd2.str (by omega)
            rw [hx]
            have hsrc : wr.cell? ⟨b', off' + t, none⟩ = some (.string (ss.getD t ByteArray.empty)) := (hbel2.cell hb').trans (hc t (by omega))
            have hdst : ∃ v, wr.cell? ⟨wo.heap.size, t, none⟩ = some v := ⟨_, (hB.cell t).trans (List.getElem?_eq_getElem (by rw [mix_length _ _ _ (by omega)]; omega))⟩
            obtain ⟨v, hdst⟩ := hdst
            have hfr := hB.frozen t
            have hset := mix_set (sv (ss ++ [r])) (.string ByteArray.empty) t (by omega)
            rw [ext_get ss r t (by omega)] at hset
            obtain ⟨s, hs⟩ : ∃ s, s = ss.getD t ByteArray.empty := ⟨_, rfl⟩
            rw [← hs] at hset hsrc
            have R := hB.set t (.string s)
            rw [hset] at R
            clear hset hmk2 hc hs hx
            go_wp2
            go_roundw
            case rel => exact ⟨t + 1, by omega, by go_num, R, hbel2.setCell (Nat.le_refl _) _⟩
            case measure => simp [intOf]; omega
          · obtain rfl : t = j := by omega
            have hdst : ∃ v, wr.cell? ⟨wo.heap.size, t, none⟩ = some v := ⟨_, (hB.cell t).trans (List.getElem?_eq_getElem (by rw [mix_length _ _ _ (by omega)]; omega))⟩
            obtain ⟨v, hdst⟩ := hdst
            have hfr := hB.frozen t
            have hset := mix_set (sv (ss ++ [r])) (.string ByteArray.empty) t (by omega)
            rw [ext_last ss r t hl] at hset
            have R := hB.set t (.string r)
            rw [hset, ← hxl, mix_all] at R
            have hre : Reads (wr.setCell ⟨wo.heap.size, t, none⟩ (.string r)) (some ⟨wo.heap.size, 0, none⟩) (sv (ss ++ [r])) := .inr ⟨_, 0, rfl, fun i hi => by rw [Nat.zero_add]; exact R.cell i⟩
            have B1 : Below w.heap.size w (wr.setCell ⟨wo.heap.size, t, none⟩ (.string r)) := ((hb.trans (hbel.mono hb.size)).trans (hbel2.mono (Nat.le_trans hb.size hbel.size))).setCell (Nat.le_trans hb.size hbel.size) _
            clear hset hmk2
            go_wp2_with fail
            refine (zz_holds (some ⟨wo.heap.size, 0, none⟩) (t + 1) (t + 1) (ss ++ [r]) r _ (by rw [List.length_append, hl]; rfl) (by omega) hre).mono ?_
            rintro e w5 ⟨rfl, rfl⟩
            rw [has_last]
            go_wp2
            go_ret
            exact ⟨rfl, B1⟩
end Go.Proofs.Qxb6600584aMods
