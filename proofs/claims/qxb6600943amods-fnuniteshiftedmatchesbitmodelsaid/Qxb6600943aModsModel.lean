/-
  FnUniteShiftedMatchesBitModel: the walk.
-/
import Derived.Test.Qxb6600943aModsShifted
namespace Go.Proofs.Qxb6600943aMods
open Go.RowKit

/-- Some bool. -/
def SaysZ (e : Ending) : Prop := ∃ z, e = .returned (.bool z)

/-- zzBytes_FnUniteShiftedMatchesBitModel: some bool; nothing turns. -/
theorem bytes16 (a0 a1 a3 : Option Addr) (n0 n1 n3 c0 c1 c3 : Nat) (d : Int) (w : World) (h0 : n0 ≤ 9223372036854775807) (h1 : n1 ≤ 9223372036854775807) (h3 : n3 ≤ 9223372036854775807) :
    Calls Trym.prog 16 #[.slice a0 n0 c0, .slice a1 n1 c1, .int .i64 d, .slice a3 n3 c3] w fun e w' => SaysZ e ∧ w' = w := by
  by_cases b0 : n0 ≤ 1048576
  · by_cases b1 : n1 ≤ 1048576
    · by_cases b2 : n0 + n1 ≤ 1048576
      · by_cases b3 : n3 ≤ 1048576
        · by_cases b4 : n0 + n1 + n3 ≤ 1048576
          · go_enter Trym.func16, Trym.ntmps16
            go_wp2
            go_ret
            exact ⟨⟨_, rfl⟩, rfl⟩
          · go_enter Trym.func16, Trym.ntmps16
            go_wp2
            go_ret
            exact ⟨⟨_, rfl⟩, rfl⟩
        · go_enter Trym.func16, Trym.ntmps16
          go_wp2
          go_ret
          exact ⟨⟨_, rfl⟩, rfl⟩
      · go_enter Trym.func16, Trym.ntmps16
        go_wp2
        go_ret
        exact ⟨⟨_, rfl⟩, rfl⟩
    · go_enter Trym.func16, Trym.ntmps16
      go_wp2
      go_ret
      exact ⟨⟨_, rfl⟩, rfl⟩
  · go_enter Trym.func16, Trym.ntmps16
    go_wp2
    go_ret
    exact ⟨⟨_, rfl⟩, rfl⟩

/-- The law's own bounds say no. -/
theorem model_out (a0 a1 a3 : Option Addr) (n0 n1 n3 c0 c1 c3 : Nat) (d : Int) (w : World) (h0 : n0 ≤ 9223372036854775807) (h1 : n1 ≤ 9223372036854775807) (h3 : n3 ≤ 9223372036854775807)
    (ho : 32768 < n0 ∨ 32768 < n1 ∨ 32768 < n3 ∨ n1 ≠ n0 ∨ n3 ≠ n0 ∨ d < 0) :
    Calls Trym.prog 6 #[.slice a0 n0 c0, .slice a1 n1 c1, .int .i64 d, .slice a3 n3 c3] w fun e w' => e = .returned (.bool true) ∧ Below w.heap.size w w' := by
  go_enter Trym.func6, Trym.ntmps6
  go_wp2_with fail
  refine (bytes16 a0 a1 a3 n0 n1 n3 c0 c1 c3 d w h0 h1 h3).mono ?_
  rintro e w' ⟨⟨z, rfl⟩, hw⟩
  have hw := hw.symm
  subst hw
  cases z with
  | false =>
    go_wp2
    go_ret
    exact ⟨rfl, Below.refl _ _⟩
  | true =>
  by_cases b1 : (32768 : Int) < (n0 : Int)
  · have d1 : decide ((32768 : Int) < (n0 : Int)) = true := decide_eq_true b1
    go_wp2_with fail
    go_ret
    exact ⟨rfl, Below.refl _ _⟩
  have d1 : decide ((32768 : Int) < (n0 : Int)) = false := decide_eq_false b1
  by_cases b2 : (32768 : Int) < (n1 : Int)
  · have d2 : decide ((32768 : Int) < (n1 : Int)) = true := decide_eq_true b2
    go_wp2_with fail
    go_ret
    exact ⟨rfl, Below.refl _ _⟩
  have d2 : decide ((32768 : Int) < (n1 : Int)) = false := decide_eq_false b2
  by_cases b3 : (32768 : Int) < (n3 : Int)
  · have d3 : decide ((32768 : Int) < (n3 : Int)) = true := decide_eq_true b3
    go_wp2_with fail
    go_ret
    exact ⟨rfl, Below.refl _ _⟩
  have d3 : decide ((32768 : Int) < (n3 : Int)) = false := decide_eq_false b3
  by_cases b4 : n1 = n0
  · subst b4
    by_cases b5 : n3 = n1
    · subst b5
      have b6 : d < 0 := by omega
      go_wp2_with fail
      go_ret
      exact ⟨rfl, Below.refl _ _⟩
    · have d5 : ((n3 : Int) != (n1 : Int)) = true := by rw [bne_iff_ne]; omega
      go_wp2_with fail
      go_ret
      exact ⟨rfl, Below.refl _ _⟩
  · have d4 : ((n1 : Int) != (n0 : Int)) = true := by rw [bne_iff_ne]; omega
    go_wp2_with fail
    go_ret
    exact ⟨rfl, Below.refl _ _⟩

theorem Made.keep {w w' : World} {g : Nat} {t : TypeId} {a : Option Addr} {len cap : Nat} {vs : List Value} (h : Made w g t a len cap vs) (hb : Below w.heap.size w w') : Made w' g t a len cap vs := by
  obtain ⟨h1, h2⟩ := h
  refine ⟨h1, ?_⟩
  rcases h2 with h2 | ⟨h2, h3, h4⟩
  · exact .inl h2
  · exact .inr ⟨h2, h3, h4.below hb h4.lt⟩
theorem Made.readsGrown {w w' : World} {g g1 : Nat} {t : TypeId} {a : Option Addr} {len cap : Nat} {vs : List Value} (h : Made w g t a len cap vs) (hb : w.grownBy w' (.some g1)) (hne : 0 < len → g ≠ g1) : Reads w' a vs := by
  by_cases h0 : 0 < len
  · obtain ⟨h1, _, h2⟩ := h.some h0
    exact .inr ⟨g, 0, h1, fun i hi => by rw [Nat.zero_add]; exact (h2.grown hb (by intro e; cases e; exact hne h0 rfl)).cell i⟩
  · exact .inl (List.eq_nil_of_length_eq_zero (by have := h.1; omega))
theorem Made.lt {w : World} {g : Nat} {t : TypeId} {a : Option Addr} {len cap : Nat} {vs : List Value} (h : Made w g t a len cap vs) (hp : 0 < len) : g < w.heap.size := (h.some hp).2.2.lt

/-- The answer of the loop's round in one way. -/
theorem added_same {xs ns : List Nat} {k : Nat} (h : bitAt ns k = bitAt xs k) : addedTo xs ns (k + 1) = addedTo xs ns k := by
  rw [addedTo_succ, h]; simp
theorem added_more {xs ns : List Nat} {k : Nat} (h1 : bitAt ns k = true) (h2 : bitAt xs k = false) : addedTo xs ns (k + 1) = true := by
  rw [addedTo_succ, h1, h2]; simp

set_option maxHeartbeats 4000000 in
theorem model_main (a0 a1' a3' : Option Addr) (n c0 c1 c3 : Nat) (xs os ms : List Nat) (d : Nat) (w : World) (hxl : xs.length = n) (hol : os.length = n) (hml : ms.length = n) (fx : Fits xs) (fo : Fits os) (fm : Fits ms)
    (hn : n ≤ 32768) (hd : d ≤ 9223372036854775807) (e0 : a0 = none → n = 0 ∧ c0 = 0) (e1 : a1' = none → n = 0 ∧ c1 = 0) (e3 : a3' = none → n = 0 ∧ c3 = 0) (q0 : Reads w a0 (wv xs)) (q1 : Reads w a1' (wv os)) (q3 : Reads w a3' (wv ms)) :
    Calls Trym.prog 6 #[.slice a0 n c0, .slice a1' n c1, .int .i64 d, .slice a3' n c3] w fun e w' => e = .returned (.bool true) ∧ Below w.heap.size w w' := by
  have d1 : decide ((32768 : Int) < (n : Int)) = false := decide_eq_false (by omega)
  have d2 : decide ((d : Int) < 0) = false := decide_eq_false (by omega)
  go_enter Trym.func6, Trym.ntmps6
  go_wp2_with fail
  refine (bytes16 a0 a1' a3' n n n c0 c1 c3 d w (by omega) (by omega) (by omega)).mono ?_
  rintro e w' ⟨⟨z, rfl⟩, hw⟩
  have hw := hw.symm
  subst hw
  cases z with
  | false =>
    go_wp2
    go_ret
    exact ⟨rfl, Below.refl _ _⟩
  | true =>
  go_wp2_with fail
  refine (clone_any a0 n c0 xs w hxl (by omega) e0 q0).mono ?_
  rintro e w1 ⟨a1, cap1, rfl, M1, b1⟩
  go_wp2_with fail
  refine (clone_any a1' n c1 os w1 hol (by omega) e1 (q1.below b1)).mono ?_
  rintro e w2 ⟨a2, cap2, rfl, M2, b2⟩
  go_wp2_with fail
  refine (clone_any a3' n c3 ms w2 hml (by omega) e3 ((q3.below b1).below b2)).mono ?_
  rintro e w3 ⟨a3, cap3, rfl, M3, b3⟩
  have M13 := (M1.keep b2).keep b3
  go_wp2_with fail
  refine (clone_any a1 n cap1 xs w3 hxl (by omega) M1.nil M13.reads).mono ?_
  rintro e w4 ⟨a4, cap4, rfl, M4, b4⟩
  have M14 := M13.keep b4
  have M24 := (M2.keep b3).keep b4
  have M34 := M3.keep b4
  have s1 := b1.size
  have s2 := b2.size
  have s3 := b3.size
  have s4 := b4.size
  have g12 : 0 < n → w1.heap.size ≠ w.heap.size := fun h => by have := M1.lt h; omega
  have g13 : 0 < n → w2.heap.size ≠ w.heap.size := fun h => by have := M1.lt h; omega
  have g14 : 0 < n → w3.heap.size ≠ w.heap.size := fun h => by have := M1.lt h; omega
  have hnb : ∀ y, y < 64 * xs.length → bitAt (news xs os ms (d / 64) (d % 64)) y = (bitAt xs y || (decide (d ≤ y) && bitAt os (y - d) && bitAt ms y)) := fun y hy => news_bit fo (Nat.mod_lt _ (by decide)) (by omega) hy
  have hgr := grew_added (q := d / 64) (s := d % 64) fx fo fm (by omega)
  have hnl := news_length xs os ms (d / 64) (d % 64)
  have fn := news_fits (os := os) fx fm (d / 64) (d % 64)
  have HB := hide hnb
  have HR := hide hgr
  have HNL := hide hnl
  clear hnb hgr hnl d1 d2
  go_wp2_with fail
  refine (zz_shift w.heap.size w1.heap.size w2.heap.size a1 a2 a3 n cap1 cap2 cap3 xs os ms d w4 (by omega) hxl hol hml fx fo fm hd M14 M24 M34 g12 g13).mono ?_
  rintro e w5 ⟨rfl, M5, hg5, hs5⟩
  obtain ⟨ns, hns⟩ : ∃ ns, ns = news xs os ms (d / 64) (d % 64) := ⟨_, rfl⟩
  rw [← hns] at HB HR HNL fn M5 ⊢
  obtain ⟨gB, hgB⟩ : ∃ gB, gB = (xs != ns) := ⟨_, rfl⟩
  rw [← hgB] at HR ⊢
  have r1 := M5.reads
  have r2 := M24.readsGrown hg5 g12
  have r3 := M34.readsGrown hg5 g13
  have r4 := M4.readsGrown hg5 g14
  have B5 : Below w.heap.size w w5 := ((((b1.trans (b2.mono s1)).trans (b3.mono (by omega))).trans (b4.mono (by omega)))).grown hg5 (by omega) (by intro k hk; cases hk; exact Nat.le_refl _)
  have hnl : ns.length = n := by rw [HNL.out, hxl]
  have HR2 : Hid (gB = addedTo xs ns (64 * n)) := by have := HR.out; rw [hxl] at this; exact this
  have HB2 : Hid (∀ y, y < 64 * n → bitAt ns y = (bitAt xs y || (decide (d ≤ y) && bitAt os (y - d) && bitAt ms y))) := fun y hy => HB.out y (by rw [hxl]; exact hy)
  clear hns hgB HB HR HNL M1 M2 M3 M4 M5 M13 M14 M24 M34 g12 g13 g14 hg5 hs5 b1 b2 b3 b4 s1 s2 s3 s4 e0 e1 e3 q0 q1 q3
  go_wp2_with fail
  go_loop [11, 13] (fun ad y => ∃ k : Nat, k ≤ 64 * n ∧ y = .int .i64 k ∧ ad = .bool (addedTo xs ns k)) (fun _ y => 64 * n - (intOf y).toNat)
  case atStart => exact ⟨0, Nat.zero_le _, rfl, rfl⟩
  case round =>
    obtain ⟨k, hk, rfl, rfl⟩ := hrel
    by_cases hlt : k < 64 * n
    · have hb := HB2.out k hlt
      have hi : (k : Int) < 64 * (n : Int) := by omega
      by_cases hdk : d ≤ k
      · rw [decide_eq_true hdk, Bool.true_and] at hb
        obtain ⟨t, ht⟩ : ∃ t, t = k - d := ⟨_, rfl⟩
        rw [← ht] at hb
        have et : (k : Int) - (d : Int) = (t : Int) := by omega
        have ht2 : t < 64 * n := by omega
        clear ht
        cases hob : bitAt os t with
        | false =>
          rw [hob, Bool.false_and, Bool.or_false] at hb
          have HA := hide (added_same hb)
          cases hwb : bitAt xs k with
          | false =>
            have hgb := hb.trans hwb
            clear hb
            go_wp2_with fail
            refine (hasBit_any a2 n cap2 os t w5 (by omega) (by omega) fo (by omega) r2).mono ?_
            rintro e w6 ⟨rfl, hw⟩
            have hw := hw.symm
            subst hw
            rw [hob]
            go_wp2_with fail
            refine (hasBit_any a4 n cap4 xs k w5 (by omega) (by omega) fx (by omega) r4).mono ?_
            rintro e w6 ⟨rfl, hw⟩
            have hw := hw.symm
            subst hw
            rw [hwb]
            go_wp2_with fail
            refine (hasBit_any a1 n cap1 ns k w5 (by omega) (by omega) fn (by omega) r1).mono ?_
            rintro e w6 ⟨rfl, hw⟩
            have hw := hw.symm
            subst hw
            rw [hgb]
            go_wp2
            go_round
            case rel => exact ⟨k + 1, by omega, by go_num, by rw [HA.out]⟩
            case measure => simp [intOf]; omega
          | true =>
            have hgb := hb.trans hwb
            clear hb
            go_wp2_with fail
            refine (hasBit_any a2 n cap2 os t w5 (by omega) (by omega) fo (by omega) r2).mono ?_
            rintro e w6 ⟨rfl, hw⟩
            have hw := hw.symm
            subst hw
            rw [hob]
            go_wp2_with fail
            refine (hasBit_any a4 n cap4 xs k w5 (by omega) (by omega) fx (by omega) r4).mono ?_
            rintro e w6 ⟨rfl, hw⟩
            have hw := hw.symm
            subst hw
            rw [hwb]
            go_wp2_with fail
            refine (hasBit_any a1 n cap1 ns k w5 (by omega) (by omega) fn (by omega) r1).mono ?_
            rintro e w6 ⟨rfl, hw⟩
            have hw := hw.symm
            subst hw
            rw [hgb]
            go_wp2
            go_round
            case rel => exact ⟨k + 1, by omega, by go_num, by rw [HA.out]⟩
            case measure => simp [intOf]; omega
        | true =>
          rw [hob, Bool.true_and] at hb
          cases hmb : bitAt ms k with
          | false =>
            rw [hmb, Bool.or_false] at hb
            have HA := hide (added_same hb)
            cases hwb : bitAt xs k with
            | false =>
              have hgb := hb.trans hwb
              clear hb
              go_wp2_with fail
              refine (hasBit_any a2 n cap2 os t w5 (by omega) (by omega) fo (by omega) r2).mono ?_
              rintro e w6 ⟨rfl, hw⟩
              have hw := hw.symm
              subst hw
              rw [hob]
              go_wp2_with fail
              refine (hasBit_any a3 n cap3 ms k w5 (by omega) (by omega) fm (by omega) r3).mono ?_
              rintro e w6 ⟨rfl, hw⟩
              have hw := hw.symm
              subst hw
              rw [hmb]
              go_wp2_with fail
              refine (hasBit_any a4 n cap4 xs k w5 (by omega) (by omega) fx (by omega) r4).mono ?_
              rintro e w6 ⟨rfl, hw⟩
              have hw := hw.symm
              subst hw
              rw [hwb]
              go_wp2_with fail
              refine (hasBit_any a1 n cap1 ns k w5 (by omega) (by omega) fn (by omega) r1).mono ?_
              rintro e w6 ⟨rfl, hw⟩
              have hw := hw.symm
              subst hw
              rw [hgb]
              go_wp2
              go_round
              case rel => exact ⟨k + 1, by omega, by go_num, by rw [HA.out]⟩
              case measure => simp [intOf]; omega
            | true =>
              have hgb := hb.trans hwb
              clear hb
              go_wp2_with fail
              refine (hasBit_any a2 n cap2 os t w5 (by omega) (by omega) fo (by omega) r2).mono ?_
              rintro e w6 ⟨rfl, hw⟩
              have hw := hw.symm
              subst hw
              rw [hob]
              go_wp2_with fail
              refine (hasBit_any a3 n cap3 ms k w5 (by omega) (by omega) fm (by omega) r3).mono ?_
              rintro e w6 ⟨rfl, hw⟩
              have hw := hw.symm
              subst hw
              rw [hmb]
              go_wp2_with fail
              refine (hasBit_any a4 n cap4 xs k w5 (by omega) (by omega) fx (by omega) r4).mono ?_
              rintro e w6 ⟨rfl, hw⟩
              have hw := hw.symm
              subst hw
              rw [hwb]
              go_wp2_with fail
              refine (hasBit_any a1 n cap1 ns k w5 (by omega) (by omega) fn (by omega) r1).mono ?_
              rintro e w6 ⟨rfl, hw⟩
              have hw := hw.symm
              subst hw
              rw [hgb]
              go_wp2
              go_round
              case rel => exact ⟨k + 1, by omega, by go_num, by rw [HA.out]⟩
              case measure => simp [intOf]; omega
          | true =>
            rw [hmb, Bool.or_true] at hb
            cases hwb : bitAt xs k with
            | false =>
              have HA := hide (added_more hb hwb)
              have hgb := hb
              clear hb
              go_wp2_with fail
              refine (hasBit_any a2 n cap2 os t w5 (by omega) (by omega) fo (by omega) r2).mono ?_
              rintro e w6 ⟨rfl, hw⟩
              have hw := hw.symm
              subst hw
              rw [hob]
              go_wp2_with fail
              refine (hasBit_any a3 n cap3 ms k w5 (by omega) (by omega) fm (by omega) r3).mono ?_
              rintro e w6 ⟨rfl, hw⟩
              have hw := hw.symm
              subst hw
              rw [hmb]
              go_wp2_with fail
              refine (hasBit_any a4 n cap4 xs k w5 (by omega) (by omega) fx (by omega) r4).mono ?_
              rintro e w6 ⟨rfl, hw⟩
              have hw := hw.symm
              subst hw
              rw [hwb]
              go_wp2_with fail
              refine (hasBit_any a1 n cap1 ns k w5 (by omega) (by omega) fn (by omega) r1).mono ?_
              rintro e w6 ⟨rfl, hw⟩
              have hw := hw.symm
              subst hw
              rw [hgb]
              go_wp2
              go_round
              case rel => exact ⟨k + 1, by omega, by go_num, by rw [HA.out]⟩
              case measure => simp [intOf]; omega
            | true =>
              have HA := hide (added_same (hb.trans hwb.symm))
              have hgb := hb
              clear hb
              go_wp2_with fail
              refine (hasBit_any a2 n cap2 os t w5 (by omega) (by omega) fo (by omega) r2).mono ?_
              rintro e w6 ⟨rfl, hw⟩
              have hw := hw.symm
              subst hw
              rw [hob]
              go_wp2_with fail
              refine (hasBit_any a3 n cap3 ms k w5 (by omega) (by omega) fm (by omega) r3).mono ?_
              rintro e w6 ⟨rfl, hw⟩
              have hw := hw.symm
              subst hw
              rw [hmb]
              go_wp2_with fail
              refine (hasBit_any a4 n cap4 xs k w5 (by omega) (by omega) fx (by omega) r4).mono ?_
              rintro e w6 ⟨rfl, hw⟩
              have hw := hw.symm
              subst hw
              rw [hwb]
              go_wp2_with fail
              refine (hasBit_any a1 n cap1 ns k w5 (by omega) (by omega) fn (by omega) r1).mono ?_
              rintro e w6 ⟨rfl, hw⟩
              have hw := hw.symm
              subst hw
              rw [hgb]
              go_wp2
              go_round
              case rel => exact ⟨k + 1, by omega, by go_num, by rw [HA.out]⟩
              case measure => simp [intOf]; omega
      · rw [decide_eq_false hdk, Bool.false_and, Bool.false_and, Bool.or_false] at hb
        have HA := hide (added_same hb)
        cases hwb : bitAt xs k with
        | false =>
          have hgb := hb.trans hwb
          clear hb
          go_wp2_with fail
          refine (hasBit_any a4 n cap4 xs k w5 (by omega) (by omega) fx (by omega) r4).mono ?_
          rintro e w6 ⟨rfl, hw⟩
          have hw := hw.symm
          subst hw
          rw [hwb]
          go_wp2_with fail
          refine (hasBit_any a1 n cap1 ns k w5 (by omega) (by omega) fn (by omega) r1).mono ?_
          rintro e w6 ⟨rfl, hw⟩
          have hw := hw.symm
          subst hw
          rw [hgb]
          go_wp2
          go_round
          case rel => exact ⟨k + 1, by omega, by go_num, by rw [HA.out]⟩
          case measure => simp [intOf]; omega
        | true =>
          have hgb := hb.trans hwb
          clear hb
          go_wp2_with fail
          refine (hasBit_any a4 n cap4 xs k w5 (by omega) (by omega) fx (by omega) r4).mono ?_
          rintro e w6 ⟨rfl, hw⟩
          have hw := hw.symm
          subst hw
          rw [hwb]
          go_wp2_with fail
          refine (hasBit_any a1 n cap1 ns k w5 (by omega) (by omega) fn (by omega) r1).mono ?_
          rintro e w6 ⟨rfl, hw⟩
          have hw := hw.symm
          subst hw
          rw [hgb]
          go_wp2
          go_round
          case rel => exact ⟨k + 1, by omega, by go_num, by rw [HA.out]⟩
          case measure => simp [intOf]; omega
    · obtain rfl : k = 64 * n := by omega
      rw [← HR2.out]
      clear HB2 HR2
      go_wp2
      go_ret
      exact ⟨rfl, B5⟩
end Go.Proofs.Qxb6600943aMods
