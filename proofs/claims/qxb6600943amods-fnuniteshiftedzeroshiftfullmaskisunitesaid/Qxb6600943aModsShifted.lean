/-
  uniteShifted and ZZUniteShifted_b1: the walks.
-/
import Derived.Test.Qxb6600943aModsShift
namespace Go.Proofs.Qxb6600943aMods
open Go.RowKit

/-- One place, whatever V0 the shift has made: the word that is left, and the answer. -/
theorem place {xs os ms ns : List Nat} {q s j V0 Y Z : Nat} (HN : ns = news xs os ms q s) (hj : j < xs.length) (hq : q ≤ j) (hV : shW os q s j = V0) (hY : ms.getD j 0 = Y) (hZ : xs.getD j 0 = Z) : ns.getD j 0 = (Z ||| (V0 &&& Y)) := by
  rw [HN, news_getD xs os ms q s j hj]
  unfold newW
  rw [if_neg (by omega), hV, hY, hZ]

/-- Below place q nothing has turned. -/
theorem Half.fin {w : World} {gb : Nat} {xs os ms ns : List Nat} {q s k : Nat} {wr : World} (h : Half w gb xs ns k wr) (HN : ns = news xs os ms q s) (hk : k ≤ q) : (xs.drop k != ns.drop k) = (xs != ns) ∧ Half w gb xs ns 0 wr := by
  have hl : ns.length = xs.length := by rw [HN, news_length]
  have e : xs.take k = ns.take k := by
    apply List.ext_getElem
    · rw [List.length_take, List.length_take, hl]
    · intro i h1 h2
      rw [List.length_take] at h1
      have hi : i < xs.length := by omega
      rw [List.getElem_take, List.getElem_take]
      have h3 := news_at xs os ms q s i hi
      unfold newW at h3
      rw [if_pos (by omega), getD_at hi] at h3
      subst HN
      exact h3.symm
  obtain ⟨h1, h2, h3⟩ := h
  refine ⟨?_, ?_, h2, h3⟩
  · rw [Bool.eq_iff_iff, bne_iff_ne, bne_iff_ne]
    constructor
    · intro hne e2; exact hne (by rw [e2])
    · intro hne e2; apply hne; rw [← List.take_append_drop k xs, e, e2, List.take_append_drop]
  · rw [e, List.take_append_drop] at h1
    exact h1

set_option maxHeartbeats 2000000 in
theorem shift_pos (gb n capb : Nat) (xs os ms : List Nat) (bo oo co bm om cm : Nat) (d q s : Nat) (w : World) (hn : n ≤ 1048576) (hxl : xs.length = n)
    (hx : Fits xs) (ho : Fits os) (hm : Fits ms) (hd : d ≤ 9223372036854775807) (hq : (d : Int) / 64 = (q : Int)) (hs : (d : Int) % 64 = (s : Int))
    (hB : Blk w gb 30 (wv xs)) (hbo : bo ≠ gb) (hbm : bm ≠ gb) (hco : ∀ k, k < n → w.cell? ⟨bo, oo + k, none⟩ = some (.int .u64 ((os.getD k 0 : Nat) : Int))) (hcm : ∀ k, k < n → w.cell? ⟨bm, om + k, none⟩ = some (.int .u64 ((ms.getD k 0 : Nat) : Int))) :
    Calls Trym.prog 22 #[.slice (some ⟨gb, 0, none⟩) n capb, .slice (some ⟨bo, oo, none⟩) n co, .int .i64 d, .slice (some ⟨bm, om, none⟩) n cm] w fun e w' => e = .returned (.bool (xs != news xs os ms q s)) ∧ Half w gb xs (news xs os ms q s) 0 w' := by
  have hs64 : s < 64 := by omega
  obtain ⟨ns, hns⟩ : ∃ ns, ns = news xs os ms q s := ⟨_, rfl⟩
  rw [← hns]
  have hnl : ns.length = xs.length := by rw [hns, news_length]
  have HN := hide hns
  have HL := hide hnl
  have HX := hide hxl
  have HO := hide hco
  have HM := hide hcm
  have h0 := Half.start hB hnl
  rw [hxl] at h0
  clear hns hnl hco hcm hxl hB
  go_enter Trym.func22, Trym.ntmps22
  go_wp2
  go_loopw [8, 11] (fun g j wr => ∃ k : Nat, k ≤ n ∧ (k = n ∨ q ≤ k) ∧ j = .int .i64 ((k : Int) - 1) ∧ g = .bool (xs.drop k != ns.drop k) ∧ Half w gb xs ns k wr) (fun _ j _ => (intOf j + 1).toNat)
  case atStart =>
    refine ⟨n, Nat.le_refl _, .inl rfl, rfl, ?_, h0⟩
    rw [List.drop_eq_nil_of_le (by rw [HX.out]; omega), List.drop_eq_nil_of_le (by rw [HL.out, HX.out]; omega)]; rfl
  case round =>
    obtain ⟨k, hk, hkq, rfl, rfl, hH⟩ := hrel
    by_cases hlt : q < k
    · obtain ⟨j, rfl⟩ : ∃ j, k = j + 1 := ⟨k - 1, by omega⟩
      rw [show ((j + 1 : Nat) : Int) - 1 = (j : Int) from by omega]
      have hjx : j < xs.length := by rw [HX.out]; omega
      have c1 := hH.cell hbo (HO.out (j - q) (by omega))
      have c2 := hH.cell hbm (HM.out j (by omega))
      have c3 := (hH.1.cell j).trans (half_at hjx)
      have f3 := hH.1.frozen j
      have e1 : (j : Int) - (q : Int) = ((j - q : Nat) : Int) := by omega
      have hg := drop_bne hjx HL.out
      have HG := hide hg
      have c4 : q < j → wr.cell? ⟨bo, oo + (j - q - 1), none⟩ = some (.int .u64 ((os.getD (j - q - 1) 0 : Nat) : Int)) := fun h => hH.cell hbo (HO.out (j - q - 1) (by omega))
      obtain ⟨X, hX⟩ : ∃ X, os.getD (j - q) 0 = X := ⟨_, rfl⟩
      obtain ⟨X2, hX2⟩ : ∃ X2, os.getD (j - q - 1) 0 = X2 := ⟨_, rfl⟩
      obtain ⟨Y, hY⟩ : ∃ Y, ms.getD j 0 = Y := ⟨_, rfl⟩
      obtain ⟨Z, hZ⟩ : ∃ Z, xs.getD j 0 = Z := ⟨_, rfl⟩
      obtain ⟨A, hA⟩ : ∃ A, X * 2 ^ s % 18446744073709551616 = A := ⟨_, rfl⟩
      have bX : X < 18446744073709551616 := by rw [← hX]; exact ho.at _
      have bX2 : X2 < 18446744073709551616 := by rw [← hX2]; exact ho.at _
      have bY : Y < 18446744073709551616 := by rw [← hY]; exact hm.at _
      have bZ : Z < 18446744073709551616 := by rw [← hZ]; exact hx.at _
      have bA : A < 18446744073709551616 := by rw [← hA]; exact shl_lt _ _
      have r1 : IntKind.u64.wrap ((X : Int) * 2 ^ s) = (A : Int) := by rw [← hA]; exact shl_rule X s
      rw [hX] at c1
      rw [hX2] at c4
      rw [hY] at c2
      rw [hZ] at c3
      have HY := hide hY
      have HZ := hide hZ
      have hWd : shW os q s j = if s ≠ 0 ∧ q < j then A ||| (X2 / 2 ^ (64 - s)) else A := by unfold shW; rw [hX, hX2, hA]
      have HWd := hide hWd
      obtain ⟨p, hp⟩ : ∃ p, p = j - q := ⟨_, rfl⟩
      rw [← hp] at c1 e1 c4
      have hpq : q + p = j := by omega
      have HP := hide hpq
      clear hg hX hX2 hY hZ hA hWd hp hpq hkq HO HM
      by_cases hs0 : s = 0
      · have s1 : ((s : Int) != 0) = false := by simp [hs0]
        have HW := hide (show shW os q s j = A by rw [HWd.out, if_neg (fun h => h.1 hs0)])
        clear hs0 HWd c4 bX2
        obtain ⟨V, hV⟩ : ∃ V, V = A &&& Y := ⟨_, rfl⟩
        obtain ⟨N, hN⟩ : ∃ N, N = V &&& (18446744073709551615 - Z) := ⟨_, rfl⟩
        obtain ⟨U, hU⟩ : ∃ U, U = Z ||| V := ⟨_, rfl⟩
        have bV : V < 18446744073709551616 := by rw [hV]; exact and_lt _ bY
        have r4 : bits .and .u64 (A : Int) (Y : Int) = (V : Int) := by rw [hV]; exact u64_and_nat A Y bA bY
        have r5 : bits .andNot .u64 (V : Int) (Z : Int) = (N : Int) := by rw [hN]; exact u64_andNot_nat V Z bV bZ
        have r6 : bits .or .u64 (Z : Int) (V : Int) = (U : Int) := by rw [hU]; exact u64_or_nat Z V bZ bV
        have HU := hide (show ns.getD j 0 = U by rw [hU, hV]; exact place HN.out hjx (by omega) HW.out HY.out HZ.out)
        have hz := andNot_zero bV bZ
        rw [← hN, ← hU] at hz
        have HZ2 := hide hz
        clear hz hV hN hU bV bA bX bY bZ
        by_cases hN0 : N = 0
        · have t0 : ((N : Int) != 0) = false := by simp [hN0]
          have hUZ : U = Z := HZ2.out.1 hN0
          have R := hH.same hjx HL.out (by rw [HU.out, HZ.out, hUZ])
          have G := hide (show (xs.drop j != ns.drop j) = (xs.drop (j + 1) != ns.drop (j + 1)) by rw [HG.out, HU.out, HZ.out, hUZ]; simp)
          clear hN0 hUZ hH
          go_wp2
          go_roundw
          case rel => exact ⟨j, by omega, .inr (by omega), rfl, by rw [G.out], R⟩
          case measure => simp [intOf]
        · have t0 : ((N : Int) != 0) = true := by simp [hN0]
          have hUZ : Z ≠ U := fun e => hN0 (HZ2.out.2 e.symm)
          have R := hH.set hjx HL.out HU.out
          have G := hide (show (xs.drop j != ns.drop j) = true by rw [HG.out, HU.out, HZ.out]; simp [hUZ])
          clear hN0 hUZ hH
          go_wp2
          go_roundw
          case rel => exact ⟨j, by omega, .inr (by omega), rfl, by rw [G.out], R⟩
          case measure => simp [intOf]
      · have s1 : ((s : Int) != 0) = true := by simp [hs0]
        by_cases hjq : q < j
        · have s3 : decide ((q : Int) < (j : Int)) = true := decide_eq_true (by omega)
          obtain ⟨A2, hA2⟩ : ∃ A2, X2 / 2 ^ (64 - s) = A2 := ⟨_, rfl⟩
          have bA2 : A2 < 18446744073709551616 := by rw [← hA2]; exact shr_lt _ bX2
          have r2 : (X2 : Int) / 2 ^ (64 - s) = (A2 : Int) := by rw [← hA2]; exact shr_rule X2 s
          obtain ⟨V0, hV0⟩ : ∃ V0, A ||| A2 = V0 := ⟨_, rfl⟩
          have bV0 : V0 < 18446744073709551616 := by rw [← hV0]; exact or_lt bA bA2
          have r3 : bits .or .u64 (A : Int) (A2 : Int) = (V0 : Int) := by rw [← hV0]; exact u64_or_nat A A2 bA bA2
          have HW := hide (show shW os q s j = V0 by rw [HWd.out, if_pos ⟨hs0, hjq⟩, hA2, hV0])
          have c5 := c4 hjq
          have e2 : (p : Int) - 1 = ((p - 1 : Nat) : Int) := by have := HP.out; omega
          obtain ⟨p2, hp2⟩ : ∃ p2, p2 = p - 1 := ⟨_, rfl⟩
          rw [← hp2] at c5 e2
          have hpn : p2 < n := by have := HP.out; omega
          clear hs0 HWd c4 bX2 hA2 hV0 hp2 bA bA2
          obtain ⟨V, hV⟩ : ∃ V, V = V0 &&& Y := ⟨_, rfl⟩
          obtain ⟨N, hN⟩ : ∃ N, N = V &&& (18446744073709551615 - Z) := ⟨_, rfl⟩
          obtain ⟨U, hU⟩ : ∃ U, U = Z ||| V := ⟨_, rfl⟩
          have bV : V < 18446744073709551616 := by rw [hV]; exact and_lt _ bY
          have r4 : bits .and .u64 (V0 : Int) (Y : Int) = (V : Int) := by rw [hV]; exact u64_and_nat V0 Y bV0 bY
          have r5 : bits .andNot .u64 (V : Int) (Z : Int) = (N : Int) := by rw [hN]; exact u64_andNot_nat V Z bV bZ
          have r6 : bits .or .u64 (Z : Int) (V : Int) = (U : Int) := by rw [hU]; exact u64_or_nat Z V bZ bV
          have HU := hide (show ns.getD j 0 = U by rw [hU, hV]; exact place HN.out hjx (by omega) HW.out HY.out HZ.out)
          have hz := andNot_zero bV bZ
          rw [← hN, ← hU] at hz
          have HZ2 := hide hz
          clear hz hV hN hU bV bV0 bX bY bZ
          by_cases hN0 : N = 0
          · have t0 : ((N : Int) != 0) = false := by simp [hN0]
            have hUZ : U = Z := HZ2.out.1 hN0
            have R := hH.same hjx HL.out (by rw [HU.out, HZ.out, hUZ])
            have G := hide (show (xs.drop j != ns.drop j) = (xs.drop (j + 1) != ns.drop (j + 1)) by rw [HG.out, HU.out, HZ.out, hUZ]; simp)
            clear hN0 hUZ hH
            go_wp2
            go_roundw
            case rel => exact ⟨j, by omega, .inr (by omega), rfl, by rw [G.out], R⟩
            case measure => simp [intOf]
          · have t0 : ((N : Int) != 0) = true := by simp [hN0]
            have hUZ : Z ≠ U := fun e => hN0 (HZ2.out.2 e.symm)
            have R := hH.set hjx HL.out HU.out
            have G := hide (show (xs.drop j != ns.drop j) = true by rw [HG.out, HU.out, HZ.out]; simp [hUZ])
            clear hN0 hUZ hH
            go_wp2
            go_roundw
            case rel => exact ⟨j, by omega, .inr (by omega), rfl, by rw [G.out], R⟩
            case measure => simp [intOf]
        · have s3 : decide ((q : Int) < (j : Int)) = false := decide_eq_false (by omega)
          have HW := hide (show shW os q s j = A by rw [HWd.out, if_neg (fun h => hjq h.2)])
          clear hs0 HWd c4 bX2
          obtain ⟨V, hV⟩ : ∃ V, V = A &&& Y := ⟨_, rfl⟩
          obtain ⟨N, hN⟩ : ∃ N, N = V &&& (18446744073709551615 - Z) := ⟨_, rfl⟩
          obtain ⟨U, hU⟩ : ∃ U, U = Z ||| V := ⟨_, rfl⟩
          have bV : V < 18446744073709551616 := by rw [hV]; exact and_lt _ bY
          have r4 : bits .and .u64 (A : Int) (Y : Int) = (V : Int) := by rw [hV]; exact u64_and_nat A Y bA bY
          have r5 : bits .andNot .u64 (V : Int) (Z : Int) = (N : Int) := by rw [hN]; exact u64_andNot_nat V Z bV bZ
          have r6 : bits .or .u64 (Z : Int) (V : Int) = (U : Int) := by rw [hU]; exact u64_or_nat Z V bZ bV
          have HU := hide (show ns.getD j 0 = U by rw [hU, hV]; exact place HN.out hjx (by omega) HW.out HY.out HZ.out)
          have hz := andNot_zero bV bZ
          rw [← hN, ← hU] at hz
          have HZ2 := hide hz
          clear hz hV hN hU bV bA bX bY bZ
          by_cases hN0 : N = 0
          · have t0 : ((N : Int) != 0) = false := by simp [hN0]
            have hUZ : U = Z := HZ2.out.1 hN0
            have R := hH.same hjx HL.out (by rw [HU.out, HZ.out, hUZ])
            have G := hide (show (xs.drop j != ns.drop j) = (xs.drop (j + 1) != ns.drop (j + 1)) by rw [HG.out, HU.out, HZ.out, hUZ]; simp)
            clear hN0 hUZ hH
            go_wp2
            go_roundw
            case rel => exact ⟨j, by omega, .inr (by omega), rfl, by rw [G.out], R⟩
            case measure => simp [intOf]
          · have t0 : ((N : Int) != 0) = true := by simp [hN0]
            have hUZ : Z ≠ U := fun e => hN0 (HZ2.out.2 e.symm)
            have R := hH.set hjx HL.out HU.out
            have G := hide (show (xs.drop j != ns.drop j) = true by rw [HG.out, HU.out, HZ.out]; simp [hUZ])
            clear hN0 hUZ hH
            go_wp2
            go_roundw
            case rel => exact ⟨j, by omega, .inr (by omega), rfl, by rw [G.out], R⟩
            case measure => simp [intOf]
    · obtain ⟨G, R⟩ := hH.fin HN.out (by omega)
      rw [G]
      clear hH G HO HM
      go_wp2
      go_ret
      exact ⟨rfl, R⟩

/-- No word at all: nothing happens. -/
theorem shift_none (ab ao am : Option Addr) (cb co cm : Nat) (d : Nat) (w : World) (hd : d ≤ 9223372036854775807) :
    Calls Trym.prog 22 #[.slice ab 0 cb, .slice ao 0 co, .int .i64 d, .slice am 0 cm] w fun e w' => e = .returned (.bool false) ∧ w' = w := by
  have hdd : 0 ≤ (d : Int) / 64 := by omega
  go_enter Trym.func22, Trym.ntmps22
  go_wp2
  refine wp_loop_rounds 1 ?_
  rw [rounds_succ]
  go_wp2
  go_ret
  exact ⟨rfl, rfl⟩

theorem Made.some {w : World} {g : Nat} {t : TypeId} {a : Option Addr} {len cap : Nat} {vs : List Value} (h : Made w g t a len cap vs) (hp : 0 < len) : a = .some ⟨g, 0, none⟩ ∧ cap = len ∧ Blk w g t vs := by
  rcases h.2 with h' | h'
  · omega
  · exact h'

theorem Blk.words {w : World} {g n : Nat} {xs : List Nat} (h : Blk w g 30 (wv xs)) (hl : xs.length = n) : ∀ k, k < n → w.cell? ⟨g, 0 + k, none⟩ = .some (.int .u64 ((xs.getD k 0 : Nat) : Int)) := fun k hk => by
  rw [Nat.zero_add, h.cell k]; exact wv_at xs k (by omega)

/-- uniteShifted on rows of the call's own. -/
theorem shift_any (gb go gm : Nat) (ab ao am : Option Addr) (n cb co cm : Nat) (xs os ms : List Nat) (d : Nat) (w : World) (hn : n ≤ 1048576) (hxl : xs.length = n) (hol : os.length = n) (hml : ms.length = n)
    (hx : Fits xs) (ho : Fits os) (hm : Fits ms) (hd : d ≤ 9223372036854775807) (hB : Made w gb 30 ab n cb (wv xs)) (hO : Made w go 30 ao n co (wv os)) (hM : Made w gm 30 am n cm (wv ms)) (hbo : 0 < n → go ≠ gb) (hbm : 0 < n → gm ≠ gb) :
    Calls Trym.prog 22 #[.slice ab n cb, .slice ao n co, .int .i64 d, .slice am n cm] w fun e w' => e = .returned (.bool (xs != news xs os ms (d / 64) (d % 64))) ∧ Made w' gb 30 ab n cb (wv (news xs os ms (d / 64) (d % 64))) ∧ w.grownBy w' (.some gb) ∧ w'.heap.size = w.heap.size := by
  have hnl : (wv (news xs os ms (d / 64) (d % 64))).length = n := by rw [wv_length, news_length, hxl]
  by_cases h0 : n = 0
  · subst h0
    have e1 : xs = [] := List.eq_nil_of_length_eq_zero hxl
    have e2 : news xs os ms (d / 64) (d % 64) = [] := List.eq_nil_of_length_eq_zero (by rw [news_length, hxl])
    refine (shift_none ab ao am cb co cm d w hd).mono fun e w' ⟨he, hw⟩ => ?_
    subst hw
    rw [e2]
    rw [e1] at hB ⊢
    exact ⟨he, hB, World.grownBy.refl _ _, rfl⟩
  · obtain ⟨rfl, hc, hB1⟩ := hB.some (by omega)
    obtain ⟨rfl, _, hO1⟩ := hO.some (by omega)
    obtain ⟨rfl, _, hM1⟩ := hM.some (by omega)
    refine (shift_pos gb n cb xs os ms go 0 co gm 0 cm d (d / 64) (d % 64) w hn hxl hx ho hm hd (by omega) (by omega) hB1 (hbo (by omega)) (hbm (by omega)) (hO1.words hol) (hM1.words hml)).mono fun e w' ⟨he, h1, h2, h3⟩ => ?_
    rw [List.take_zero, List.drop_zero, List.nil_append] at h1
    exact ⟨he, ⟨hnl, .inr ⟨rfl, hc, h1⟩⟩, h2, h3⟩

theorem zz_shift (gb go gm : Nat) (ab ao am : Option Addr) (n cb co cm : Nat) (xs os ms : List Nat) (d : Nat) (w : World) (hn : n ≤ 1048576) (hxl : xs.length = n) (hol : os.length = n) (hml : ms.length = n)
    (hx : Fits xs) (ho : Fits os) (hm : Fits ms) (hd : d ≤ 9223372036854775807) (hB : Made w gb 30 ab n cb (wv xs)) (hO : Made w go 30 ao n co (wv os)) (hM : Made w gm 30 am n cm (wv ms)) (hbo : 0 < n → go ≠ gb) (hbm : 0 < n → gm ≠ gb) :
    Calls Trym.prog 17 #[.slice ab n cb, .slice ao n co, .int .i64 d, .slice am n cm] w fun e w' => e = .returned (.bool (xs != news xs os ms (d / 64) (d % 64))) ∧ Made w' gb 30 ab n cb (wv (news xs os ms (d / 64) (d % 64))) ∧ w.grownBy w' (.some gb) ∧ w'.heap.size = w.heap.size := by
  go_enter Trym.func17, Trym.ntmps17
  go_wp2_with fail
  refine (shift_any gb go gm ab ao am n cb co cm xs os ms d w hn hxl hol hml hx ho hm hd hB hO hM hbo hbm).mono ?_
  rintro e w' ⟨rfl, R⟩
  go_wp2
  go_ret
  exact ⟨rfl, R⟩
end Go.Proofs.Qxb6600943aMods
