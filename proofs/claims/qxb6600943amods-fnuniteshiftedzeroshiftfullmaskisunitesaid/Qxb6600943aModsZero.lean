/-
  FnUniteShiftedZeroShiftFullMaskIsUnite: the walk.
-/
import Derived.Test.Qxb6600943aModsUnite
namespace Go.Proofs.Qxb6600943aMods
open Go.RowKit

/-- Some bool. -/
def SaysZ (e : Ending) : Prop := ∃ z, e = .returned (.bool z)

/-- zzBytes_FnUniteShiftedZeroShiftFullMaskIsUnite: some bool; nothing turns. -/
theorem bytes19 (a0 a1 : Option Addr) (n0 n1 c0 c1 : Nat) (w : World) (h0 : n0 ≤ 9223372036854775807) (h1 : n1 ≤ 9223372036854775807) :
    Calls Trym.prog 19 #[.slice a0 n0 c0, .slice a1 n1 c1] w fun e w' => SaysZ e ∧ w' = w := by
  by_cases b0 : n0 ≤ 1048576
  · by_cases b1 : n1 ≤ 1048576
    · by_cases b2 : n0 + n1 ≤ 1048576
      · go_enter Trym.func19, Trym.ntmps19
        go_wp2
        go_ret
        exact ⟨⟨_, rfl⟩, rfl⟩
      · go_enter Trym.func19, Trym.ntmps19
        go_wp2
        go_ret
        exact ⟨⟨_, rfl⟩, rfl⟩
    · go_enter Trym.func19, Trym.ntmps19
      go_wp2
      go_ret
      exact ⟨⟨_, rfl⟩, rfl⟩
  · go_enter Trym.func19, Trym.ntmps19
    go_wp2
    go_ret
    exact ⟨⟨_, rfl⟩, rfl⟩

/-- The law's own bounds say no. -/
theorem zero_out (a0 a1 : Option Addr) (n0 n1 c0 c1 : Nat) (w : World) (h0 : n0 ≤ 9223372036854775807) (h1 : n1 ≤ 9223372036854775807) (ho : 65536 < n0 ∨ 65536 < n1 ∨ n1 ≠ n0) :
    Calls Trym.prog 8 #[.slice a0 n0 c0, .slice a1 n1 c1] w fun e w' => e = .returned (.bool true) ∧ Below w.heap.size w w' := by
  go_enter Trym.func8, Trym.ntmps8
  go_wp2_with fail
  refine (bytes19 a0 a1 n0 n1 c0 c1 w h0 h1).mono ?_
  rintro e w' ⟨⟨z, rfl⟩, hw⟩
  have hw := hw.symm
  subst hw
  cases z with
  | false =>
    go_wp2
    go_ret
    exact ⟨rfl, Below.refl _ _⟩
  | true =>
  by_cases b1 : (65536 : Int) < (n0 : Int)
  · have d1 : decide ((65536 : Int) < (n0 : Int)) = true := decide_eq_true b1
    go_wp2_with fail
    go_ret
    exact ⟨rfl, Below.refl _ _⟩
  have d1 : decide ((65536 : Int) < (n0 : Int)) = false := decide_eq_false b1
  by_cases b2 : (65536 : Int) < (n1 : Int)
  · have d2 : decide ((65536 : Int) < (n1 : Int)) = true := decide_eq_true b2
    go_wp2_with fail
    go_ret
    exact ⟨rfl, Below.refl _ _⟩
  have d2 : decide ((65536 : Int) < (n1 : Int)) = false := decide_eq_false b2
  have d4 : ((n1 : Int) != (n0 : Int)) = true := by rw [bne_iff_ne]; omega
  go_wp2_with fail
  go_ret
  exact ⟨rfl, Below.refl _ _⟩

theorem zz_shift_none (ab ao am : Option Addr) (cb co cm : Nat) (w : World) :
    Calls Trym.prog 17 #[.slice ab 0 cb, .slice ao 0 co, .int .i64 0, .slice am 0 cm] w fun e w' => e = .returned (.bool false) ∧ w' = w := by
  go_enter Trym.func17, Trym.ntmps17
  go_wp2_with fail
  refine (shift_none ab ao am cb co cm 0 w (by omega)).mono ?_
  rintro e w' ⟨rfl, rfl⟩
  go_wp2
  go_ret
  exact ⟨rfl, rfl⟩
theorem zz_unite_none (ab ao : Option Addr) (cb co : Nat) (w : World) : Calls Trym.prog 12 #[.slice ab 0 cb, .slice ao 0 co] w fun e w' => e = .returned (.tuple #[]) ∧ w' = w := by
  go_enter Trym.func12, Trym.ntmps12
  go_wp2_with fail
  refine (unite_none ab ao cb co w).mono ?_
  rintro e w' ⟨rfl, rfl⟩
  go_wp2
  go_end0
  exact ⟨rfl, rfl⟩

set_option maxHeartbeats 2000000 in
/-- No word at all. -/
theorem zero_none (a0 a1' : Option Addr) (c0 c1 : Nat) (w : World) (e0 : a0 = none → c0 = 0) (e1 : a1' = none → c1 = 0) :
    Calls Trym.prog 8 #[.slice a0 0 c0, .slice a1' 0 c1] w fun e w' => e = .returned (.bool true) ∧ Below w.heap.size w w' := by
  have hmk : ∀ w, (Instr.makeSlice 24 (.int .i64 0) (.int .i64 0)).run Trym.prog w = .ok (.slice (some ⟨w.heap.size, 0, none⟩) 0 0) (w.alloc (.cells (zrow (.int .u64 0) 0).toArray 30)) := mkW 0 0 (by omega) (by omega)
  go_enter Trym.func8, Trym.ntmps8
  go_wp2_with fail
  refine (bytes19 a0 a1' 0 0 c0 c1 w (by omega) (by omega)).mono ?_
  rintro e w' ⟨⟨z, rfl⟩, hw⟩
  have hw := hw.symm
  subst hw
  cases z with
  | false =>
    go_wp2
    go_ret
    exact ⟨rfl, Below.refl _ _⟩
  | true =>
  go_wp2_with fail
  refine (clone_any a0 0 c0 [] w rfl (by omega) (fun h => ⟨rfl, e0 h⟩) (.inl rfl)).mono ?_
  rintro e w1 ⟨a1, cap1, rfl, M1, b1⟩
  go_wp2_with fail
  refine (clone_any a1' 0 c1 [] w1 rfl (by omega) (fun h => ⟨rfl, e1 h⟩) (.inl rfl)).mono ?_
  rintro e w2 ⟨a2, cap2, rfl, M2, b2⟩
  have n1 : a1 = none → cap1 = 0 := fun h => (M1.nil h).2
  have s1 := b1.size
  have s2 := b2.size
  clear M1 M2
  go_wp2_with fail
  refine wp_loop_rounds 1 ?_
  rw [rounds_succ]
  go_wp2_with fail
  have b3 : Below w2.heap.size w2 (w2.alloc (.cells (zrow (.int .u64 0) 0).toArray 30)) := (Below.refl _ _).alloc (Nat.le_refl _) _
  have s3 := b3.size
  refine (clone_any a1 0 cap1 [] _ rfl (by omega) (fun h => ⟨rfl, n1 h⟩) (.inl rfl)).mono ?_
  rintro e w4 ⟨a4, cap4, rfl, M4, b4⟩
  have B4 : Below w.heap.size w w4 := ((b1.trans (b2.mono s1)).trans (b3.mono (by omega))).trans (b4.mono (by omega))
  clear M4 b3 s3 b4
  go_wp2_with fail
  refine (zz_shift_none a4 a2 (some ⟨w2.heap.size, 0, none⟩) cap4 cap2 0 w4).mono ?_
  rintro e w5 ⟨rfl, hw⟩
  have hw := hw.symm
  subst hw
  go_wp2_with fail
  refine (clone_any a1 0 cap1 [] w4 rfl (by omega) (fun h => ⟨rfl, n1 h⟩) (.inl rfl)).mono ?_
  rintro e w5 ⟨a5, cap5, rfl, M5, b5⟩
  have B5 : Below w.heap.size w w5 := B4.trans (b5.mono B4.size)
  clear M5 b5
  go_wp2_with fail
  refine (zz_unite_none a5 a2 cap5 cap2 w5).mono ?_
  rintro e w6 ⟨rfl, hw⟩
  have hw := hw.symm
  subst hw
  go_wp2_with fail
  refine (same_any a4 a5 0 cap4 cap5 [] [] w5 (by omega) rfl rfl (.inl rfl) (.inl rfl)).mono ?_
  rintro e w6 ⟨rfl, q, rfl⟩
  rw [show (([] : List Nat) == []) = true from rfl]
  go_wp2_with fail
  refine (same_any a5 a1 0 cap5 cap1 [] [] _ (by omega) rfl rfl (.inl rfl) (.inl rfl)).mono ?_
  rintro e w6 ⟨rfl, q2, rfl⟩
  rw [show (([] : List Nat) == []) = true from rfl]
  go_wp2
  go_ret
  exact ⟨rfl, below_drewN B5 _⟩

theorem made_blk {w : World} {g n : Nat} {xs : List Nat} (h : Blk w g 30 (wv xs)) (hl : xs.length = n) : Made w g 30 (some ⟨g, 0, none⟩) n n (wv xs) := ⟨by rw [wv_length]; exact hl, .inr ⟨rfl, rfl, h⟩⟩
theorem blk_words {w : World} {g : Nat} {xs : List Nat} (h : Blk w g 30 (wv xs)) : Reads w (some ⟨g, 0, none⟩) (wv xs) := .inr ⟨g, 0, rfl, fun i hi => by rw [Nat.zero_add]; exact h.cell i⟩

/-- No shift, the mask full. -/
theorem zz_shift0 (gb go gm n : Nat) (xs os : List Nat) (w : World) (hn : n ≤ 1048576) (hxl : xs.length = n) (hol : os.length = n) (hx : Fits xs) (ho : Fits os) (hB : Blk w gb 30 (wv xs)) (hO : Blk w go 30 (wv os)) (hM : Blk w gm 30 (wv (List.replicate n FM))) (hbo : go ≠ gb) (hbm : gm ≠ gb) (hp : 0 < n) :
    Calls Trym.prog 17 #[.slice (some ⟨gb, 0, none⟩) n n, .slice (some ⟨go, 0, none⟩) n n, .int .i64 0, .slice (some ⟨gm, 0, none⟩) n n] w fun e w' => e = .returned (.bool (xs != uni xs os)) ∧ Blk w' gb 30 (wv (uni xs os)) ∧ w.grownBy w' (some gb) ∧ w'.heap.size = w.heap.size := by
  have h := zz_shift gb go gm (some ⟨gb, 0, none⟩) (some ⟨go, 0, none⟩) (some ⟨gm, 0, none⟩) n n n n xs os (List.replicate n FM) 0 w hn hxl hol (List.length_replicate ..) hx ho (full_fits n) (by omega) (made_blk hB hxl) (made_blk hO hol) (made_blk hM (List.length_replicate ..)) (fun _ => hbo) (fun _ => hbm)
  have e : news xs os (List.replicate n FM) (0 / 64) (0 % 64) = uni xs os := by rw [← hxl]; exact news_full ho
  rw [e] at h
  exact h.mono fun e w' ⟨h1, h2, h3, h4⟩ => ⟨h1, (h2.some hp).2.2, h3, h4⟩

theorem full_get (n k : Nat) (h : k < n) : (wv (List.replicate n FM))[k]'(by rw [wv_length, List.length_replicate]; exact h) = .int .u64 18446744073709551615 := by
  rw [wv_get _ _ (by rw [List.length_replicate]; exact h), getD_at (by rw [List.length_replicate]; exact h), List.getElem_replicate]; rfl

set_option maxHeartbeats 2000000 in
theorem zero_main (a0 a1' : Option Addr) (n c0 c1 : Nat) (xs os : List Nat) (w : World) (hxl : xs.length = n) (hol : os.length = n) (fx : Fits xs) (fo : Fits os) (hp : 0 < n)
    (hn : n ≤ 65536) (e0 : a0 = none → n = 0 ∧ c0 = 0) (e1 : a1' = none → n = 0 ∧ c1 = 0) (q0 : Reads w a0 (wv xs)) (q1 : Reads w a1' (wv os)) :
    Calls Trym.prog 8 #[.slice a0 n c0, .slice a1' n c1] w fun e w' => e = .returned (.bool true) ∧ Below w.heap.size w w' := by
  have d1 : decide ((65536 : Int) < (n : Int)) = false := decide_eq_false (by omega)
  have hmk := mkW n n (Nat.le_refl _) (by omega)
  go_enter Trym.func8, Trym.ntmps8
  go_wp2_with fail
  refine (bytes19 a0 a1' n n c0 c1 w (by omega) (by omega)).mono ?_
  rintro e w' ⟨⟨z, rfl⟩, hw⟩
  have hw := hw.symm
  subst hw
  cases z with
  | false =>
    go_wp2
    go_ret
    exact ⟨rfl, Below.refl _ _⟩
  | true =>
  go_wp2_with fail
  refine (clone_any a0 n c0 xs w hxl (by omega) e0 q0).mono ?_
  rintro e w1 ⟨a1, cap1, rfl, M1, b1⟩
  obtain ⟨rfl, rfl, B1⟩ := M1.some hp
  clear M1
  go_wp2_with fail
  refine (clone_any a1' cap1 c1 os w1 hol (by omega) e1 (q1.below b1)).mono ?_
  rintro e w2 ⟨a2, cap2, rfl, M2, b2⟩
  obtain ⟨rfl, rfl, B2⟩ := M2.some hp
  clear M2 q0 q1 e0 e1 d1
  have s1 := b1.size
  have s2 := b2.size
  have l1 := B1.lt
  have l2 := B2.lt
  have B12 := B1.below b2 l1
  have hfl : (wv (List.replicate cap2 FM)).length = cap2 := by rw [wv_length, List.length_replicate]
  have HFL := hide hfl
  clear hfl
  go_wp2_with fail
  go_loopw [6] (fun i wr => ∃ k : Nat, k ≤ cap2 ∧ i = .int .i64 k ∧ Blk wr w2.heap.size 30 (mix (wv (List.replicate cap2 FM)) (.int .u64 0) k) ∧ Below w2.heap.size w2 wr) (fun i _ => cap2 - (intOf i).toNat)
  case atStart => exact ⟨0, Nat.zero_le _, rfl, by rw [mix_zero, HFL.out]; exact Blk.new _ _ _, (Below.refl _ _).alloc (Nat.le_refl _) _⟩
  case round =>
    obtain ⟨k, hk, rfl, hB, hbel⟩ := hrel
    by_cases hlt : k < cap2
    · have hdst : ∃ v, wr.cell? ⟨w2.heap.size, k, none⟩ = some v := ⟨_, (hB.cell k).trans (List.getElem?_eq_getElem (by rw [mix_length _ _ _ (by rw [HFL.out]; exact hk), HFL.out]; exact hlt))⟩
      obtain ⟨v, hdst⟩ := hdst
      have hfr := hB.frozen k
      have hset := mix_set (wv (List.replicate cap2 FM)) (.int .u64 0) k (by rw [HFL.out]; exact hlt)
      rw [full_get cap2 k hlt] at hset
      have R := hB.set k (.int .u64 18446744073709551615)
      rw [hset] at R
      clear hset hmk
      go_wp2
      go_roundw
      case rel => exact ⟨k + 1, by omega, by go_num, R, hbel.setCell (Nat.le_refl _) _⟩
      case measure => simp [intOf]; omega
    · obtain rfl : k = cap2 := by omega
      have B3 : Blk wr w2.heap.size 30 (wv (List.replicate k FM)) := by
        have := hB
        have e := mix_all (wv (List.replicate k FM)) (.int .u64 0)
        rw [HFL.out] at e
        rw [e] at this; exact this
      have B13 := B12.below hbel (by omega)
      have B23 := B2.below hbel l2
      have s3 := hbel.size
      have l3 := B3.lt
      clear hB hmk
      go_wp2_with fail
      refine (clone_some ⟨w.heap.size, 0, none⟩ k k xs wr hxl (by omega) (blk_words B13)).mono ?_
      rintro e w4 ⟨rfl, B44, b4⟩
      have B14 := B13.below b4 (by omega)
      have B24 := B23.below b4 (by omega)
      have B34 := B3.below b4 l3
      have s4 := b4.size
      have l4 := B44.lt
      go_wp2_with fail
      refine (zz_shift0 wr.heap.size w1.heap.size w2.heap.size k xs os w4 (by omega) hxl hol fx fo B44 B24 B34 (by omega) (by omega) hp).mono ?_
      rintro e w5 ⟨rfl, B45, g5, s5⟩
      have s5a : w5.heap.size ≤ w4.heap.size := by omega
      have s5b : w4.heap.size ≤ w5.heap.size := by omega
      clear s5
      have B15 := B14.grown g5 (by intro e; have := Option.some.inj e; omega)
      have B25 := B24.grown g5 (by intro e; have := Option.some.inj e; omega)
      obtain ⟨us, hus⟩ : ∃ us, us = uni xs os := ⟨_, rfl⟩
      have hul : us.length = k := by rw [hus, uni_length, hxl]
      rw [← hus] at B45 ⊢
      have HUS := hide hus
      have X5 : Below w.heap.size w w5 := (((b1.trans (b2.mono s1)).trans (hbel.mono (by omega))).trans (b4.mono (by omega))).grown g5 (by omega) (by intro i hi; have := Option.some.inj hi; omega)
      clear hus g5 B34 B14 B24 B44 b1 b2 b4 hbel B13 B23 B3 B12 B1 B2
      go_wp2_with fail
      refine (clone_some ⟨w.heap.size, 0, none⟩ k k xs w5 hxl (by omega) (blk_words B15)).mono ?_
      rintro e w6 ⟨rfl, B66, b6⟩
      have B16 := B15.below b6 (by omega)
      have B26 := B25.below b6 (by omega)
      have B46 := B45.below b6 (by omega)
      have s6 := b6.size
      have X6 : Below w.heap.size w w6 := X5.trans (b6.mono (by omega))
      clear b6 B15 B25 B45 X5
      go_wp2_with fail
      refine (zz_unite w5.heap.size w1.heap.size (some ⟨w5.heap.size, 0, none⟩) (some ⟨w1.heap.size, 0, none⟩) k k k xs os w6 (by omega) hxl hol fx fo (made_blk B66 hxl) (made_blk B26 hol) (fun _ => by omega)).mono ?_
      rintro e w7 ⟨rfl, M7, g7, s7⟩
      clear s7
      rw [← HUS.out] at M7
      have B77 := (M7.some hp).2.2
      have B17 := B16.grown g7 (by intro e; have := Option.some.inj e; omega)
      have B47 := B46.grown g7 (by intro e; have := Option.some.inj e; omega)
      have X7 : Below w.heap.size w w7 := X6.grown g7 (by omega) (by intro i hi; have := Option.some.inj hi; omega)
      clear M7 g7 B16 B26 B46 X6 B66
      go_wp2_with fail
      refine (same_any (some ⟨wr.heap.size, 0, none⟩) (some ⟨w5.heap.size, 0, none⟩) k k k us us w7 (by omega) hul hul (blk_words B47) (blk_words B77)).mono ?_
      rintro e w8 ⟨rfl, q, rfl⟩
      rw [show (us == us) = true from by simp]
      have R8 := blk_words (B77.drewN q)
      have R9 := blk_words (B17.drewN q)
      clear B47 B77 B17
      go_wp2_with fail
      refine (same_any (some ⟨w5.heap.size, 0, none⟩) (some ⟨w.heap.size, 0, none⟩) k k k us xs (w7.drewN q) (by omega) hul hxl R8 R9).mono ?_
      rintro e w8 ⟨rfl, q2, rfl⟩
      have E : (xs != us) = !(us == xs) := by rw [bne]; congr 1; rw [Bool.eq_iff_iff, beq_iff_eq, beq_iff_eq]; exact eq_comm
      rw [E]
      go_wp2
      go_ret
      exact ⟨rfl, below_drewN X7 _⟩
end Go.Proofs.Qxb6600943aMods
