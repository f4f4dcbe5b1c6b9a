import Derived.Test.Qxb6600584aModsLine
import Derived.Deep.QuietTactic
import Derived.BigQuiet
namespace Go.Proofs.Qxb6600584aMods
open Go.RowKit

theorem ints_append (xs ys : List Int) : ints (xs ++ ys) = ints xs ++ ints ys := by simp [ints]

/-- The cell of element k, spelt as the walk spells it. -/
theorem Reads.cellAt {w : World} {a : Option Addr} {zs : List Int} (h : Reads w a (ints zs)) (hp : 0 < zs.length) : ∃ b off, a = some ⟨b, off, none⟩ ∧ ∀ k, k < zs.length → w.cell? ⟨b, off + k, none⟩ = some (.int .u8 (zs.getD k 0)) := by
  obtain ⟨b, off, h1, _, h2⟩ := h.at (by rw [ints_length]; exact hp)
  exact ⟨b, off, h1, fun k hk => (h2 k (by rw [ints_length]; exact hk)).trans (ints_at zs k hk)⟩

theorem getD_left (xs ys : List Int) (k : Nat) (h : k < xs.length) : (xs ++ ys).getD k 0 = xs.getD k 0 := by simp [List.getD, List.getElem?_append_left h]
theorem getD_right (xs ys : List Int) (k n : Nat) (h : xs.length = n) : (xs ++ ys).getD (n + k) 0 = ys.getD k 0 := by
  subst h; simp [List.getD, List.getElem?_append_right]

theorem after_c {w4 w5 : World} {g n cap m : Nat} {xs ys : List Int} {sp : List Value} {a' : Option Addr} {cap' : Nat} (hB : Blk w4 g 5 (ints xs ++ sp)) (hL : Line w5 a' (n + m) cap' (xs ++ ys)) (hG : Grew w4 w5 (some ⟨g, 0, none⟩) n cap m a' cap') :
    Reads w5 (some ⟨g, 0, none⟩) (ints xs) := by
  rcases hG with ⟨_, rfl, rfl, _⟩ | ⟨_, _, _, hb⟩
  · refine .inr ⟨g, 0, rfl, fun i hi => ?_⟩
    obtain ⟨_, ⟨h, _⟩ | ⟨g', sp', h, _, h5⟩⟩ := hL
    · cases h
    · cases h
      rw [Nat.zero_add, h5.cell i, List.getElem?_append_left (by simp only [ints_length, List.length_append] at hi ⊢; omega)]
      rw [ints_append, List.getElem?_append_left hi]
  · refine .inr ⟨g, 0, rfl, fun i hi => ?_⟩
    rw [Nat.zero_add, hb.cell hB.lt, hB.cell i, List.getElem?_append_left hi]

theorem after_below {B : Nat} {w4 w5 : World} {g n cap m : Nat} {a' : Option Addr} {cap' : Nat} (hBg : B ≤ g) (hs : B ≤ w4.heap.size) (hG : Grew w4 w5 (some ⟨g, 0, none⟩) n cap m a' cap') : Below B w4 w5 := by
  rcases hG with ⟨_, rfl, rfl, hg⟩ | ⟨_, _, _, hb⟩
  · exact (Below.refl _ _).grown hg hs (by intro k hk; simp at hk; omega)
  · exact hb.mono hs

theorem line_of_blk {w : World} {g n r : Nat} {xs : List Int} {sp : List Value} (hx : xs.length = n) (hs : sp.length = r) (hB : Blk w g 5 (ints xs ++ sp)) : Line w (some ⟨g, 0, none⟩) n (n + r) xs := ⟨hx, .inr ⟨g, sp, rfl, by omega, hB⟩⟩

set_option maxHeartbeats 1000000 in
theorem contents_main (a : Option Addr) (n cap : Nat) (xs : List Int) (r : Nat) (b : Option Addr) (m c : Nat) (ys : List Int) (w : World)
    (hx : xs.length = n) (han : a = none → n = 0 ∧ cap = 0) (hra : Reads w a (ints xs)) (hy : ys.length = m) (hbn : b = none → m = 0 ∧ c = 0) (hrb : Reads w b (ints ys))
    (hn : n ≤ 524288) (hm : m ≤ 524288) (hr : r ≤ 65536) :
    Calls Trym.prog 7 #[.slice a n cap, .int .i64 r, .slice b m c] w fun e w' => e = .returned (.bool true) ∧ Below w.heap.size w w' := by
  have hle : n + m ≤ 1048576 := by omega
  have hd : decide (n + m ≤ 1048576) = true := by simp [hle]
  have d1 : decide ((524288 : Int) < (n : Int)) = false := decide_eq_false (by omega)
  have d2 : decide ((524288 : Int) < (m : Int)) = false := decide_eq_false (by omega)
  have d3 : decide ((r : Int) < 0) = false := decide_eq_false (by omega)
  have d4 : decide ((65536 : Int) < (r : Int)) = false := decide_eq_false (by omega)
  go_enter Trym.func7, Trym.ntmps7
  go_wp2_with fail
  refine (bytes_contents a n cap r b m c w (by omega) (by omega)).mono ?_
  rintro e w' ⟨rfl, rfl⟩
  rw [hd]
  go_wp2_with fail
  refine (clone_any a n cap xs w' hx (by omega) han hra).mono ?_
  rintro e w1 ⟨a1, cap1, rfl, hM1, hb1⟩
  go_wp2_with fail
  refine (clone_any b m c ys w1 hy (by omega) hbn (hrb.below hb1)).mono ?_
  rintro e w2 ⟨b1, c1, rfl, hM2, hb2⟩
  have hs1 := hb1.size
  have hs2 := hb2.size
  have hmk := mkB n (n + r) (by omega) (by omega)
  have ec : ((n + r : Nat) : Int) = (n : Int) + (r : Int) := by omega
  rw [ec] at hmk
  clear ec
  have hM1' := fun hlt : w'.heap.size < w1.heap.size => hM1.below hb2 hlt
  have b3 : Below w2.heap.size w2 (w2.alloc (.cells (zrow (.int .u8 0) (n + r)).toArray 5)) := (Below.refl _ _).alloc (Nat.le_refl _) _
  have hR1 : Reads w2 a1 (ints xs) := hM1.reads.below hb2
  have hcp := copy_run (w2.alloc (.cells (zrow (.int .u8 0) (n + r)).toArray 5)) w2.heap.size n (n + r) _ (Blk.new w2 5 (zrow (.int .u8 0) (n + r))) a1 n cap1 xs hx ?_ (hR1.below b3) (Nat.le_refl _) (by rw [zrow_length]; omega)
  rotate_left
  · intro h; rcases hM1.2 with h' | h'
    · exact h'.2.1
    · rw [h'.1] at h; cases h
  obtain ⟨w4, hcp, hB4, hg4, hs4⟩ := hcp
  have H1 : Hid _ := hcp
  clear hcp
  go_wp2_with (refine wpList_copy_eq rfl (.tmp 41) (.tmp 42) 28 rfl H1.out rfl rfl ?_)
  have hL4 : Line w4 (some ⟨w2.heap.size, 0, none⟩) n (n + r) xs := line_of_blk hx (by rw [List.length_drop, zrow_length]; omega) hB4
  have b4 : Below w2.heap.size w2 w4 := b3.grown hg4 (by simp) (by intro k hk; simp at hk; omega)
  have hR2 : Reads w4 b1 (ints ys) := hM2.reads.below b4
  have hb1n : b1 = none → m = 0 ∧ c1 = 0 := by
    intro h; rcases hM2.2 with h' | h'
    · exact h'.2
    · rw [h'.1] at h; cases h
  refine (zz_grow (some ⟨w2.heap.size, 0, none⟩) n (n + r) xs b1 m c1 ys w4 hL4 hy hb1n hR2 (by omega) (by omega)).mono ?_
  rintro e w5 ⟨a5, cap5, rfl, hL5, hG5⟩
  have hrc := after_c hB4 hL5 hG5
  have b5 : Below w2.heap.size w4 w5 := after_below (Nat.le_refl _) b4.size hG5
  have b25 := b4.trans b5
  have r1 : Reads w5 a1 (ints xs) := hR1.below b25
  have r2 : Reads w5 b1 (ints ys) := hM2.reads.below b25
  have r5 : Reads w5 a5 (ints (xs ++ ys)) := hL5.reads
  have B5 : Below w'.heap.size w' w5 := (hb1.trans (hb2.mono hs1)).trans (b25.mono (by omega))
  clear hL5 hG5 b5 b25 hR2 hb1n hL4 b4 hB4 hg4 hs4 b3 hM1' hM1 hM2 hR1 hmk H1 hbn han hra hrb hb1 hb2 hs1 hs2 hd d1 d2 d3 d4
  go_wp2_with fail
  go_loopw [9] (fun i wr => ∃ k q : Nat, k ≤ n ∧ i = .int .i64 k ∧ wr = w5.drewN q) (fun i _ => n - (intOf i).toNat)
  case atStart => exact ⟨0, 0, Nat.zero_le _, rfl, rfl⟩
  case round =>
    obtain ⟨k, q, hk, rfl, rfl⟩ := hrel
    by_cases hlt : k < n
    · obtain ⟨ga, oa, rfl, hca⟩ := r1.cellAt (by omega)
      obtain ⟨g5, o5, rfl, hc5⟩ := r5.cellAt (by rw [List.length_append]; omega)
      have hcc : w5.cell? ⟨w2.heap.size, k, none⟩ = some (.int .u8 (xs.getD k 0)) := by
        obtain ⟨gc, oc, hgc, hcc⟩ := hrc.cellAt (by omega)
        have := hcc k (by omega)
        cases hgc
        rwa [Nat.zero_add] at this
      have ca := hca k (by omega)
      have c5 := hc5 k (by rw [List.length_append]; omega)
      rw [getD_left xs ys k (by omega)] at c5
      have i1 : (k : Int) < (n : Int) := by omega
      have i2 : (k : Int) < (n : Int) + (m : Int) := by omega
      clear hca hc5 r1 r2 r5 hrc
      go_wp2
      go_quiet (fail)
      go_wp2
      go_roundw
      case rel => exact ⟨k + 1, _, by omega, by go_num, rfl⟩
      case measure => simp [intOf]; omega
    · clear hrc r1
      go_wp2_with fail
      go_loopw [10] (fun i wr => ∃ j q : Nat, j ≤ m ∧ i = .int .i64 j ∧ wr = w5.drewN q) (fun i _ => m - (intOf i).toNat)
      case atStart => exact ⟨0, q, Nat.zero_le _, rfl, rfl⟩
      case round =>
        obtain ⟨j, q, hj, rfl, rfl⟩ := hrel
        by_cases hjt : j < m
        · obtain ⟨gb, ob, rfl, hcb⟩ := r2.cellAt (by omega)
          obtain ⟨g5, o5, rfl, hc5⟩ := r5.cellAt (by rw [List.length_append]; omega)
          have cb := hcb j (by omega)
          have c5 := hc5 (n + j) (by rw [List.length_append]; omega)
          rw [getD_right xs ys j n hx] at c5
          have i1 : (j : Int) < (m : Int) := by omega
          have i2 : (n : Int) + (j : Int) < (n : Int) + (m : Int) := by omega
          clear hcb hc5 r2 r5
          go_wp2
          go_quiet (fail)
          go_wp2
          go_roundw
          case rel => exact ⟨j + 1, _, by omega, by go_num, rfl⟩
          case measure => simp [intOf]; omega
        · clear r2 r5
          go_wp2
          go_ret
          exact ⟨rfl, below_drewN B5 _⟩
end Go.Proofs.Qxb6600584aMods
