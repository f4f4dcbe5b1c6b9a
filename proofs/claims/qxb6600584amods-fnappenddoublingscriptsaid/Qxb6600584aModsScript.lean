/-
  FnAppendDoublingScript: the walk.
-/
import Derived.Test.Qxb6600584aModsFrags
import Derived.Deep.QuietTactic
import Derived.BigQuiet
namespace Go.Proofs.Qxb6600584aMods
open Go.RowKit

theorem hide {p : Prop} (h : p) : Hid p := h

theorem cat_congr {fs gs : List Frag} (h : gs.map Frag.zs = fs.map Frag.zs) (k : Nat) : cat gs k = cat fs k := by
  unfold cat; rw [List.map_take, List.map_take, h]

theorem getD_fst (xs ys : List Int) (k : Nat) (h : k < xs.length) : (xs ++ ys).getD k 0 = xs.getD k 0 := by simp [List.getD, List.getElem?_append_left h]
theorem getD_snd (xs ys : List Int) (k n : Nat) (h : xs.length = n) : (xs ++ ys).getD (n + k) 0 = ys.getD k 0 := by
  subst h; simp [List.getD, List.getElem?_append_right]
theorem Reads.byteAt {w : World} {a : Option Addr} {zs : List Int} (h : Reads w a (ints zs)) (hp : 0 < zs.length) : ∃ b off, a = some ⟨b, off, none⟩ ∧ ∀ k, k < zs.length → w.cell? ⟨b, off + k, none⟩ = some (.int .u8 (zs.getD k 0)) := by
  obtain ⟨b, off, h1, _, h2⟩ := h.at (by rw [ints_length]; exact hp)
  exact ⟨b, off, h1, fun k hk => (h2 k (by rw [ints_length]; exact hk)).trans (ints_at zs k hk)⟩

/-- The line that is gathered, behind k fragments. -/
def LineInv (w1 : World) (gs : List Frag) (k : Nat) (a : Option Addr) (cap A : Nat) (wr : World) : Prop :=
  Line wr a (cat gs k).length cap (cat gs k) ∧ (∀ x, a = some x → w1.heap.size ≤ x.block) ∧ cap ≤ 2 * (cat gs k).length ∧ A ≤ 2 * cap ∧ Below w1.heap.size w1 wr

theorem LineInv.start (w1 : World) (gs : List Frag) : LineInv w1 gs 0 none 0 0 w1 :=
  ⟨⟨rfl, .inl ⟨rfl, by rw [cat_zero]; rfl, rfl⟩⟩, (by intro x h; cases h), by omega, by omega, Below.refl _ _⟩

theorem LineInv.step {w1 : World} {gs : List Frag} {k : Nat} {a : Option Addr} {cap A : Nat} {wr w2 : World} {a' : Option Addr} {cap' L m : Nat} (h : LineInv w1 gs k a cap A wr) (hk : k < gs.length)
    (hL : (cat gs k).length = L) (hm : gs[k].zs.length = m) (hL' : Line w2 a' (L + m) cap' (cat gs k ++ gs[k].zs)) (hG : Grew wr w2 a L cap m a' cap') :
    (L + m ≤ cap → cap' = cap ∧ LineInv w1 gs (k + 1) a' cap A w2) ∧ (cap < L + m → cap' = max (2 * cap) (L + m) ∧ LineInv w1 gs (k + 1) a' cap' (A + cap') w2) ∧ Below w1.heap.size w1 w2 := by
  obtain ⟨h1, h2, h3, h4, h5⟩ := h
  have hl := cat_len gs k hk
  have hs := h5.size
  rw [← cat_succ gs k hk] at hL'
  rcases hG with ⟨g1, rfl, rfl, g4⟩ | ⟨g1, rfl, rfl, g4⟩
  · have hb : Below w1.heap.size w1 w2 := h5.grown g4 hs (by
      intro j hj
      cases ha : a' with
      | none => rw [ha] at hj; cases hj
      | some x => rw [ha] at hj; cases hj; exact h2 x ha)
    refine ⟨fun _ => ⟨rfl, ?_, h2, by omega, h4, hb⟩, fun h => by omega, hb⟩
    rw [hl, hL, hm]; exact hL'
  · have hb : Below w1.heap.size w1 w2 := h5.trans (g4.mono hs)
    refine ⟨fun h => by omega, fun _ => ⟨rfl, ?_, ?_, by omega, by omega, hb⟩, hb⟩
    · rw [hl, hL, hm]; exact hL'
    · intro x hx; cases hx; exact hs

/-- Everything that the rest of the walk wants of the copied fragments. -/
def FragsIn (w1 : World) (a1 : Option Addr) (gs : List Frag) (n : Nat) : Prop := gs.length = n ∧ Reads w1 a1 (fvals gs) ∧ (∀ f ∈ gs, f.Ok w1) ∧ (cat gs n).length ≤ 1048576

theorem FragsIn.get {w1 : World} {a1 : Option Addr} {gs : List Frag} {n : Nat} (h : FragsIn w1 a1 gs n) {k : Nat} (hk : k < n) : ∃ b off f0 c0 m, ∃ z0 : List Int, a1 = some ⟨b, off, none⟩ ∧ b < w1.heap.size ∧
    w1.cell? ⟨b, off + k, none⟩ = some (.slice f0 m c0) ∧ (f0 = none → m = 0 ∧ c0 = 0) ∧ Reads w1 f0 (ints z0) ∧ z0.length = m ∧ (∃ hk' : k < gs.length, gs[k].zs = z0) ∧ (cat gs k).length + m ≤ 1048576 ∧ (cat gs (k + 1)).length = (cat gs k).length + m := by
  obtain ⟨hl, hr, hf, hs⟩ := h
  obtain ⟨b, off, h1, h2, h3⟩ := hr.frag (by omega)
  have hk' : k < gs.length := by omega
  have ok := hf gs[k] (List.getElem_mem _)
  have e := cat_len gs k hk'
  have e2 := cat_mono gs (k + 1) n (by omega)
  exact ⟨b, off, gs[k].ad, gs[k].cp, gs[k].zs.length, gs[k].zs, h1, h2, h3 k hk', ok.1, ok.2, rfl, ⟨hk', rfl⟩, by omega, e⟩

set_option maxHeartbeats 1000000 in
theorem script_main (a : Option Addr) (n cap : Nat) (fs : List Frag) (w : World)
    (hl : fs.length = n) (hn0 : n ≤ 9223372036854775807) (han : a = none → n = 0 ∧ cap = 0) (hr : Reads w a (fvals fs)) (hf : ∀ f ∈ fs, f.Ok w) :
    Calls Trym.prog 8 #[.slice a n cap] w fun e w' => e = .returned (.bool true) ∧ Below w.heap.size w w' := by
  go_enter Trym.func8, Trym.ntmps8
  go_wp2_with fail
  refine (bytes21 a n cap fs w hl hn0 hr).mono ?_
  rintro e w0 ⟨⟨z, rfl, hzn⟩, hw⟩
  have hw := hw.symm
  subst hw
  cases z with
  | false =>
    go_wp2
    go_ret
    exact ⟨rfl, Below.refl _ _⟩
  | true =>
  obtain ⟨hn, hsum⟩ := hzn rfl
  clear hzn
  rw [hl] at hn hsum
  by_cases hn1 : (65536 : Int) < (n : Int)
  · go_wp2_with fail
    go_ret
    exact ⟨rfl, Below.refl _ _⟩
  have d1 : decide ((65536 : Int) < (n : Int)) = false := decide_eq_false hn1
  have hfl : ∀ k (hk : k < fs.length), fs[k].zs.length ≤ 1048576 := by
    intro k hk
    have e := cat_len fs k hk
    have e2 := cat_mono fs (k + 1) n (by omega)
    omega
  have HF := hide hfl
  have HN := hide han
  have HO := hide hf
  clear hfl han hf
  go_wp2_with fail
  go_loop [3, 4] (fun t i => ∃ j : Nat, ∃ T : Int, j ≤ n ∧ i = .int .i64 j ∧ t = .int .i64 T ∧ 0 ≤ T ∧ T ≤ 4194304) (fun _ i => n - (intOf i).toNat)
  case atStart => exact ⟨0, _, Nat.zero_le _, rfl, rfl, by omega, by omega⟩
  case round =>
    obtain ⟨j, T, hj, rfl, rfl, hT0, hT1⟩ := hrel
    by_cases hlt : j < n
    · obtain ⟨b, off, rfl, _, hc⟩ := hr.frag (by omega)
      have hcj := hc j (by omega)
      have hm0 := HF.out j (by omega)
      obtain ⟨f, hf⟩ : ∃ f, f = fs[j] := ⟨_, rfl⟩
      rw [← hf] at hcj hm0
      obtain ⟨m, hm⟩ : ∃ m, m = f.zs.length := ⟨_, rfl⟩
      rw [← hm] at hcj hm0
      clear hf hc hr hm
      by_cases h2 : T + m ≤ 1048576
      · go_wp2
        go_round
        case rel => exact ⟨j + 1, _, by omega, by go_num, rfl, by omega, by omega⟩
        case measure => simp [intOf]; omega
      · go_wp2
        go_ret
        exact ⟨rfl, Below.refl _ _⟩
    · clear d1
      by_cases hT : (1048576 : Int) < T
      · go_wp2_with fail
        go_ret
        exact ⟨rfl, Below.refl _ _⟩
      have d1 : decide ((1048576 : Int) < T) = false := decide_eq_false hT
      go_wp2_with fail
      refine (frags_any a n cap fs w hl hn HN.out hr HO.out HF.out).mono ?_
      rintro e w1 ⟨a1, cap1, rfl, gs, hgs, hrd, hok, hb⟩
      have hgl : gs.length = n := by have := congrArg List.length hgs; rw [List.length_map, List.length_map] at this; omega
      have hI : FragsIn w1 a1 gs n := ⟨hgl, hrd, hok, by rw [cat_congr hgs]; exact hsum⟩
      clear hgs hrd hok HF HN HO hr hsum hn0 d1 hT hT0 hT1 hlt hj
      go_wp2_with fail
      go_loopw [5, 6, 7, 8] (fun l pc al i wr => ∃ k : Nat, ∃ a2 : Option Addr, ∃ cap2 A L : Nat, k ≤ n ∧ i = .int .i64 k ∧ l = .slice a2 L cap2 ∧ pc = .int .i64 cap2 ∧ al = .int .i64 A ∧ Hid ((cat gs k).length = L) ∧ LineInv w1 gs k a2 cap2 A wr) (fun _ _ _ i _ => n - (intOf i).toNat)
      case atStart => exact ⟨0, none, 0, 0, 0, Nat.zero_le _, rfl, rfl, rfl, rfl, (by rw [cat_zero]; rfl : (cat gs 0).length = 0), LineInv.start w1 gs⟩
      case round =>
        obtain ⟨k, a2, cap2, A, L, hk, rfl, rfl, rfl, rfl, hL, hV⟩ := hrel
        have HL := hL
        have hLb : L ≤ 1048576 := by have := cat_mono gs k n hk; have := hI.2.2.2; have := HL.out; omega
        have hV2 := hV.2.2.1
        have hV3 := hV.2.2.2.1
        rw [HL.out] at hV2
        by_cases hlt : k < n
        · obtain ⟨b, off, f0, c0, m, z0, rfl, hbl, hcell, hf0, hrf, hzm, ⟨hk', hgz⟩, hsum, hnext⟩ := hI.get hlt
          have hwr := hV.2.2.2.2
          have hcr := (hwr.cell (p := ⟨b, off + k, none⟩) hbl).trans hcell
          have hrr : Reads wr f0 (ints z0) := by
            rcases hrf with h | ⟨b', off', h1, h2⟩
            · exact .inl h
            · refine .inr ⟨b', off', h1, fun i hi => ?_⟩
              have hc := h2 i hi
              rw [List.getElem?_eq_getElem hi] at hc ⊢
              rw [hwr.cell (World.block_lt_of_cell? w1 _ hc)]
              exact hc
          have hLine := hV.1
          rw [HL.out] at hLine hsum hnext
          have HV := hide hV
          have HNx := hide hnext
          clear hV hnext hrf hwr hL
          go_wp2_with fail
          refine (zz_grow a2 L cap2 (cat gs k) f0 m c0 z0 wr hLine hzm hf0 hrr (by omega) (by omega)).mono ?_
          rintro e w2 ⟨a3, cap3, rfl, hL3, hG3⟩
          rw [← hgz] at hL3
          obtain ⟨S1, S2, S3⟩ := HV.out.step hk' HL.out (by rw [hgz]; exact hzm) hL3 hG3
          have hc2 := (S3.cell (p := ⟨b, off + k, none⟩) hbl).trans hcell
          clear hL3 hG3 hrr hLine hcr hcell HV hf0
          by_cases hroom : L + m ≤ cap2
          · obtain ⟨hcc, hV'⟩ := S1 hroom
            subst hcc
            have q1 : cap3 ≤ 2 * (L + m) := by omega
            clear S1 S2
            go_wp2
            go_roundw
            case rel => exact ⟨k + 1, a3, cap3, A, L + m, by omega, by go_num, rfl, rfl, rfl, HNx.out, hV'⟩
            case measure => simp [intOf]; omega
          · obtain ⟨hcc, hV'⟩ := S2 (by omega)
            have q1 : cap2 < cap3 := by omega
            have q2 : 2 * cap2 ≤ cap3 := by omega
            have q3 : cap3 ≤ 2 * (L + m) := by omega
            clear S1 S2 hcc
            go_wp2
            go_roundw
            case rel => exact ⟨k + 1, a3, cap3, A + cap3, L + m, by omega, by go_num, rfl, rfl, by go_num, HNx.out, hV'⟩
            case measure => simp [intOf]; omega
        · obtain rfl : k = n := by omega
          have hfin : (A : Int) ≤ 4 * (L : Int) := by omega
          have hrl : Reads wr a2 (ints (cat gs k)) := hV.1.reads
          have hw1 : Below w1.heap.size w1 wr := hV.2.2.2.2
          have hB : Below w.heap.size w wr := hb.trans (hw1.mono hb.size)
          have hI2 : FragsIn wr a1 gs k := ⟨hI.1, hI.2.1.below hw1, fun f hf => (hI.2.2.1 f hf).below hw1, hI.2.2.2⟩
          clear hV hV2 hV3 hw1 hI hb hL
          obtain ⟨w3, hw3⟩ : ∃ w3 : World, w3 = wr := ⟨_, rfl⟩
          subst hw3
          go_wp2_with fail
          go_loopw [10, 11] (fun p i wr => ∃ t q P : Nat, t ≤ k ∧ i = .int .i64 t ∧ p = .int .i64 P ∧ Hid ((cat gs t).length = P) ∧ wr = w3.drewN q) (fun _ i _ => k - (intOf i).toNat)
          case atStart => exact ⟨0, 0, 0, Nat.zero_le _, rfl, rfl, (by rw [cat_zero]; rfl : (cat gs 0).length = 0), rfl⟩
          case round =>
            obtain ⟨t, q, P, ht, rfl, rfl, HP, rfl⟩ := hrel
            by_cases hlt2 : t < k
            · obtain ⟨b, off, f0, c0, m, z0, rfl, hbl, hcell, hf0, hrf, hzm, ⟨hk', hgz⟩, hsum, hnext⟩ := hI2.get hlt2
              have hPb : P + m ≤ 1048576 := by have := HP.out; omega
              have HNx : Hid ((cat gs (t + 1)).length = P + m) := by have := HP.out; rw [this] at hnext; exact hnext
              have HZ : Hid (∀ j, j < m → (cat gs k).getD (P + j) 0 = z0.getD j 0 ∧ P + j < L) := by
                intro j hj
                obtain ⟨r, er⟩ := cat_prefix gs (t + 1) k (by omega)
                have h1 := HP.out
                have h2 := HL.out
                have h3 : (cat gs k).length = P + m + r.length := by rw [er, List.length_append, HNx.out]
                refine ⟨?_, by omega⟩
                rw [er, getD_fst _ _ _ (by rw [HNx.out]; omega), cat_succ gs t hk', getD_snd _ _ j P h1, hgz]
              clear hI2 hnext hsum hf0
              go_wp2_with fail
              go_loopw [10, 13] (fun p jv wr => ∃ j q : Nat, j ≤ m ∧ jv = .int .i64 j ∧ p = .int .i64 ((P : Int) + (j : Int)) ∧ wr = w3.drewN q) (fun _ jv _ => m - (intOf jv).toNat)
              case atStart => exact ⟨0, q, Nat.zero_le _, rfl, by simp, rfl⟩
              case round =>
                obtain ⟨j, q, hj, rfl, rfl, rfl⟩ := hrel
                by_cases hlt3 : j < m
                · obtain ⟨hz1, hz2⟩ := HZ.out j hlt3
                  obtain ⟨gf, of, rfl, hcf⟩ := hrf.byteAt (by omega)
                  obtain ⟨gl, ol, rfl, hcl⟩ := hrl.byteAt (by have := HL.out; omega)
                  have cf := hcf j (by omega)
                  have cl := hcl (P + j) (by have := HL.out; omega)
                  rw [hz1] at cl
                  obtain ⟨y, hy⟩ : ∃ y, y = z0.getD j 0 := ⟨_, rfl⟩
                  rw [← hy] at cl cf
                  have i1 : (j : Int) < (m : Int) := by omega
                  have i2 : (P : Int) + (j : Int) < (L : Int) := by omega
                  clear hcf hcl hrf hrl hz1 hy
                  go_wp2
                  go_quiet (fail)
                  go_wp2
                  go_roundw
                  case rel => exact ⟨j + 1, _, by omega, by go_num, by go_num, rfl⟩
                  case measure => simp [intOf]; omega
                · obtain rfl : j = m := by omega
                  clear hrf hrl
                  go_wp2
                  go_roundw
                  case rel => exact ⟨t + 1, q, P + j, by omega, by go_num, by go_num, HNx.out, rfl⟩
                  case measure => simp [intOf]; omega
            · obtain rfl : t = k := by omega
              obtain rfl : P = L := by have := HP.out; have := HL.out; omega
              clear hrl hI2
              go_wp2
              go_ret
              exact ⟨rfl, below_drewN hB _⟩
end Go.Proofs.Qxb6600584aMods
