/-
  Rows of rows of bytes: the bound on lengths (zzBytes_FnAppendDoublingScript) and appendLawCloneFrags.
-/
import Derived.Test.Qxb6600584aModsLine
namespace Go.Proofs.Qxb6600584aMods
open Go.RowKit

/-- One fragment: where it lies, its capacity, its bytes. -/
structure Frag where
  ad : Option Addr
  cp : Nat
  zs : List Int

/-- Its slice value. -/
def Frag.v (f : Frag) : Value := .slice f.ad f.zs.length f.cp
def fvals (fs : List Frag) : List Value := fs.map Frag.v
theorem fvals_length (fs : List Frag) : (fvals fs).length = fs.length := by simp [fvals]

/-- It can be read. -/
def Frag.Ok (w : World) (f : Frag) : Prop := (f.ad = none → f.zs.length = 0 ∧ f.cp = 0) ∧ Reads w f.ad (ints f.zs)

theorem Frag.Ok.below {w w' : World} {f : Frag} (h : f.Ok w) (hb : Below w.heap.size w w') : f.Ok w' := ⟨h.1, h.2.below hb⟩

/-- The bytes of the first k fragments. -/
def cat (fs : List Frag) (k : Nat) : List Int := ((fs.take k).map Frag.zs).flatten
theorem cat_zero (fs : List Frag) : cat fs 0 = [] := by simp [cat]
theorem cat_succ (fs : List Frag) (k : Nat) (h : k < fs.length) : cat fs (k + 1) = cat fs k ++ fs[k].zs := by
  unfold cat; rw [List.take_succ_eq_append_getElem h, List.map_append, List.flatten_append, List.map_cons, List.map_nil, List.flatten_cons, List.flatten_nil, List.append_nil]
theorem cat_len (fs : List Frag) (k : Nat) (h : k < fs.length) : (cat fs (k + 1)).length = (cat fs k).length + fs[k].zs.length := by rw [cat_succ fs k h, List.length_append]
theorem cat_prefix (fs : List Frag) (k n : Nat) (h : k ≤ n) : ∃ r, cat fs n = cat fs k ++ r := by
  unfold cat
  refine ⟨(((fs.take n).drop k).map Frag.zs).flatten, ?_⟩
  rw [← List.flatten_append, ← List.map_append]
  have e : fs.take k = (fs.take n).take k := by rw [List.take_take, Nat.min_eq_left h]
  rw [e, List.take_append_drop]
theorem cat_mono (fs : List Frag) (k n : Nat) (h : k ≤ n) : (cat fs k).length ≤ (cat fs n).length := by
  obtain ⟨r, e⟩ := cat_prefix fs k n h
  rw [e, List.length_append]; omega

theorem Reads.frag {w : World} {a : Option Addr} {fs : List Frag} (h : Reads w a (fvals fs)) (hp : 0 < fs.length) : ∃ b off, a = some ⟨b, off, none⟩ ∧ b < w.heap.size ∧ ∀ k (hk : k < fs.length), w.cell? ⟨b, off + k, none⟩ = some (.slice fs[k].ad fs[k].zs.length fs[k].cp) := by
  obtain ⟨b, off, h1, h3, h2⟩ := h.at (by rw [fvals_length]; exact hp)
  refine ⟨b, off, h1, h3, fun k hk => (h2 k (by rw [fvals_length]; exact hk)).trans ?_⟩
  simp [fvals, List.getElem?_map, List.getElem?_eq_getElem hk, Frag.v]

/-! ### zzBytes_FnAppendDoublingScript -/
def SaysF (fs : List Frag) (e : Ending) : Prop := ∃ z, e = .returned (.bool z) ∧ (z = true → fs.length ≤ 1048576 ∧ (cat fs fs.length).length ≤ 1048576)

theorem bytes21 (a : Option Addr) (n cap : Nat) (fs : List Frag) (w : World) (hl : fs.length = n) (hn : n ≤ 9223372036854775807) (hr : Reads w a (fvals fs)) :
    Calls Trym.prog 21 #[.slice a n cap] w fun e w' => SaysF fs e ∧ w' = w := by
  by_cases hn2 : n ≤ 1048576
  · go_enter Trym.func21, Trym.ntmps21
    go_wp2
    go_loop [3, 4] (fun t i => ∃ j : Nat, j ≤ n ∧ i = .int .i64 j ∧ t = .int .i64 ((n : Int) + ((cat fs j).length : Int)) ∧ (n : Int) + ((cat fs j).length : Int) ≤ 1048576) (fun _ i => n - (intOf i).toNat)
    case atStart => exact ⟨0, Nat.zero_le _, rfl, by rw [cat_zero]; simp, by rw [cat_zero]; simp; omega⟩
    case round =>
      obtain ⟨j, hj, rfl, rfl, hT1⟩ := hrel
      by_cases hlt : j < n
      · obtain ⟨b, off, rfl, _, hc⟩ := hr.frag (by omega)
        have hcj := hc j (by omega)
        have hcl := cat_len fs j (by omega)
        have HC : Hid _ := hcl
        obtain ⟨f, hf⟩ : ∃ f, f = fs[j] := ⟨_, rfl⟩
        rw [← hf] at hcj HC
        obtain ⟨L, hL⟩ : ∃ L, L = (cat fs j).length := ⟨_, rfl⟩
        rw [← hL] at hT1 HC ⊢
        obtain ⟨m, hm⟩ : ∃ m, m = f.zs.length := ⟨_, rfl⟩
        rw [← hm] at hcj HC
        clear hf hc hr hL hcl hm
        by_cases h1 : m ≤ 1048576
        · by_cases h2 : n + L + m ≤ 1048576
          · go_wp2
            go_round
            case rel => exact ⟨j + 1, by omega, by go_num, by rw [HC.out]; go_num, by rw [HC.out]; omega⟩
            case measure => simp [intOf]; omega
          · go_wp2
            go_ret
            exact ⟨⟨false, rfl, by simp⟩, rfl⟩
        · go_wp2
          go_ret
          exact ⟨⟨false, rfl, by simp⟩, rfl⟩
      · obtain rfl : j = n := by omega
        have R : fs.length ≤ 1048576 ∧ (cat fs fs.length).length ≤ 1048576 := by rw [hl]; omega
        go_wp2
        go_ret
        exact ⟨⟨true, rfl, fun _ => R⟩, rfl⟩
  · go_enter Trym.func21, Trym.ntmps21
    go_wp2
    go_ret
    exact ⟨⟨false, rfl, by simp⟩, rfl⟩

/-! ### appendLawCloneFrags -/
theorem mkF (n c : Nat) (hlc : n ≤ c) (h : c ≤ 1099511627776) (w : World) : (Instr.makeSlice 32 (.int .i64 (n : Int)) (.int .i64 (c : Int))).run Trym.prog w = .ok (.slice (some ⟨w.heap.size, 0, none⟩) n c) (w.alloc (.cells (zrow (.slice none 0 0) c).toArray 28)) :=
  make_run Trym.underlying32 info28 rfl n c hlc (by omega) (by omega) w

/-- The fragments made so far: each can be read, none lies in block G. -/
def Gs (G : Nat) (w : World) (gs : List Frag) : Prop := ∀ f ∈ gs, f.Ok w ∧ ∀ x, f.ad = some x → x.block ≠ G

theorem Reads.set {w : World} {a : Option Addr} {vs : List Value} (h : Reads w a vs) {p : Addr} (hne : ∀ x, a = some x → x.block ≠ p.block) (v : Value) : Reads (w.setCell p v) a vs := by
  rcases h with h | ⟨b, off, h1, h2⟩
  · exact .inl h
  · refine .inr ⟨b, off, h1, fun i hi => ?_⟩
    rw [World.cell?_setCell_other _ _ _ _ (by intro e; exact hne _ h1 (by rw [e])), h2 i hi]

theorem Gs.below {G : Nat} {w w' : World} {gs : List Frag} (h : Gs G w gs) (hb : Below w.heap.size w w') : Gs G w' gs := fun f hf => ⟨(h f hf).1.below hb, (h f hf).2⟩
theorem Gs.set {G k : Nat} {w : World} {gs : List Frag} (h : Gs G w gs) (v : Value) : Gs G (w.setCell ⟨G, k, none⟩ v) gs := fun f hf => ⟨⟨(h f hf).1.1, (h f hf).1.2.set (h f hf).2 v⟩, (h f hf).2⟩
theorem Gs.snoc {G : Nat} {w : World} {gs : List Frag} (h : Gs G w gs) {f : Frag} (hf : f.Ok w) (hx : ∀ x, f.ad = some x → x.block ≠ G) : Gs G w (gs ++ [f]) := by
  intro g hg
  rcases List.mem_append.1 hg with hg | hg
  · exact h g hg
  · rw [List.mem_singleton] at hg; subst hg; exact ⟨hf, hx⟩

/-- The row behind k rounds: the fragments made so far, then nil. -/
def fmix (gs : List Frag) (n : Nat) : List Value := fvals gs ++ List.replicate (n - gs.length) (.slice none 0 0)
theorem fmix_length (gs : List Frag) (n : Nat) (h : gs.length ≤ n) : (fmix gs n).length = n := by simp [fmix, fvals_length]; omega
theorem fmix_set (gs : List Frag) (n k : Nat) (hk : gs.length = k) (h : k < n) (f : Frag) : (fmix gs n).set k f.v = fmix (gs ++ [f]) n := by
  subst hk
  have e : n - gs.length = (n - (gs ++ [f]).length) + 1 := by simp; omega
  unfold fmix
  rw [List.set_append_right _ _ (by rw [fvals_length]; omega), fvals_length, Nat.sub_self, e, List.replicate_succ, List.set_cons_zero]
  simp [fvals]
theorem fmix_zero (n : Nat) : fmix [] n = zrow (.slice none 0 0) n := by simp [fmix, zrow, fvals]
theorem fmix_all (gs : List Frag) (n : Nat) (h : gs.length = n) : fmix gs n = fvals gs := by simp [fmix, h]

/-- The state of the copying loop behind k rounds. -/
def Copied (w : World) (fs : List Frag) (n k : Nat) (wr : World) : Prop :=
  ∃ gs : List Frag, gs.length = k ∧ gs.map Frag.zs = (fs.map Frag.zs).take k ∧ Gs w.heap.size wr gs ∧ Blk wr w.heap.size 28 (fmix gs n) ∧ Below w.heap.size w wr

theorem Copied.start (w : World) (fs : List Frag) (n : Nat) : Copied w fs n 0 (w.alloc (.cells (zrow (.slice none 0 0) n).toArray 28)) :=
  ⟨[], rfl, by simp, (fun f hf => by cases hf), by rw [fmix_zero]; exact Blk.new _ _ _, (Below.refl _ _).alloc (Nat.le_refl _) _⟩

theorem Copied.step {w : World} {fs : List Frag} {n k : Nat} {wr w2 : World} (h : Copied w fs n k wr) (hk : k < fs.length) (hkn : k < n) {a' : Option Addr} {cap' m : Nat} (hm : fs[k].zs.length = m) (hM : Made w2 wr.heap.size 5 a' m cap' (ints fs[k].zs)) (hb : Below wr.heap.size wr w2) :
    Copied w fs n (k + 1) (w2.setCell ⟨w.heap.size, k, none⟩ (.slice a' m cap')) := by
  obtain ⟨gs, h1, h2, h3, h4, h5⟩ := h
  have hlt := h4.lt
  have hv : (.slice a' m cap' : Value) = Frag.v ⟨a', cap', fs[k].zs⟩ := by simp [Frag.v, hm]
  have hB2 : Blk w2 w.heap.size 28 (fmix gs n) := h4.below hb hlt
  have hne : ∀ x, a' = some x → x.block ≠ w.heap.size := by
    intro x hx
    rcases hM.2 with ⟨h, _⟩ | ⟨h, _⟩
    · rw [h] at hx; cases hx
    · rw [h] at hx; cases hx; show wr.heap.size ≠ w.heap.size; omega
  have hok : Frag.Ok w2 ⟨a', cap', fs[k].zs⟩ := by
    refine ⟨?_, hM.reads⟩
    intro hx
    rcases hM.2 with ⟨_, h, h'⟩ | ⟨h, _⟩
    · exact ⟨by rw [hm]; exact h, h'⟩
    · have hx : a' = none := hx
      rw [hx] at h; cases h
  refine ⟨gs ++ [⟨a', cap', fs[k].zs⟩], by simp [h1], ?_, ((h3.below hb).snoc hok hne).set _, ?_, (h5.trans (hb.mono (Nat.le_of_lt hlt))).setCell (Nat.le_refl _) _⟩
  · rw [List.map_append, h2, List.take_succ_eq_append_getElem (by simpa using hk)]
    simp
  · have := hB2.set k (.slice a' m cap')
    rw [hv] at this ⊢
    rw [fmix_set gs n k h1 hkn] at this
    exact this

theorem Copied.slot {w : World} {fs : List Frag} {n k : Nat} {wr w2 : World} (h : Copied w fs n k wr) (hkn : k < n) (hb : Below wr.heap.size wr w2) : (∃ v, w2.cell? ⟨w.heap.size, k, none⟩ = some v) ∧ w2.frozen? ⟨w.heap.size, k, none⟩ = false := by
  obtain ⟨gs, h1, h2, h3, h4, h5⟩ := h
  have hB2 : Blk w2 w.heap.size 28 (fmix gs n) := h4.below hb h4.lt
  exact ⟨⟨_, (hB2.cell k).trans (List.getElem?_eq_getElem (by rw [fmix_length _ _ (by omega)]; omega))⟩, hB2.frozen k⟩

/-- What the call leaves. -/
def FragsMade (w : World) (fs : List Frag) (a' : Option Addr) (w' : World) : Prop :=
  ∃ gs : List Frag, gs.map Frag.zs = fs.map Frag.zs ∧ Reads w' a' (fvals gs) ∧ (∀ f ∈ gs, f.Ok w') ∧ Below w.heap.size w w'

theorem Copied.fin {w : World} {fs : List Frag} {n : Nat} {wr : World} (hl : fs.length = n) (h : Copied w fs n n wr) : FragsMade w fs (some ⟨w.heap.size, 0, none⟩) wr := by
  obtain ⟨gs, h1, h2, h3, h4, h5⟩ := h
  refine ⟨gs, ?_, ?_, fun f hf => (h3 f hf).1, h5⟩
  · rw [h2, List.take_of_length_le (by simp; omega)]
  · rw [fmix_all _ _ h1] at h4
    exact .inr ⟨_, 0, rfl, fun i hi => by rw [Nat.zero_add]; exact h4.cell i⟩

theorem frags_some (x : Addr) (n cap : Nat) (fs : List Frag) (w : World) (hl : fs.length = n) (hm : n ≤ 1048576) (hr : Reads w (some x) (fvals fs)) (hf : ∀ f ∈ fs, f.Ok w) (hz : ∀ k (hk : k < fs.length), fs[k].zs.length ≤ 1048576) :
    Calls Trym.prog 22 #[.slice (some x) n cap] w fun e w' => e = .returned (.slice (some ⟨w.heap.size, 0, none⟩) n n) ∧ FragsMade w fs (some ⟨w.heap.size, 0, none⟩) w' := by
  have heq := fun w => Lib.run_eql_slice_nil (P := Trym.prog) w 32 28 (some x) n cap 0 0 Trym.underlying32
  have hmk := mkF n n (Nat.le_refl _) (by omega)
  go_enter Trym.func22, Trym.ntmps22
  go_wp2
  go_loopw [4] (fun i wr => ∃ k : Nat, k ≤ n ∧ i = .int .i64 k ∧ Copied w fs n k wr) (fun i _ => n - (intOf i).toNat)
  case atStart => exact ⟨0, Nat.zero_le _, rfl, Copied.start w fs n⟩
  case round =>
    obtain ⟨k, hk, rfl, hC⟩ := hrel
    by_cases hlt : k < n
    · obtain ⟨b, off, hx, hb, hc⟩ := hr.frag (by omega)
      obtain rfl := Option.some.inj hx
      have hbel : Below w.heap.size w wr := by obtain ⟨_, _, _, _, _, h⟩ := hC; exact h
      have hsrc := (hbel.cell (p := ⟨b, off + k, none⟩) hb).trans (hc k (by omega))
      have hfo := hf fs[k] (List.getElem_mem _)
      have hok : Frag.Ok wr fs[k] := hfo.below hbel
      have hzk := hz k (by omega)
      obtain ⟨m, hm'⟩ : ∃ m, fs[k].zs.length = m := ⟨_, rfl⟩
      obtain ⟨a0, ha0⟩ : ∃ a0, fs[k].ad = a0 := ⟨_, rfl⟩
      obtain ⟨c0, hc0⟩ : ∃ c0, fs[k].cp = c0 := ⟨_, rfl⟩
      obtain ⟨z0, hz0⟩ : ∃ z0, fs[k].zs = z0 := ⟨_, rfl⟩
      have hn0 := hok.1
      have hr0 := hok.2
      have HS : Hid (∀ (w2 : World) (a' : Option Addr) (cap' : Nat), Made w2 wr.heap.size 5 a' m cap' (ints z0) → Below wr.heap.size wr w2 → Copied w fs n (k + 1) (w2.setCell ⟨w.heap.size, k, none⟩ (.slice a' m cap'))) := by
        intro w2 a' cap' h1 h2
        rw [← hz0] at h1
        exact hC.step (by omega) hlt hm' h1 h2
      have HT : Hid (∀ (w2 : World), Below wr.heap.size wr w2 → (∃ v, w2.cell? ⟨w.heap.size, k, none⟩ = some v) ∧ w2.frozen? ⟨w.heap.size, k, none⟩ = false) := fun w2 h2 => hC.slot hlt h2
      rw [hm', ha0, hc0] at hsrc hn0
      rw [ha0, hz0] at hr0
      rw [hz0] at hm'
      rw [hz0, hm'] at hzk
      clear hc hfo hok hx heq hmk hf hr hz ha0 hc0 hz0 hbel hC
      go_wp2_with fail
      refine (clone_any a0 m c0 z0 wr hm' hzk hn0 hr0).mono ?_
      rintro e w2 ⟨a', cap', rfl, hM, hb2⟩
      obtain ⟨⟨v, hdst⟩, hfr⟩ := HT.out w2 hb2
      have R := HS.out w2 a' cap' hM hb2
      clear hM hb2 HS HT hsrc hn0 hr0
      go_wp2
      go_roundw
      case rel => exact ⟨k + 1, by omega, by go_num, R⟩
      case measure => simp [intOf]; omega
    · obtain rfl : k = n := by omega
      have R := hC.fin hl
      clear hC
      go_wp2
      go_ret
      exact ⟨rfl, R⟩

theorem frags_nil (w : World) : Calls Trym.prog 22 #[.slice none 0 0] w fun e w' => e = .returned (.slice none 0 0) ∧ w' = w := by
  have heq := fun w => Lib.run_eql_slice_nil (P := Trym.prog) w 32 28 none 0 0 0 0 Trym.underlying32
  go_enter Trym.func22, Trym.ntmps22
  go_wp2
  go_ret
  exact ⟨rfl, rfl⟩

theorem frags_any (a : Option Addr) (n cap : Nat) (fs : List Frag) (w : World) (hl : fs.length = n) (hm : n ≤ 1048576) (hn : a = none → n = 0 ∧ cap = 0) (hr : Reads w a (fvals fs)) (hf : ∀ f ∈ fs, f.Ok w) (hz : ∀ k (hk : k < fs.length), fs[k].zs.length ≤ 1048576) :
    Calls Trym.prog 22 #[.slice a n cap] w fun e w' => ∃ a' cap', e = .returned (.slice a' n cap') ∧ FragsMade w fs a' w' := by
  cases a with
  | none =>
    obtain ⟨h0, rfl⟩ := hn rfl
    rw [h0] at hl ⊢
    obtain rfl : fs = [] := List.eq_nil_of_length_eq_zero hl
    refine (frags_nil w).mono fun e w' ⟨he, hw⟩ => ?_
    subst hw
    exact ⟨none, 0, he, [], rfl, .inl rfl, (fun f hf => by cases hf), Below.refl _ _⟩
  | some x =>
    refine (frags_some x n cap fs w hl hm hr hf hz).mono fun e w' ⟨he, h⟩ => ?_
    exact ⟨_, _, he, h⟩

end Go.Proofs.Qxb6600584aMods
