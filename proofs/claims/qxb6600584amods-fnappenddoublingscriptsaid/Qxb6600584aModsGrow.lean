/-
  appendDoubling: what it leaves. Two run equations (copy, append within the capacity), then the walks.
-/
import Derived.Test.Qxb6600584aModsClone
import Derived.Laws.CopyOwn
namespace Go.Proofs.Qxb6600584aMods
open Go.RowKit

theorem one_ints (zs : List Int) : ∀ v ∈ ints zs, v.oneCell' = true := by
  intro u hu
  obtain ⟨_, _, rfl⟩ := List.mem_map.1 hu
  rfl

theorem grown_setRow (w : World) (g : Nat) (cs : Array Value) : w.grownBy (w.setRow g cs) (some g) :=
  ⟨rfl, rfl, rfl, by simp, fun k _ hk => setRow_other w g k _ (fun e => hk (by simp [e]))⟩

theorem size5 : (Trym.prog.info? 5).map (·.size) = some 1 := by kernel_rfl

theorem reads_cells {w : World} {ad : Addr} {vs : List Value} (h : Reads w (some ad) vs) : ∀ j v, vs[j]? = some v → w.cell? (ad.add j) = some v := by
  intro j v hv
  have hj : j < vs.length := (List.getElem?_eq_some_iff.1 hv).1
  obtain ⟨b, off, hx, _, hc⟩ := h.at (by omega)
  obtain rfl := Option.some.inj hx
  rw [Addr.add_lit, hc j hj]; exact hv

/-- 'copy(dst, src)', dst the head of a row of the call's own, src no longer than dst. -/
theorem copy_run (w : World) (g n C : Nat) (zs : List Value) (hB : Blk w g 5 zs) (b : Option Addr) (m c : Nat) (ys : List Int) (hy : ys.length = m) (hbn : b = none → m = 0) (hr : Reads w b (ints ys)) (hmn : m ≤ n) (hfit : m ≤ zs.length) :
    ∃ w', (Builtin.copy_ #[28, 28] 3 #[.slice (some ⟨g, 0, none⟩) n C, .slice b m c]).run Trym.prog w = .ok (goInt m) w' ∧ Blk w' g 5 (ints ys ++ zs.drop m) ∧ w.grownBy w' (some g) ∧ w'.heap.size = w.heap.size := by
  by_cases h0 : m = 0
  · subst h0
    refine ⟨w, ?_, ?_, World.grownBy.refl _ _, rfl⟩
    · have := run_copy_none (P := Trym.prog) w 28 28 3 5 (some ⟨g, 0, none⟩) b n C 0 c Trym.underlying28 size5 (by simp)
      exact this
    · have : ys = [] := List.eq_nil_of_length_eq_zero hy
      subst this; simpa [ints] using hB
  · obtain ⟨ad, rfl⟩ : ∃ ad, b = some ad := by
      cases b with
      | none => exact absurd (hbn rfl) h0
      | some ad => exact ⟨ad, rfl⟩
    have hlen : (ints ys).length = m := by rw [ints_length, hy]
    have := run_copy_row (P := Trym.prog) w 28 28 3 5 g 0 n C ad m c zs.toArray 5 (ints ys) Trym.underlying28 size5 hB (by rw [hlen]; exact (Nat.min_eq_left hmn).symm) (reads_cells hr) (by simp [hlen, hfit]) (one_ints ys)
    rw [hlen] at this
    refine ⟨_, this, ?_, grown_setRow _ _ _, by simp⟩
    have h2 := setRow_heap w g zs.toArray (List.take 0 zs.toArray.toList ++ ints ys ++ List.drop (0 + m) zs.toArray.toList).toArray 5 (0, 0) hB
    simpa [Blk] using h2

/-- 'append(line, fragment...)' within the capacity. -/
theorem append_run (w : World) (g n cap : Nat) (xs : List Int) (sp : List Value) (hx : xs.length = n) (hsp : n + sp.length = cap) (hB : Blk w g 5 (ints xs ++ sp)) (b : Option Addr) (m c : Nat) (ys : List Int) (hy : ys.length = m) (hbn : b = none → m = 0 ∧ c = 0) (hr : Reads w b (ints ys)) (hroom : n + m ≤ cap) :
    ∃ w', (Builtin.append_ #[28, 28] 28 #[.slice (some ⟨g, 0, none⟩) n cap, .slice b m c]).run Trym.prog w = .ok (.slice (some ⟨g, 0, none⟩) (n + m) cap) w' ∧ Blk w' g 5 (ints (xs ++ ys) ++ sp.drop m) ∧ w.grownBy w' (some g) ∧ w'.heap.size = w.heap.size := by
  obtain ⟨i, h1, h2, h3, h4⟩ := info_parts info5
  have hxl : (ints xs).length = n := by rw [ints_length, hx]
  have hlen : (ints ys).length = m := by rw [ints_length, hy]
  cases b with
  | none =>
    obtain ⟨rfl, rfl⟩ := hbn rfl
    have hys : ys = [] := List.eq_nil_of_length_eq_zero hy
    subst hys
    refine ⟨w, ?_, by simpa using hB, World.grownBy.refl _ _, rfl⟩
    simp [Builtin.append_, run_underlying Trym.underlying28, sizeOf, typeInfo, h1, Builtin.lenOf, Builtin.firstCells, show n ≤ cap by omega, storeCells]
  | some ad =>
    have := run_append_room (P := Trym.prog) w 28 28 5 i Trym.underlying28 h1 g n cap (ints xs ++ sp).toArray hB ad m c (ints ys) (by rw [hlen, h3, Nat.mul_one]) (reads_cells hr) (one_ints ys) hroom (by rw [h3, hlen]; simp [hxl]; omega)
    refine ⟨_, this, ?_, grown_setRow _ _ _, by simp⟩
    have h2 := setRow_heap w g (ints xs ++ sp).toArray (List.take (n * i.size) (ints xs ++ sp).toArray.toList ++ ints ys ++ List.drop (n * i.size + (ints ys).length) (ints xs ++ sp).toArray.toList).toArray 5 (0, 0) hB
    rw [h3, hlen, Nat.mul_one] at h2
    have e1 : List.take n (ints xs ++ sp) = ints xs := by rw [← hxl]; exact List.take_left
    have e2 : List.drop (n + m) (ints xs ++ sp) = sp.drop m := by rw [List.drop_append, List.drop_eq_nil_of_le (by omega), hxl, Nat.add_sub_cancel_left]; rfl
    unfold Blk
    rw [h3, hlen, Nat.mul_one, h2]
    simp only [e1, e2]
    simp [ints]

/-- 'append(nil, fragment...)', the fragment empty. -/
theorem append_nil_run (w : World) (b : Option Addr) (c : Nat) :
    (Builtin.append_ #[28, 28] 28 #[.slice none 0 0, .slice b 0 c]).run Trym.prog w = .ok (.slice none 0 0) w := by
  obtain ⟨i, h1, h2, h3, h4⟩ := info_parts info5
  have hl : ∀ (x : Addr), (loadCells x 0).run Trym.prog w = .ok #[] w := fun x => by simpa using run_loadCells_list (P := Trym.prog) w x [] (by simp)
  cases b <;> simp [Builtin.append_, run_underlying Trym.underlying28, sizeOf, typeInfo, h1, Builtin.lenOf, Builtin.firstCells, hl]

/-- The walk steps over an append, a copy, by its run equation. -/
theorem wpList_append_eq {P : Program} {w w' : World} {ops : Array Oper} {rest : List Oper} {o : Oper} {a : Act} {Q : Exit → Act → World → Prop}
    (hg : o.guard = none) (s x : Operand) (t : TypeId) (hop : o.op = Op.call { callee := Callee.builtin Builtin.append, args := #[s, x], argTypes := #[t, t] })
    {v1 v2 v : Value} (hrun : (Builtin.append_ #[t, t] o.type #[v1, v2]).run P w = .ok v w') (hs : a.eval s = v1) (hx : a.eval x = v2) (hK : wpList P ops Q rest (a.put o.dst v) w') : wpList P ops Q (o :: rest) a w := by
  refine wpList_plain hg fun K hK' => ?_
  unfold Oper.wp
  simp [execOp, hop, resolve, invoke, builtin, hs, hx, hrun, Result.andThen]
  exact hK' _ _ hK
theorem wpList_copy_eq {P : Program} {w w' : World} {ops : Array Oper} {rest : List Oper} {o : Oper} {a : Act} {Q : Exit → Act → World → Prop}
    (hg : o.guard = none) (s x : Operand) (t : TypeId) (hop : o.op = Op.call { callee := Callee.builtin Builtin.copy, args := #[s, x], argTypes := #[t, t] })
    {v1 v2 v : Value} (hrun : (Builtin.copy_ #[t, t] o.type #[v1, v2]).run P w = .ok v w') (hs : a.eval s = v1) (hx : a.eval x = v2) (hK : wpList P ops Q rest (a.put o.dst v) w') : wpList P ops Q (o :: rest) a w := by
  refine wpList_plain hg fun K hK' => ?_
  unfold Oper.wp
  simp [execOp, hop, resolve, invoke, builtin, hs, hx, hrun, Result.andThen]
  exact hK' _ _ hK

/-- A line that the call itself made: nil, or the head of a block: xs, then the spare room. -/
def Line (w : World) (a : Option Addr) (n cap : Nat) (xs : List Int) : Prop :=
  xs.length = n ∧ ((a = none ∧ n = 0 ∧ cap = 0) ∨ ∃ g sp, a = some ⟨g, 0, none⟩ ∧ n + sp.length = cap ∧ Blk w g 5 (ints xs ++ sp))

/-- There is room. -/
theorem grow_room (g n cap : Nat) (xs : List Int) (sp : List Value) (b : Option Addr) (m c : Nat) (ys : List Int) (w : World) (hx : xs.length = n) (hsp : n + sp.length = cap) (hB : Blk w g 5 (ints xs ++ sp))
    (hy : ys.length = m) (hbn : b = none → m = 0 ∧ c = 0) (hr : Reads w b (ints ys)) (hroom : n + m ≤ cap) (hcap : cap ≤ 4194304) :
    Calls Trym.prog 26 #[.slice (some ⟨g, 0, none⟩) n cap, .slice b m c] w fun e w' => e = .returned (.slice (some ⟨g, 0, none⟩) (n + m) cap) ∧ Blk w' g 5 (ints (xs ++ ys) ++ sp.drop m) ∧ w.grownBy w' (some g) ∧ w'.heap.size = w.heap.size := by
  obtain ⟨w1, hrun, R⟩ := append_run w g n cap xs sp hx hsp hB b m c ys hy hbn hr hroom
  have H : Hid _ := hrun
  clear hbn hx hsp hy hrun
  go_enter Trym.func26, Trym.ntmps26
  go_wp2_with (at_builtin; refine wpList_append_eq rfl _ _ 28 rfl H.out rfl rfl ?_)
  go_ret
  exact ⟨rfl, R⟩

/-- Nothing to nothing. -/
theorem grow_nil (b : Option Addr) (c : Nat) (w : World) :
    Calls Trym.prog 26 #[.slice none 0 0, .slice b 0 c] w fun e w' => e = .returned (.slice none 0 0) ∧ w' = w := by
  have H : Hid _ := append_nil_run w b c
  go_enter Trym.func26, Trym.ntmps26
  go_wp2_with (at_builtin; refine wpList_append_eq rfl _ _ 28 rfl H.out rfl rfl ?_)
  go_ret
  exact ⟨rfl, rfl⟩

/-- There is no room: a new row, at least twice as large. -/
theorem grow_more (a : Option Addr) (n cap : Nat) (xs : List Int) (b : Option Addr) (m c : Nat) (ys : List Int) (w : World) (hx : xs.length = n) (han : a = none → n = 0) (hra : Reads w a (ints xs))
    (hy : ys.length = m) (hbn : b = none → m = 0 ∧ c = 0) (hr : Reads w b (ints ys)) (hroom : cap < n + m) (hnm : n + m ≤ 4194304) (C : Nat) (hC : C = max (2 * cap) (n + m)) :
    Calls Trym.prog 26 #[.slice a n cap, .slice b m c] w fun e w' => e = .returned (.slice (some ⟨w.heap.size, 0, none⟩) (n + m) C) ∧ (∃ sp, n + m + sp.length = C ∧ Blk w' w.heap.size 5 (ints (xs ++ ys) ++ sp)) ∧ Below w.heap.size w w' := by
  have hCn : n + m ≤ C := by omega
  have hC2 : C ≤ 8388608 := by omega
  have hmk := mkB n C (by omega) (by omega)
  have b1 : Below w.heap.size w (w.alloc (.cells (zrow (.int .u8 0) C).toArray 5)) := (Below.refl _ _).alloc (Nat.le_refl _) _
  obtain ⟨w2, hcp, hB2, hg2, hs2⟩ := copy_run (w.alloc (.cells (zrow (.int .u8 0) C).toArray 5)) w.heap.size n C _ (Blk.new w 5 (zrow (.int .u8 0) C)) a n cap xs hx han (hra.below b1) (Nat.le_refl _) (by rw [zrow_length]; omega)
  have b2 : Below w.heap.size w w2 := b1.grown hg2 (by simp) (by intro k hk; simp at hk; omega)
  have hdl : ((zrow (.int .u8 0) C).drop n).length = C - n := by rw [List.length_drop, zrow_length]
  obtain ⟨w3, hap, hB3, hg3, hs3⟩ := append_run w2 w.heap.size n C xs ((zrow (.int .u8 0) C).drop n) hx (by omega) hB2 b m c ys hy hbn (hr.below b2) hCn
  have b3 : Below w.heap.size w w3 := b2.grown hg3 (by rw [hs2]; simp) (by intro k hk; simp at hk; omega)
  have R : ∃ sp, n + m + sp.length = C ∧ Blk w3 w.heap.size 5 (ints (xs ++ ys) ++ sp) := ⟨_, by rw [List.length_drop, hdl]; omega, hB3⟩
  have H1 : Hid _ := hcp
  have H2 : Hid _ := hap
  clear hcp hap hs3 hB3 hg3 hdl hs2 hg2 hB2 b1 b2 hbn han hx hy
  by_cases h2 : n + m ≤ 2 * cap
  · have e : (C : Int) = 2 * (cap : Int) := by omega
    rw [e] at hmk
    clear e hC
    go_enter Trym.func26, Trym.ntmps26
    go_wp2_with (first | (at_builtin; refine wpList_append_eq rfl _ _ 28 rfl H2.out rfl rfl ?_) | (refine wpList_copy_eq rfl (.tmp 26) (.tmp 27) 28 rfl H1.out rfl rfl ?_))
    go_ret
    exact ⟨rfl, R, b3⟩
  · have e : (C : Int) = (n : Int) + (m : Int) := by omega
    rw [e] at hmk
    clear e hC
    go_enter Trym.func26, Trym.ntmps26
    go_wp2_with (first | (at_builtin; refine wpList_append_eq rfl _ _ 28 rfl H2.out rfl rfl ?_) | (refine wpList_copy_eq rfl (.tmp 26) (.tmp 27) 28 rfl H1.out rfl rfl ?_))
    go_ret
    exact ⟨rfl, R, b3⟩

end Go.Proofs.Qxb6600584aMods
