/-
  'Rows.FnAppendDoublingContentsSaid', proved. The frame is the guide's own shell; the walk stands in Qxb6600584aModsContents.
-/
import Derived.Test.Qxb6600584aModsContents
import Derived.WalkKit
import Derived.ProofKit
import Derived.OpenShut
import Derived.ShutString
import Derived.ChangeOld
import Derived.Below
namespace Go.Proofs.Qxb6600584aMods.fnAppendDoublingContents
open Go.ChangeShapes Go.WideShapes Go.ChangeAt Go.RowKit
open Go.ChangeMaps (open_string shut_string)
set_option linter.unusedVariables false

theorem own : ownKnob Trym.prog.godebug = none := by kernel_rfl
theorem laidOut : laidOutB Trym.prog = true := by kernel_rfl

/-- WHAT THE WALK IS TOLD OF A SLICE OF INTEGERS THAT CAME IN: it is nil; or it leads to a row of 'cap' cells, the numbers 'zs' (the first 'len' are its elements, the rest its spare room), each fitting its kind. -/
def IsRow (k : IntKind) (w : World) (a : Option Addr) (len cap : Nat) (zs : List Int) : Prop :=
  (a = none ∧ len = 0 ∧ cap = 0 ∧ zs = []) ∨
  ∃ x, a = some x ∧ len ≤ cap ∧ cap ≤ maxLen ∧ zs.length = cap ∧ (∀ i, i < zs.length → w.cell? (x.add i) = some (.int k (zs.getD i 0))) ∧ ∀ n ∈ zs, (Lit.int k n).wf = true

/-- From what the frame tells of a slice to what the walk takes. -/
theorem row_reads {w : World} {a : Option Addr} {len cap : Nat} {zs : List Int} (h : IsRow .u8 w a len cap zs) :
    (zs.take len).length = len ∧ (a = none → len = 0 ∧ cap = 0) ∧ Reads w a (ints (zs.take len)) ∧ len ≤ 9223372036854775807 := by
  rcases h with ⟨rfl, rfl, rfl, rfl⟩ | ⟨x, rfl, h1, h2, h3, h4, _⟩
  · exact ⟨rfl, fun _ => ⟨rfl, rfl⟩, .inl rfl, by omega⟩
  · have hl : (zs.take len).length = len := by rw [List.length_take]; omega
    refine ⟨hl, (by intro h; cases h), ?_, by unfold maxLen at h2; omega⟩
    by_cases h0 : len = 0
    · subst h0; exact .inl rfl
    · obtain ⟨b, off, spot⟩ := x
      have hspot : spot = none := by simpa [Addr.add] using World.cell?_spot (h4 0 (by omega))
      subst hspot
      refine .inr ⟨b, off, rfl, fun i hi => ?_⟩
      rw [ints_length, hl] at hi
      have := h4 i (by omega)
      rw [Addr.add_lit] at this
      rw [this, ints_at _ i (by omega)]
      simp [List.getD, hi]

/-- The bound on lengths says no. -/
theorem walk_long (a0 : Option Addr) (len0 cap0 : Nat) (a1 : Int) (a2 : Option Addr) (len2 cap2 : Nat) (w : World) (h0 : len0 ≤ 9223372036854775807) (h2 : len2 ≤ 9223372036854775807) (h : ¬ len0 + len2 ≤ 1048576) :
    Calls Trym.prog 7 #[.slice a0 len0 cap0, .int .i64 a1, .slice a2 len2 cap2] w fun e w' => e = .returned (.bool true) ∧ Below w.heap.size w w' := by
  have hd : decide (len0 + len2 ≤ 1048576) = false := by simp only [decide_eq_false_iff_not]; exact h
  go_enter Trym.func7, Trym.ntmps7
  go_wp2_with fail
  refine (bytes_contents a0 len0 cap0 a1 a2 len2 cap2 w h0 h2).mono ?_
  rintro e w' ⟨rfl, rfl⟩
  rw [hd]
  go_wp2
  go_ret
  exact ⟨rfl, Below.refl _ _⟩

/-- The law's own bounds say no. -/
theorem walk_out (a0 : Option Addr) (len0 cap0 : Nat) (a1 : Int) (a2 : Option Addr) (len2 cap2 : Nat) (w : World) (h : len0 + len2 ≤ 1048576) (ho : 524288 < len0 ∨ 524288 < len2 ∨ a1 < 0 ∨ 65536 < a1) :
    Calls Trym.prog 7 #[.slice a0 len0 cap0, .int .i64 a1, .slice a2 len2 cap2] w fun e w' => e = .returned (.bool true) ∧ Below w.heap.size w w' := by
  have hd : decide (len0 + len2 ≤ 1048576) = true := by simp [h]
  by_cases h1 : (524288 : Int) < (len0 : Int)
  · go_enter Trym.func7, Trym.ntmps7
    go_wp2_with fail
    refine (bytes_contents a0 len0 cap0 a1 a2 len2 cap2 w (by omega) (by omega)).mono ?_
    rintro e w' ⟨rfl, rfl⟩
    rw [hd]
    go_wp2_with fail
    go_ret
    exact ⟨rfl, Below.refl _ _⟩
  have d1 : decide ((524288 : Int) < (len0 : Int)) = false := decide_eq_false h1
  by_cases h2 : (524288 : Int) < (len2 : Int)
  · go_enter Trym.func7, Trym.ntmps7
    go_wp2_with fail
    refine (bytes_contents a0 len0 cap0 a1 a2 len2 cap2 w (by omega) (by omega)).mono ?_
    rintro e w' ⟨rfl, rfl⟩
    rw [hd]
    go_wp2_with fail
    go_ret
    exact ⟨rfl, Below.refl _ _⟩
  have d2 : decide ((524288 : Int) < (len2 : Int)) = false := decide_eq_false h2
  by_cases h3 : a1 < 0
  · go_enter Trym.func7, Trym.ntmps7
    go_wp2_with fail
    refine (bytes_contents a0 len0 cap0 a1 a2 len2 cap2 w (by omega) (by omega)).mono ?_
    rintro e w' ⟨rfl, rfl⟩
    rw [hd]
    go_wp2_with fail
    go_ret
    exact ⟨rfl, Below.refl _ _⟩
  have d3 : decide (a1 < 0) = false := decide_eq_false h3
  have h4 : 65536 < a1 := by omega
  go_enter Trym.func7, Trym.ntmps7
  go_wp2_with fail
  refine (bytes_contents a0 len0 cap0 a1 a2 len2 cap2 w (by omega) (by omega)).mono ?_
  rintro e w' ⟨rfl, rfl⟩
  rw [hd]
  go_wp2_with fail
  go_ret
  exact ⟨rfl, Below.refl _ _⟩

/-! ### STEP 1: THE WALK -/
theorem walk (a0 : Option Addr) (len0 cap0 : Nat) (z0 : List Int) (a1 : Int) (a2 : Option Addr) (len2 cap2 : Nat) (z2 : List Int) (w : World) (w0 : IsRow .u8 w a0 len0 cap0 z0) (w1 : (Lit.int .i64 a1).wf = true) (w2 : IsRow .u8 w a2 len2 cap2 z2) :
    Calls Trym.prog 7 #[.slice a0 len0 cap0, .int .i64 a1, .slice a2 len2 cap2] w fun e w' => e = .returned (.bool true) ∧ Below w.heap.size w w' := by
  obtain ⟨l0, n0, r0, m0⟩ := row_reads w0
  obtain ⟨l2, n2, r2, m2⟩ := row_reads w2
  by_cases h : len0 + len2 ≤ 1048576
  · by_cases ho : 524288 < len0 ∨ 524288 < len2 ∨ a1 < 0 ∨ 65536 < a1
    · exact walk_out a0 len0 cap0 a1 a2 len2 cap2 w h ho
    · obtain ⟨r, rfl⟩ := Int.eq_ofNat_of_zero_le (show 0 ≤ a1 by omega)
      exact contents_main a0 len0 cap0 _ r a2 len2 cap2 _ w l0 n0 r0 l2 n2 r2 (by omega) (by omega) (by omega)
  · exact walk_long a0 len0 cap0 a1 a2 len2 cap2 w m0 m2 h

/-! ### THE ROW's STEP: WRITTEN OUT -/
set_option maxRecDepth 100000 in
theorem lifted (os : Os) (started : os.Started) (H : Type) (enc : TypeId × Value → H) :
    ReturnsInHanded {} Trym.checked os 7 .any (Rows.fnAppendDoublingContentsSpec.pre6 enc Trym.prog Trym.f7 Rows.fnAppendDoublingContentsRow.domain false) (Rows.fnAppendDoublingContentsSpec.post enc Trym.prog Trym.f7 false true false false) := by
  refine returnsInHanded_of_change (C := Trym.checked) own started (by kernel_rfl) Trym.func7
    (ChangeSpec.witness6 (enc := enc) (C := Trym.checked) false ⟨#[], #[.slice none 0 0, .int .i64 0, .slice none 0 0], []⟩ 8 (by kernel_rfl) (by kernel_rfl) (by kernel_rfl) (by kernel_rfl)) ?_
  intro W base args ds gs before hval0 hW hcnd _
  have hval : ∀ (j : Nat) t v, Trym.f7.params[j]? = some t → args[j]? = some v → Value.okWide Trym.prog W .any base t v := hval0
  have hW' := hW
  obtain ⟨p, q, hA0, hV, rfl, hfz, hnd⟩ := hW
  have hA : DataW.TrodAll enc Trym.prog W 0 (fun _ => true) true Trym.f7.params.toList args.toList ds p := hA0
  rw [Trym.params7] at hA hval
  obtain ⟨v0, vs0, d0, ds0, p0, q0, hargs, rfl, rfl, h0, r0⟩ := trodAll_cons hA
  obtain ⟨v1, vs1, d1, ds1, p1, q1, rfl, rfl, rfl, h1, r1⟩ := trodAll_cons r0
  obtain ⟨v2, vs2, d2, ds2, p2, q2, rfl, rfl, rfl, h2, r2⟩ := trodAll_cons r1
  obtain ⟨rfl, rfl, rfl⟩ := trodAll_nil r2
  obtain rfl : args = #[v0, v1, v2] := by cases args; simp_all
  obtain ⟨rfl, rfl⟩ := trodVars_none hV
  obtain ⟨a0, len0, cap0, rfl⟩ := okWide_slice Trym.underlying28 (hval 0 28 v0 rfl rfl)
  have k0 := h0
  have lt0 : ∀ x ∈ p0, x.block < W.heap.size := by obtain ⟨m, hm⟩ := k0; exact DataW.trod_lt m _ _ _ hm
  obtain ⟨z0, w0⟩ : ∃ zs, IsRow .u8 W a0 len0 cap0 zs := by
    obtain ⟨fuel, hf⟩ := h0
    rcases open_ints Trym.underlying28 Trym.underlying5 (by kernel_rfl) hf with ⟨hcs, _⟩ | ⟨x, l, c, zs, hcs, _, hl, hm, hz, _, hcell, hwz⟩
    · simp [Value.cells] at hcs
      obtain ⟨rfl, rfl, rfl⟩ := hcs
      exact ⟨[], .inl ⟨rfl, rfl, rfl, rfl⟩⟩
    · simp [Value.cells] at hcs
      obtain ⟨rfl, rfl, rfl⟩ := hcs
      exact ⟨zs, .inr ⟨_, rfl, hl, hm, by simpa using hz, hcell, hwz⟩⟩
  obtain ⟨a1, rfl, rfl, rfl, w1⟩ := open_int Trym.underlying3 (hval 1 3 v1 rfl rfl) h1
  obtain ⟨a2, len2, cap2, rfl⟩ := okWide_slice Trym.underlying28 (hval 2 28 v2 rfl rfl)
  have k2 := h2
  have lt2 : ∀ x ∈ p2, x.block < W.heap.size := by obtain ⟨m, hm⟩ := k2; exact DataW.trod_lt m _ _ _ hm
  obtain ⟨z2, w2⟩ : ∃ zs, IsRow .u8 W a2 len2 cap2 zs := by
    obtain ⟨fuel, hf⟩ := h2
    rcases open_ints Trym.underlying28 Trym.underlying5 (by kernel_rfl) hf with ⟨hcs, _⟩ | ⟨x, l, c, zs, hcs, _, hl, hm, hz, _, hcell, hwz⟩
    · simp [Value.cells] at hcs
      obtain ⟨rfl, rfl, rfl⟩ := hcs
      exact ⟨[], .inl ⟨rfl, rfl, rfl, rfl⟩⟩
    · simp [Value.cells] at hcs
      obtain ⟨rfl, rfl, rfl⟩ := hcs
      exact ⟨zs, .inr ⟨_, rfl, hl, hm, by simpa using hz, hcell, hwz⟩⟩
  clear hA0 hval0
  refine (walk a0 len0 cap0 z0 a1 a2 len2 cap2 z2 W w0 w1 w2).mono fun e W' ⟨he, bel⟩ => ?_
  subst he
  exact ⟨_, rfl, _, _, _, [], _, [], hW', trodAll_mk1 (shut_bool Trym.underlying4 _), (trodAll_cons_mk (Below.trod laidOut (by kernel_rfl) (of_decide_eq_true (by kernel_rfl)) k0 bel lt0) (trodAll_cons_mk (shut_int Trym.underlying3 w1) (trodAll_cons_mk (Below.trod laidOut (by kernel_rfl) (of_decide_eq_true (by kernel_rfl)) k2 bel lt2) trodAll_mk0))), rfl, bel.frame _, fun h => by cases h⟩

theorem over : Rows.fnAppendDoublingContentsRow.holds Trym.pinned (OpenSpec.ofChange Rows.fnAppendDoublingContentsSpec) :=
  OpenClaim.holds_of_wide 7 Trym.f7 rfl rfl rfl rfl rfl rfl rfl ⟨rfl, rfl, rfl, rfl, rfl⟩ rfl rfl rfl rfl rfl (by kernel_rfl) Trym.func7 (by kernel_rfl)
    (of_decide_eq_true (by kernel_rfl)) (by unfold Func.isWrapper; first | (rw [if_pos (by decide +kernel)]; kernel_rfl) | (rw [if_neg (by decide +kernel)]; exact ⟨rfl, rfl⟩))
    (fun os started H enc _ => lifted os started H enc)

/-- ████ THE STATEMENT ████ -/
theorem proved : Rows.FnAppendDoublingContentsSaid := over
#print axioms proved
end Go.Proofs.Qxb6600584aMods.fnAppendDoublingContents
