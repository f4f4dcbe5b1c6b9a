/-
  'Rows.FnAppendDoublingScriptSaid', proved. The frame is the guide's own way for a slice of slices of integers; the walk stands in Qxb6600584aModsScript.
-/
import Derived.Test.Qxb6600584aModsScript
import Derived.Deep.Matrix
import Derived.ChangeOld
namespace Go.Proofs.Qxb6600584aMods.fnAppendDoublingScript
open Go.ChangeShapes Go.WideShapes Go.ChangeAt Go.RowKit
set_option linter.unusedVariables false

theorem own : ownKnob Trym.prog.godebug = none := by kernel_rfl
theorem laidOut : laidOutB Trym.prog = true := by kernel_rfl

/-- What the walk is told of a slice of slices of bytes that came in. -/
def IsFrags (w : World) (a : Option Addr) (len cap : Nat) (fs : List Frag) : Prop :=
  fs.length = len ∧ len ≤ 9223372036854775807 ∧ (a = none → len = 0 ∧ cap = 0) ∧ Reads w a (fvals fs) ∧ ∀ f ∈ fs, f.Ok w

theorem isFrags_some {w : World} {x : Addr} {len cap : Nat} (A : Nat → Option Addr) (L C : Nat → Nat) (Z : Nat → List Int) (hl : len ≤ cap) (hm : cap ≤ maxLen)
    (h : ∀ r, r < cap → w.cell? (x.add r) = some (.slice (A r) (L r) (C r)) ∧ L r ≤ C r ∧ (Z r).length = C r ∧ (A r = none → C r = 0) ∧ ∀ a', A r = some a' → ∀ c, c < C r → w.cell? (a'.add c) = some (.int .u8 ((Z r).getD c 0))) :
    IsFrags w (some x) len cap ((List.range len).map fun r => ⟨A r, C r, (Z r).take (L r)⟩) := by
  have hzl : ∀ r, r < cap → ((Z r).take (L r)).length = L r := fun r hr => by rw [List.length_take]; have := h r hr; omega
  refine ⟨by simp, by unfold maxLen at hm; omega, (by intro e; cases e), ?_, ?_⟩
  · by_cases h0 : len = 0
    · subst h0; exact .inl rfl
    · obtain ⟨b, off, spot⟩ := x
      have hspot : spot = none := by simpa [Addr.add] using World.cell?_spot (h 0 (by omega)).1
      subst hspot
      refine .inr ⟨b, off, rfl, fun i hi => ?_⟩
      have hi' : i < len := by simpa [fvals_length] using hi
      have := (h i (by omega)).1
      rw [Addr.add_lit] at this
      rw [this]
      simp [fvals, Frag.v, hi', hzl i (by omega)]
  · intro f hf
    obtain ⟨r, hr, rfl⟩ := List.mem_map.1 hf
    have hr' : r < len := List.mem_range.1 hr
    obtain ⟨h1, h2, h3, h4, h5⟩ := h r (by omega)
    refine ⟨fun e => ?_, ?_⟩
    · have hc := h4 e
      refine ⟨?_, hc⟩
      show ((Z r).take (L r)).length = 0
      rw [hzl r (by omega)]; omega
    · show Reads w (A r) (ints ((Z r).take (L r)))
      cases hA : A r with
      | none =>
        have hc := h4 hA
        exact .inl (List.eq_nil_of_length_eq_zero (by rw [ints_length, hzl r (by omega)]; omega))
      | some y =>
        by_cases h0 : L r = 0
        · exact .inl (List.eq_nil_of_length_eq_zero (by rw [ints_length, hzl r (by omega)]; exact h0))
        · have h6 := h5 y hA
          obtain ⟨b, off, spot⟩ := y
          have hspot : spot = none := by simpa [Addr.add] using World.cell?_spot (h6 0 (by omega))
          subst hspot
          refine .inr ⟨b, off, rfl, fun i hi => ?_⟩
          rw [ints_length, hzl r (by omega)] at hi
          have := h6 i (by omega)
          rw [Addr.add_lit] at this
          rw [this, ints_at _ i (by rw [hzl r (by omega)]; exact hi)]
          simp [List.getD, hi]

theorem walk (a0 : Option Addr) (len0 cap0 : Nat) (f0 : List Frag) (w : World) (w0 : IsFrags w a0 len0 cap0 f0) :
    Calls Trym.prog 8 #[.slice a0 len0 cap0] w fun e w' => e = .returned (.bool true) ∧ Below w.heap.size w w' := by
  obtain ⟨hl, hn, han, hrd, hok⟩ := w0
  exact script_main a0 len0 cap0 f0 w hl hn han hrd hok

set_option maxRecDepth 100000 in
theorem lifted (os : Os) (started : os.Started) (H : Type) (enc : TypeId × Value → H) :
    ReturnsInHanded {} Trym.checked os 8 .any (Rows.fnAppendDoublingScriptSpec.pre6 enc Trym.prog Trym.f8 Rows.fnAppendDoublingScriptRow.domain false) (Rows.fnAppendDoublingScriptSpec.post enc Trym.prog Trym.f8 false true false false) := by
  refine returnsInHanded_of_change (C := Trym.checked) own started (by kernel_rfl) Trym.func8
    (ChangeSpec.witness6 (enc := enc) (C := Trym.checked) false ⟨#[], #[.slice none 0 0], []⟩ 8 (by kernel_rfl) (by kernel_rfl) (by kernel_rfl) (by kernel_rfl)) ?_
  intro W base args ds gs before hval0 hW hcnd _
  have hval : ∀ (j : Nat) t v, Trym.f8.params[j]? = some t → args[j]? = some v → Value.okWide Trym.prog W .any base t v := hval0
  have hW' := hW
  obtain ⟨p, q, hA0, hV, rfl, hfz, hnd⟩ := hW
  have hA : DataW.TrodAll enc Trym.prog W 0 (fun _ => true) true Trym.f8.params.toList args.toList ds p := hA0
  rw [Trym.params8] at hA hval
  obtain ⟨v0, vs0, d0, ds0, p0, q0, hargs, rfl, rfl, h0, r0⟩ := trodAll_cons hA
  obtain ⟨rfl, rfl, rfl⟩ := trodAll_nil r0
  obtain rfl : args = #[v0] := by cases args; simp_all
  obtain ⟨rfl, rfl⟩ := trodVars_none hV
  obtain ⟨a0, len0, cap0, rfl⟩ := okWide_slice Trym.underlying32 (hval 0 32 v0 rfl rfl)
  have k0 := h0
  have lt0 : ∀ x ∈ p0, x.block < W.heap.size := by obtain ⟨m, hm⟩ := k0; exact DataW.trod_lt m _ _ _ hm
  obtain ⟨z0, w0⟩ : ∃ fs, IsFrags W a0 len0 cap0 fs := by
    obtain ⟨fuel, hf⟩ := h0
    rcases Go.Deep.open_int_rows Trym.underlying32 Trym.underlying28 Trym.underlying5 (by kernel_rfl) (by kernel_rfl) hf with ⟨hcs, _⟩ | ⟨x, l, c, A, L, C, Z, hcs, _, hl, hm, _, hrow⟩
    · simp [Value.cells] at hcs
      obtain ⟨rfl, rfl, rfl⟩ := hcs
      exact ⟨[], rfl, by omega, fun _ => ⟨rfl, rfl⟩, .inl rfl, fun f hf => by cases hf⟩
    · simp [Value.cells] at hcs
      obtain ⟨rfl, rfl, rfl⟩ := hcs
      exact ⟨_, isFrags_some A L C Z hl hm fun r hr => ⟨(hrow r hr).1, (hrow r hr).2.1, (hrow r hr).2.2.2.1, (hrow r hr).2.2.2.2.2.1, fun a' ha' => ((hrow r hr).2.2.2.2.2.2 a' ha').2⟩⟩
  clear hA0 hval0
  refine (walk a0 len0 cap0 z0 W w0).mono fun e W' ⟨he, bel⟩ => ?_
  subst he
  exact ⟨_, rfl, _, _, _, [], _, [], hW', trodAll_mk1 (shut_bool Trym.underlying4 _), (trodAll_cons_mk (Below.trod laidOut (by kernel_rfl) (of_decide_eq_true (by kernel_rfl)) k0 bel lt0) trodAll_mk0), rfl, bel.frame _, fun h => by cases h⟩

theorem over : Rows.fnAppendDoublingScriptRow.holds Trym.pinned (OpenSpec.ofChange Rows.fnAppendDoublingScriptSpec) :=
  OpenClaim.holds_of_wide 8 Trym.f8 rfl rfl rfl rfl rfl rfl rfl ⟨rfl, rfl, rfl, rfl, rfl⟩ rfl rfl rfl rfl rfl (by kernel_rfl) Trym.func8 (by kernel_rfl)
    (of_decide_eq_true (by kernel_rfl)) (by unfold Func.isWrapper; first | (rw [if_pos (by decide +kernel)]; kernel_rfl) | (rw [if_neg (by decide +kernel)]; exact ⟨rfl, rfl⟩))
    (fun os started H enc _ => lifted os started H enc)

theorem proved : Rows.FnAppendDoublingScriptSaid := over
#print axioms proved
end Go.Proofs.Qxb6600584aMods.fnAppendDoublingScript
