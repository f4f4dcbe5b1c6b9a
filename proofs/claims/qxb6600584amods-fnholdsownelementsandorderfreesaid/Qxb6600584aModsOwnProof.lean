/-
  'Rows.FnHoldsOwnElementsAndOrderFreeSaid', proved. The frame is the guide's own way for a slice of strings, an integer and a string; the walk stands in Qxb6600584aModsOwn.
-/
import Derived.Test.Qxb6600584aModsOwn
import Derived.SliceStrings
import Derived.ShutString
import Derived.ChangeOld
namespace Go.Proofs.Qxb6600584aMods.fnHoldsOwnElementsAndOrderFree
open Go.ChangeShapes Go.WideShapes Go.ChangeAt Go.RowKit
open Go.ChangeMaps (open_string shut_string)
set_option linter.unusedVariables false

theorem own : ownKnob Trym.prog.godebug = none := by kernel_rfl
theorem laidOut : laidOutB Trym.prog = true := by kernel_rfl

/-- What the walk is told of a slice of strings that came in. -/
def IsStrs (w : World) (a : Option Addr) (len cap : Nat) (ss : List ByteArray) : Prop :=
  ss.length = len ∧ len ≤ 9223372036854775807 ∧ (a = none → len = 0 ∧ cap = 0) ∧ Reads w a (sv ss)

theorem isStrs_some {w : World} {x : Addr} {len cap : Nat} {ss : List ByteArray} (h1 : len ≤ cap) (h2 : cap ≤ maxLen) (h3 : ss.length = cap) (h4 : ∀ i, i < ss.length → w.cell? (x.add i) = some (.string (ss.getD i ByteArray.empty))) :
    IsStrs w (some x) len cap (ss.take len) := by
  have hl : (ss.take len).length = len := by rw [List.length_take]; omega
  refine ⟨hl, by unfold maxLen at h2; omega, (by intro h; cases h), ?_⟩
  by_cases h0 : len = 0
  · subst h0; exact .inl rfl
  · obtain ⟨b, off, spot⟩ := x
    have hspot : spot = none := by simpa [Addr.add] using World.cell?_spot (h4 0 (by omega))
    subst hspot
    refine .inr ⟨b, off, rfl, fun i hi => ?_⟩
    rw [sv_length, hl] at hi
    have := h4 i (by omega)
    rw [Addr.add_lit] at this
    rw [this, sv_at _ i (by omega)]
    simp [List.getD, hi]

theorem walk (a0 : Option Addr) (len0 cap0 : Nat) (s0 : List ByteArray) (a1 : Int) (r : ByteArray) (w : World) (w0 : IsStrs w a0 len0 cap0 s0) (w1 : (Lit.int .i64 a1).wf = true) (hr : r.size ≤ maxLen) :
    Calls Trym.prog 6 #[.slice a0 len0 cap0, .int .i64 a1, .string r] w fun e w' => e = .returned (.bool true) ∧ Below w.heap.size w w' := by
  obtain ⟨hl, hn, han, hrd⟩ := w0
  exact own_main a0 len0 cap0 s0 a1 r w hl hn han hrd

set_option maxRecDepth 100000 in
theorem lifted (os : Os) (started : os.Started) (H : Type) (enc : TypeId × Value → H) :
    ReturnsInHanded {} Trym.checked os 6 .any (Rows.fnHoldsOwnElementsAndOrderFreeSpec.pre6 enc Trym.prog Trym.f6 Rows.fnHoldsOwnElementsAndOrderFreeRow.domain false) (Rows.fnHoldsOwnElementsAndOrderFreeSpec.post enc Trym.prog Trym.f6 false true false false) := by
  refine returnsInHanded_of_change (C := Trym.checked) own started (by kernel_rfl) Trym.func6
    (ChangeSpec.witness6 (enc := enc) (C := Trym.checked) false ⟨#[], #[.slice none 0 0, .int .i64 0, .string ByteArray.empty], []⟩ 8 (by kernel_rfl) (by kernel_rfl) (by kernel_rfl) (by kernel_rfl)) ?_
  intro W base args ds gs before hval0 hW hcnd _
  have hval : ∀ (j : Nat) t v, Trym.f6.params[j]? = some t → args[j]? = some v → Value.okWide Trym.prog W .any base t v := hval0
  have hW' := hW
  obtain ⟨p, q, hA0, hV, rfl, hfz, hnd⟩ := hW
  have hA : DataW.TrodAll enc Trym.prog W 0 (fun _ => true) true Trym.f6.params.toList args.toList ds p := hA0
  rw [Trym.params6] at hA hval
  obtain ⟨v0, vs0, d0, ds0, p0, q0, hargs, rfl, rfl, h0, r0⟩ := trodAll_cons hA
  obtain ⟨v1, vs1, d1, ds1, p1, q1, rfl, rfl, rfl, h1, r1⟩ := trodAll_cons r0
  obtain ⟨v2, vs2, d2, ds2, p2, q2, rfl, rfl, rfl, h2, r2⟩ := trodAll_cons r1
  obtain ⟨rfl, rfl, rfl⟩ := trodAll_nil r2
  obtain rfl : args = #[v0, v1, v2] := by cases args; simp_all
  obtain ⟨rfl, rfl⟩ := trodVars_none hV
  obtain ⟨a0, len0, cap0, rfl⟩ := okWide_slice Trym.underlying24 (hval 0 24 v0 rfl rfl)
  have k0 := h0
  have lt0 : ∀ x ∈ p0, x.block < W.heap.size := by obtain ⟨m, hm⟩ := k0; exact DataW.trod_lt m _ _ _ hm
  obtain ⟨z0, w0⟩ : ∃ ss, IsStrs W a0 len0 cap0 ss := by
    obtain ⟨fuel, hf⟩ := h0
    rcases open_strings Trym.underlying24 Trym.underlying9 (by kernel_rfl) hf with ⟨hcs, _⟩ | ⟨x, l, c, ss, hcs, _, hl, hm, hz, _, hcell, _⟩
    · simp [Value.cells] at hcs
      obtain ⟨rfl, rfl, rfl⟩ := hcs
      exact ⟨[], rfl, by omega, fun _ => ⟨rfl, rfl⟩, .inl rfl⟩
    · simp [Value.cells] at hcs
      obtain ⟨rfl, rfl, rfl⟩ := hcs
      exact ⟨ss.take len0, isStrs_some hl hm (by simpa using hz) hcell⟩
  obtain ⟨a1, rfl, rfl, rfl, w1⟩ := open_int Trym.underlying3 (hval 1 3 v1 rfl rfl) h1
  obtain ⟨s, rfl, rfl, rfl, hs⟩ := open_string Trym.underlying9 (hval 2 9 v2 rfl rfl) h2
  clear hA0 hval0
  refine (walk a0 len0 cap0 z0 a1 s W w0 w1 hs).mono fun e W' ⟨he, bel⟩ => ?_
  subst he
  exact ⟨_, rfl, _, _, _, [], _, [], hW', trodAll_mk1 (shut_bool Trym.underlying4 _), (trodAll_cons_mk (Below.trod laidOut (by kernel_rfl) (of_decide_eq_true (by kernel_rfl)) k0 bel lt0) (trodAll_cons_mk (shut_int Trym.underlying3 w1) (trodAll_cons_mk (shut_string Trym.underlying9 hs) trodAll_mk0))), rfl, bel.frame _, fun h => by cases h⟩

theorem over : Rows.fnHoldsOwnElementsAndOrderFreeRow.holds Trym.pinned (OpenSpec.ofChange Rows.fnHoldsOwnElementsAndOrderFreeSpec) :=
  OpenClaim.holds_of_wide 6 Trym.f6 rfl rfl rfl rfl rfl rfl rfl ⟨rfl, rfl, rfl, rfl, rfl⟩ rfl rfl rfl rfl rfl (by kernel_rfl) Trym.func6 (by kernel_rfl)
    (of_decide_eq_true (by kernel_rfl)) (by unfold Func.isWrapper; first | (rw [if_pos (by decide +kernel)]; kernel_rfl) | (rw [if_neg (by decide +kernel)]; exact ⟨rfl, rfl⟩))
    (fun os started H enc _ => lifted os started H enc)

theorem proved : Rows.FnHoldsOwnElementsAndOrderFreeSaid := over
#print axioms proved
end Go.Proofs.Qxb6600584aMods.fnHoldsOwnElementsAndOrderFree
