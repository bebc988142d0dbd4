/-
  PROOF OF 'Rows.FnModuleMapScriptModelSaid', after the shells that the seat's tool wrote for its fellows; the walk is YoefwwWalk3z's.
-/
import Derived.Test.YoefwwRows
import Derived.Test.YoefwwWalk3z
import Derived.WalkKit
import Derived.ProofKit
import Derived.OpenShut
import Derived.ShutString
import Derived.ChangeOld
import Derived.Below
import Derived.SliceStrings
namespace Go.Proofs.Yoefww.fnModuleMapScriptModel
open Go.ChangeShapes Go.WideShapes Go.ChangeAt Go.RowKit
open Go.ChangeMaps (open_string shut_string)
set_option linter.unusedVariables false

theorem own : ownKnob Efwg.prog.godebug = none := by kernel_rfl
theorem laidOut : laidOutB Efwg.prog = true := by kernel_rfl

set_option maxRecDepth 100000 in
theorem lifted (os : Os) (started : os.Started) (H : Type) (enc : TypeId × Value → H) :
    ReturnsInHanded {} Efwg.checked os 3 .any (Rows.fnModuleMapScriptModelSpec.pre6 enc Efwg.prog Efwg.f3 Rows.fnModuleMapScriptModelRow.domain false) (Rows.fnModuleMapScriptModelSpec.post enc Efwg.prog Efwg.f3 false true false false) := by
  refine returnsInHanded_of_change (C := Efwg.checked) own started (by kernel_rfl) Efwg.func3
    (ChangeSpec.witness6 (enc := enc) (C := Efwg.checked) false ⟨#[], #[.slice none 0 0, .slice none 0 0], []⟩ 8 (by kernel_rfl) (by kernel_rfl) (by kernel_rfl) (by kernel_rfl)) ?_
  intro W base args ds gs before hval0 hW hcnd _
  have hval : ∀ (j : Nat) t v, Efwg.f3.params[j]? = some t → args[j]? = some v → Value.okWide Efwg.prog W .any base t v := hval0
  have hW' := hW
  obtain ⟨p, q, hA0, hV, rfl, hfz, hnd⟩ := hW
  have hA : DataW.TrodAll enc Efwg.prog W 0 (fun _ => true) true Efwg.f3.params.toList args.toList ds p := hA0
  rw [Efwg.params3] at hA hval
  obtain ⟨v0, vs0, d0, ds0, p0, q0, hargs, rfl, rfl, h0, r0⟩ := trodAll_cons hA
  obtain ⟨v1, vs1, d1, ds1, p1, q1, rfl, rfl, rfl, h1, r1⟩ := trodAll_cons r0
  obtain ⟨rfl, rfl, rfl⟩ := trodAll_nil r1
  obtain rfl : args = #[v0, v1] := by cases args; simp_all
  obtain ⟨rfl, rfl⟩ := trodVars_none hV
  obtain ⟨a0, len0, cap0, rfl⟩ := okWide_slice Efwg.underlying22 (hval 0 22 v0 rfl rfl)
  have k0 := h0
  have lt0 : ∀ x ∈ p0, x.block < W.heap.size := by obtain ⟨m, hm⟩ := k0; exact DataW.trod_lt m _ _ _ hm
  obtain ⟨f0, w0, m0, g0⟩ : ∃ f : Nat → ByteArray, IsSl W a0 len0 cap0 (fun i => .string (f i)) ∧ len0 ≤ maxLen ∧ ∀ i, i < len0 → (f i).size ≤ maxLen := by
    obtain ⟨fuel, hf⟩ := h0
    rcases open_strings Efwg.underlying22 Efwg.underlying9 (by kernel_rfl) hf with ⟨hcs, _⟩ | ⟨x, l, c, ss, hcs, _, hl, hm, hz, _, hcell, hws⟩
    · simp [Value.cells] at hcs
      obtain ⟨rfl, rfl, rfl⟩ := hcs
      exact ⟨fun _ => ByteArray.empty, .inl ⟨rfl, rfl, rfl⟩, Nat.zero_le _, fun i hi => by omega⟩
    · simp [Value.cells] at hcs
      obtain ⟨rfl, rfl, rfl⟩ := hcs
      have hz' : ss.length = cap0 := by simpa using hz
      exact ⟨fun i => ss.getD i ByteArray.empty, .inr ⟨_, rfl, hl, fun i hi => hcell i (by omega)⟩, by omega, fun i hi => hws _ (getD_mem _ _ _ (by omega))⟩
  obtain ⟨a1, len1, cap1, rfl⟩ := okWide_slice Efwg.underlying23 (hval 1 23 v1 rfl rfl)
  have k1 := h1
  have lt1 : ∀ x ∈ p1, x.block < W.heap.size := by obtain ⟨m, hm⟩ := k1; exact DataW.trod_lt m _ _ _ hm
  obtain ⟨f1, w1, m1, g1⟩ : ∃ f : Nat → Int, IsSl W a1 len1 cap1 (fun i => .int .u32 (f i)) ∧ len1 ≤ maxLen ∧ ∀ i, i < len1 → (Lit.int .u32 (f i)).wf = true := by
    obtain ⟨fuel, hf⟩ := h1
    rcases open_ints Efwg.underlying23 Efwg.underlying31 (by kernel_rfl) hf with ⟨hcs, _⟩ | ⟨x, l, c, zs, hcs, _, hl, hm, hz, _, hcell, hwz⟩
    · simp [Value.cells] at hcs
      obtain ⟨rfl, rfl, rfl⟩ := hcs
      exact ⟨fun _ => 0, .inl ⟨rfl, rfl, rfl⟩, Nat.zero_le _, fun i hi => by omega⟩
    · simp [Value.cells] at hcs
      obtain ⟨rfl, rfl, rfl⟩ := hcs
      have hz' : zs.length = cap1 := by simpa using hz
      exact ⟨fun i => zs.getD i 0, .inr ⟨_, rfl, hl, fun i hi => hcell i (by omega)⟩, by omega, fun i hi => hwz _ (getD_mem _ _ _ (by omega))⟩
  clear hA0 hval0
  refine (walk3 W a0 len0 cap0 f0 m0 g0 w0 a1 len1 cap1 f1 m1 (fun i hi => bounds_u32 (g1 i hi)) w1).mono fun e W' ⟨he, bel⟩ => ?_
  subst he
  exact ⟨_, rfl, _, _, _, [], _, [], hW', trodAll_mk1 (shut_bool Efwg.underlying4 _), (trodAll_cons_mk (Below.trod laidOut (by kernel_rfl) (of_decide_eq_true (by kernel_rfl)) k0 bel lt0) (trodAll_cons_mk (Below.trod laidOut (by kernel_rfl) (of_decide_eq_true (by kernel_rfl)) k1 bel lt1) trodAll_mk0)), rfl, bel.frame _, fun h => by cases h⟩

theorem over : Rows.fnModuleMapScriptModelRow.holds Efwg.pinned (OpenSpec.ofChange Rows.fnModuleMapScriptModelSpec) :=
  OpenClaim.holds_of_wide 3 Efwg.f3 rfl rfl rfl rfl rfl rfl rfl ⟨rfl, rfl, rfl, rfl, rfl⟩ rfl rfl rfl rfl rfl (by kernel_rfl) Efwg.func3 (by kernel_rfl)
    (of_decide_eq_true (by kernel_rfl)) (by unfold Func.isWrapper; first | (rw [if_pos (by decide +kernel)]; kernel_rfl) | (rw [if_neg (by decide +kernel)]; exact ⟨rfl, rfl⟩))
    (fun os started H enc _ => lifted os started H enc)

/-- THE STATEMENT. -/
theorem proved : Rows.FnModuleMapScriptModelSaid := over
end Go.Proofs.Yoefww.fnModuleMapScriptModel
