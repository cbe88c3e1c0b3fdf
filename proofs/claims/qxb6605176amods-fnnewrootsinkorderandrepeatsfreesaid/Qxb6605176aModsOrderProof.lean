/- The proof of the given statement Rows.FnNewRootSinkOrderAndRepeatsFreeSaid: the frame of the guide's template at a string and a slice of strings; the walk stands in the text OrderNil. -/
import Derived.Test.Qxb6605176aModsRows
import Derived.WalkKit
import Derived.ProofKit
import Derived.OpenShut
import Derived.ShutString
import Derived.ChangeOld
import Derived.Below
import Derived.SliceStrings
import Derived.Test.Qxb6605176aModsOrderNil
import Derived.Test.Qxb6605176aModsClosed
namespace Go.Proofs.Qxb6605176aMods.fnNewRootSinkOrderAndRepeatsFree
open Go.ChangeShapes Go.WideShapes Go.ChangeAt Go.RowKit
open Go.ChangeMaps (open_string shut_string)
set_option linter.unusedVariables false

theorem own : ownKnob Trym.prog.godebug = none := by kernel_rfl
theorem laidOut : laidOutB Trym.prog = true := by kernel_rfl

/-! ### THE ROW's STEP -/
set_option maxRecDepth 100000 in
theorem lifted (os : Os) (started : os.Started) (H : Type) (enc : TypeId × Value → H) :
    ReturnsInHanded {} Trym.checked os 7 .any (Rows.fnNewRootSinkOrderAndRepeatsFreeSpec.pre6 enc Trym.prog Trym.f7 Rows.fnNewRootSinkOrderAndRepeatsFreeRow.domain false) (Rows.fnNewRootSinkOrderAndRepeatsFreeSpec.post enc Trym.prog Trym.f7 false true false false) := by
  refine returnsInHanded_of_change (C := Trym.checked) own started (by kernel_rfl) Trym.func7
    (ChangeSpec.witness6 (enc := enc) (C := Trym.checked) false ⟨#[], #[.string ByteArray.empty, .slice none 0 0], []⟩ 8 (by kernel_rfl) (by kernel_rfl) (by kernel_rfl) (by kernel_rfl)) ?_
  intro W base args ds gs before hval0 hW hcnd _
  have hval : ∀ (j : Nat) t v, Trym.f7.params[j]? = some t → args[j]? = some v → Value.okWide Trym.prog W .any base t v := hval0
  have hW' := hW
  obtain ⟨p, q, hA0, hV, rfl, hfz, hnd⟩ := hW
  have hA : DataW.TrodAll enc Trym.prog W 0 (fun _ => true) true Trym.f7.params.toList args.toList ds p := hA0
  rw [Trym.params7] at hA hval
  obtain ⟨v0, vs0, d0, ds0, p0, q0, hargs, rfl, rfl, h0, r0⟩ := trodAll_cons hA
  obtain ⟨v1, vs1, d1, ds1, p1, q1, rfl, rfl, rfl, h1, r1⟩ := trodAll_cons r0
  obtain ⟨rfl, rfl, rfl⟩ := trodAll_nil r1
  obtain rfl : args = #[v0, v1] := by cases args; simp_all
  obtain ⟨rfl, rfl⟩ := trodVars_none hV
  obtain ⟨s, rfl, rfl, rfl, hs⟩ := open_string Trym.underlying9 (hval 0 9 v0 rfl rfl) h0
  obtain ⟨a1, len1, cap1, rfl⟩ := okWide_slice Trym.underlying30 (hval 1 30 v1 rfl rfl)
  have k1 := h1
  have lt1 : ∀ x ∈ p1, x.block < W.heap.size := by obtain ⟨m, hm⟩ := k1; exact DataW.trod_lt m _ _ _ hm
  obtain ⟨zs, w1, hl1⟩ : ∃ zs, Ss W a1 len1 zs ∧ len1 ≤ 9223372036854775807 := by
    obtain ⟨fuel, hf⟩ := h1
    rcases open_strings Trym.underlying30 Trym.underlying9 (by kernel_rfl) hf with ⟨hcs, _⟩ | ⟨x, l, c, ss, hcs, _, hl, hm, hz, _, hcell, hwz⟩
    · simp [Value.cells] at hcs
      obtain ⟨rfl, rfl, rfl⟩ := hcs
      exact ss_of_row (cap := 0) (ss := []) (.inl ⟨rfl, rfl, rfl⟩)
    · simp [Value.cells] at hcs
      obtain ⟨rfl, rfl, rfl⟩ := hcs
      exact ss_of_row (.inr ⟨_, rfl, hl, hm, by simpa using hz, hcell⟩)
  clear hA0 hval0
  refine (walk s a1 len1 cap1 zs W w1 (by unfold maxLen at hs; omega) hl1).mono fun e W' ⟨he, bel⟩ => ?_
  subst he
  exact ⟨_, rfl, _, _, _, [], _, [], hW', trodAll_mk1 (shut_bool Trym.underlying4 _), (trodAll_cons_mk (shut_string Trym.underlying9 hs) (trodAll_cons_mk (Below.trod laidOut (by kernel_rfl) (of_decide_eq_true (by kernel_rfl)) k1 bel lt1) trodAll_mk0)), rfl, bel.frame _, fun h => by cases h⟩

theorem closed : joinedFacts Trym.prog 7 Trym.f7 Rows.fnNewRootSinkOrderAndRepeatsFreeSpec Rows.fnNewRootSinkOrderAndRepeatsFreeRow = true := by
  unfold joinedFacts
  rw [Closed.mayEnter_yes, Closed.liftsFinal_no, Closed.make_is]
  kernel_rfl

theorem over : Rows.fnNewRootSinkOrderAndRepeatsFreeRow.holds Trym.pinned (OpenSpec.ofChange Rows.fnNewRootSinkOrderAndRepeatsFreeSpec) :=
  OpenClaim.holds_of_wide 7 Trym.f7 rfl rfl rfl rfl rfl rfl rfl ⟨rfl, rfl, rfl, rfl, rfl⟩ rfl rfl rfl rfl rfl (by kernel_rfl) Trym.func7 closed
    (of_decide_eq_true (by kernel_rfl)) (by unfold Func.isWrapper; first | (rw [if_pos (by decide +kernel)]; kernel_rfl) | (rw [if_neg (by decide +kernel)]; exact ⟨rfl, rfl⟩))
    (fun os started H enc _ => lifted os started H enc)

/-- THE STATEMENT -/
theorem proved : Rows.FnNewRootSinkOrderAndRepeatsFreeSaid := over
end Go.Proofs.Qxb6605176aMods.fnNewRootSinkOrderAndRepeatsFree
