/- The walk of FnTakeRefusalConsumesNothingAndSticks, out of the contracts of the Base and Take texts. -/
import Derived.Test.Qxb6000907aModsTake
namespace Go.Proofs.Qxb6000907aMods.fnTakeRefusalConsumesNothingAndSticks
open Go.RowKit
set_option linter.unusedVariables false

/-- WHAT THE WALK IS TOLD OF A SLICE OF INTEGERS THAT CAME IN: it is nil; or it leads to a row of 'cap' cells, the numbers 'zs' (the first 'len' are its elements, the rest its spare room), each fitting its kind. -/
def IsRow (k : IntKind) (w : World) (a : Option Addr) (len cap : Nat) (zs : List Int) : Prop :=
  (a = none ∧ len = 0 ∧ cap = 0 ∧ zs = []) ∨
  ∃ x, a = some x ∧ len ≤ cap ∧ cap ≤ maxLen ∧ zs.length = cap ∧ (∀ i, i < zs.length → w.cell? (x.add i) = some (.int k (zs.getD i 0))) ∧ ∀ n ∈ zs, (Lit.int k n).wf = true



theorem zz29_yes (a : Option Addr) (la ca : Nat) (b : Bool) (k j : Int) (w : World) (h : la ≤ 1048576) :
    Calls Trym.prog 29 #[.slice a la ca, .bool b, .int .i64 k, .int .i64 j] w fun e w' => e = .returned (.bool true) ∧ w' = w := by
  go_enter Trym.func29, Trym.ntmps29
  go_wp2
  go_ret
  exact ⟨rfl, rfl⟩
theorem zz29_no (a : Option Addr) (la ca : Nat) (b : Bool) (k j : Int) (w : World) (h : 1048576 < la) :
    Calls Trym.prog 29 #[.slice a la ca, .bool b, .int .i64 k, .int .i64 j] w fun e w' => e = .returned (.bool false) ∧ w' = w := by
  go_enter Trym.func29, Trym.ntmps29
  go_wp2
  go_ret
  exact ⟨rfl, rfl⟩

set_option maxHeartbeats 1000000 in
theorem walk_main (a0 : Option Addr) (n cap0 : Nat) (A : List Int) (ok : Bool) (k j : Int) (w : World) (s0 : Sl .u8 w a0 n A) (h : n ≤ 1048576) (hr : ok = false ∨ (n : Int) < k) :
    Calls Trym.prog 9 #[.slice a0 n cap0, .bool ok, .int .i64 k, .int .i64 j] w fun e w' => e = .returned (.bool true) ∧ Below w.heap.size w w' := by
  have hnn := fun wx => run_neq_slice_nil_any (P := Trym.prog) wx 38 5 none 0 0 0 0 Trym.underlying38
  have heq : eqv A A = true := by simp [eqv]
  have hpick : (ok = true → (n : Int) < k) := by intro e; subst e; simpa using hr
  clear hr
  go_enter Trym.func9, Trym.ntmps9
  go_wp2_with fail
  refine (zz29_yes _ _ _ _ _ _ _ h).mono ?_
  rintro e w' ⟨rfl, rfl⟩
  cases ok
  all_goals
    try (have hlt : (n : Int) < k := hpick rfl)
    clear hpick
    go_wp2_with fail
    refine (cloneB_any _ _ _ A _ s0 h).mono ?_
    rintro e w1 ⟨a0', c0', rfl, hc0, hc1, s0', b1⟩
    go_wp2_with fail
    refine (take_refused _ _ _ _ _ _ (by first | exact Or.inl rfl | exact Or.inr (by assumption))).mono ?_
    rintro e w2 ⟨rfl, b2⟩
    replace s0' := s0'.below b2
    replace b1 := below_step b1 b2
    clear b2 s0
    go_wp2_with fail
    refine (equalB_any _ _ _ _ _ _ A A _ s0' s0' h).mono ?_
    rintro e w3 ⟨rfl, b2⟩
    replace s0' := s0'.below b2
    replace b1 := below_step b1 b2
    clear b2
    go_wp2_with fail
    refine (take_refused _ _ _ _ _ _ (Or.inl rfl)).mono ?_
    rintro e w4 ⟨rfl, b2⟩
    replace s0' := s0'.below b2
    replace b1 := below_step b1 b2
    clear b2
    go_wp2_with fail
    refine (equalB_any _ _ _ _ _ _ A A _ s0' s0' h).mono ?_
    rintro e w5 ⟨rfl, b2⟩
    replace b1 := below_step b1 b2
    clear b2
    go_wp2_with fail
    go_ret
    exact ⟨rfl, b1⟩

theorem walk (a0 : Option Addr) (len0 cap0 : Nat) (z0 : List Int) (a1 : Bool) (a2 : Int) (a3 : Int) (w : World) (w0 : IsRow .u8 w a0 len0 cap0 z0) (w2 : (Lit.int .i64 a2).wf = true) (w3 : (Lit.int .i64 a3).wf = true) :
    Calls Trym.prog 9 #[.slice a0 len0 cap0, .bool a1, .int .i64 a2, .int .i64 a3] w fun e w' => e = .returned (.bool true) ∧ Below w.heap.size w w' := by
  obtain ⟨A, s0, m0, -⟩ := sl_of_row w0
  clear w0 w2 w3
  by_cases hz : len0 ≤ 1048576
  · by_cases hr : a1 = false ∨ (len0 : Int) < a2
    · exact walk_main a0 len0 cap0 A a1 a2 a3 w s0 hz hr
    · have e1 : a1 = true := by cases a1 <;> simp_all
      have e2 : a2 ≤ (len0 : Int) := by
        have : ¬ (len0 : Int) < a2 := fun h => hr (Or.inr h)
        omega
      subst e1
      clear hr s0
      go_enter Trym.func9, Trym.ntmps9
      go_wp2_with (go_at_call 29; refine (zz29_yes _ _ _ _ _ _ _ hz).mono ?_; rintro e w' ⟨rfl, rfl⟩)
      go_ret
      exact ⟨rfl, Below.refl _ _⟩
  · clear s0
    go_enter Trym.func9, Trym.ntmps9
    go_wp2_with (go_at_call 29; refine (zz29_no _ _ _ _ _ _ _ (by omega)).mono ?_; rintro e w' ⟨rfl, rfl⟩)
    go_ret
    exact ⟨rfl, Below.refl _ _⟩

end Go.Proofs.Qxb6000907aMods.fnTakeRefusalConsumesNothingAndSticks
