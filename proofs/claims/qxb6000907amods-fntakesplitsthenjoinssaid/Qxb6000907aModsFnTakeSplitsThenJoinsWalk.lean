/- The walk of FnTakeSplitsThenJoins, out of the contracts of the Base, Take and Concat texts. -/
import Derived.Test.Qxb6000907aModsConcat
namespace Go.Proofs.Qxb6000907aMods.fnTakeSplitsThenJoins
open Go.RowKit
set_option linter.unusedVariables false

/-- WHAT THE WALK IS TOLD OF A SLICE OF INTEGERS THAT CAME IN: it is nil; or it leads to a row of 'cap' cells, the numbers 'zs' (the first 'len' are its elements, the rest its spare room), each fitting its kind. -/
def IsRow (k : IntKind) (w : World) (a : Option Addr) (len cap : Nat) (zs : List Int) : Prop :=
  (a = none ∧ len = 0 ∧ cap = 0 ∧ zs = []) ∨
  ∃ x, a = some x ∧ len ≤ cap ∧ cap ≤ maxLen ∧ zs.length = cap ∧ (∀ i, i < zs.length → w.cell? (x.add i) = some (.int k (zs.getD i 0))) ∧ ∀ n ∈ zs, (Lit.int k n).wf = true



theorem zz24_yes (a : Option Addr) (la ca : Nat) (k : Int) (w : World) (h : la ≤ 1048576) :
    Calls Trym.prog 24 #[.slice a la ca, .int .i64 k] w fun e w' => e = .returned (.bool true) ∧ w' = w := by
  go_enter Trym.func24, Trym.ntmps24
  go_wp2
  go_ret
  exact ⟨rfl, rfl⟩
theorem zz24_no (a : Option Addr) (la ca : Nat) (k : Int) (w : World) (h : 1048576 < la) :
    Calls Trym.prog 24 #[.slice a la ca, .int .i64 k] w fun e w' => e = .returned (.bool false) ∧ w' = w := by
  go_enter Trym.func24, Trym.ntmps24
  go_wp2
  go_ret
  exact ⟨rfl, rfl⟩

set_option maxHeartbeats 1000000 in
theorem walk_main (a0 : Option Addr) (n cap0 : Nat) (A : List Int) (k : Nat) (w : World) (s0 : Sl .u8 w a0 n A) (h : n ≤ 1048576) (hk : k ≤ n) :
    Calls Trym.prog 8 #[.slice a0 n cap0, .int .i64 k] w fun e w' => e = .returned (.bool true) ∧ Below w.heap.size w w' := by
  have heq : eqv (A.take k ++ A.drop k) A = true := by simp [eqv]
  have hne : ((k : Int) != (k : Int)) = false := by simp
  go_enter Trym.func8, Trym.ntmps8
  go_wp2_with fail
  refine (zz24_yes _ _ _ _ _ h).mono ?_
  rintro e w' ⟨rfl, rfl⟩
  go_wp2_with fail
  refine (cloneB_any _ _ _ A _ s0 h).mono ?_
  rintro e w1 ⟨a0', c0', rfl, hc0, hc1, s0', b1⟩
  clear s0
  go_wp2_with fail
  refine (take_given _ _ _ _ A _ s0' hc0 hk hc1).mono ?_
  rintro e w2 ⟨ar, ap, cr, cp, rfl, sr, sp, hr0, hr1, b2⟩
  replace s0' := s0'.below b2
  replace b1 := below_step b1 b2
  clear b2
  go_wp2_with fail
  refine (concatB_any _ _ _ _ _ _ _ _ _ sp sr (by omega) (by omega)).mono ?_
  rintro e w3 ⟨a3, c3, rfl, s3, b2⟩
  rw [show k + (n - k) = n by omega] at s3 ⊢
  replace s0' := s0'.below b2
  replace b1 := below_step b1 b2
  clear b2 sp sr
  go_wp2_with fail
  refine (equalB_any _ _ _ _ _ _ _ _ _ s3 s0' (by omega)).mono ?_
  rintro e w4 ⟨rfl, b2⟩
  replace b1 := below_step b1 b2
  clear b2
  rw [heq]
  go_wp2_with fail
  go_ret
  exact ⟨rfl, b1⟩

theorem walk (a0 : Option Addr) (len0 cap0 : Nat) (z0 : List Int) (a1 : Int) (w : World) (w0 : IsRow .u8 w a0 len0 cap0 z0) (w1 : (Lit.int .i64 a1).wf = true) :
    Calls Trym.prog 8 #[.slice a0 len0 cap0, .int .i64 a1] w fun e w' => e = .returned (.bool true) ∧ Below w.heap.size w w' := by
  obtain ⟨A, s0, m0, -⟩ := sl_of_row w0
  clear w0 w1
  by_cases hz : len0 ≤ 1048576
  · rcases (show a1 < 0 ∨ (0 ≤ a1 ∧ (len0 : Int) < a1) ∨ (0 ≤ a1 ∧ a1 ≤ (len0 : Int)) by omega) with h | ⟨h, h'⟩ | ⟨h, h'⟩
    · clear s0
      go_enter Trym.func8, Trym.ntmps8
      go_wp2_with (go_at_call 24; refine (zz24_yes _ _ _ _ _ hz).mono ?_; rintro e w' ⟨rfl, rfl⟩)
      go_ret
      exact ⟨rfl, Below.refl _ _⟩
    · clear s0
      go_enter Trym.func8, Trym.ntmps8
      go_wp2_with (go_at_call 24; refine (zz24_yes _ _ _ _ _ hz).mono ?_; rintro e w' ⟨rfl, rfl⟩)
      go_ret
      exact ⟨rfl, Below.refl _ _⟩
    · obtain ⟨k, rfl⟩ := Int.eq_ofNat_of_zero_le h
      exact walk_main a0 len0 cap0 A k w s0 hz (by omega)
  · clear s0
    go_enter Trym.func8, Trym.ntmps8
    go_wp2_with (go_at_call 24; refine (zz24_no _ _ _ _ _ (by omega)).mono ?_; rintro e w' ⟨rfl, rfl⟩)
    go_ret
    exact ⟨rfl, Below.refl _ _⟩

end Go.Proofs.Qxb6000907aMods.fnTakeSplitsThenJoins
