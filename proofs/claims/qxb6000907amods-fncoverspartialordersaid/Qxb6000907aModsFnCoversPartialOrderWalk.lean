/- The walk of FnCoversPartialOrder, out of the contracts of the Base text. -/
import Derived.Test.Qxb6000907aModsBase
namespace Go.Proofs.Qxb6000907aMods.fnCoversPartialOrder
open Go.RowKit
set_option linter.unusedVariables false

/-- WHAT THE WALK IS TOLD OF A SLICE OF INTEGERS THAT CAME IN: it is nil; or it leads to a row of 'cap' cells, the numbers 'zs' (the first 'len' are its elements, the rest its spare room), each fitting its kind. -/
def IsRow (k : IntKind) (w : World) (a : Option Addr) (len cap : Nat) (zs : List Int) : Prop :=
  (a = none ∧ len = 0 ∧ cap = 0 ∧ zs = []) ∨
  ∃ x, a = some x ∧ len ≤ cap ∧ cap ≤ maxLen ∧ zs.length = cap ∧ (∀ i, i < zs.length → w.cell? (x.add i) = some (.int k (zs.getD i 0))) ∧ ∀ n ∈ zs, (Lit.int k n).wf = true


set_option maxHeartbeats 1000000 in
theorem walk_main (a0 : Option Addr) (n cap0 : Nat) (A : List Int) (a1 : Option Addr) (cap1 : Nat) (B : List Int) (a2 : Option Addr) (cap2 : Nat) (C : List Int) (w : World) (s0 : Sl .u64 w a0 n A) (s1 : Sl .u64 w a1 n B) (s2 : Sl .u64 w a2 n C) (h : n ≤ 32768) :
    Calls Trym.prog 3 #[.slice a0 n cap0, .slice a1 n cap1, .slice a2 n cap2] w fun e w' => e = .returned (.bool true) ∧ Below w.heap.size w w' := by
  have hn0 : ((n : Int) != (n : Int)) = false := by simp
  have hAA := cov_refl A
  have HL : Hid (A.length = B.length ∧ C.length = B.length) := ⟨s0.1.trans s1.1.symm, s2.1.trans s1.1.symm⟩
  have hbd : n ≤ 1048576 := by omega
  go_enter Trym.func3, Trym.ntmps3
  go_wp2_with fail
  refine (zz11_yes _ _ _ _ _ _ _ _ _ _ (by omega)).mono ?_
  rintro e w' ⟨rfl, rfl⟩
  go_wp2_with fail
  refine (cloneU_any _ _ _ A _ s0 hbd).mono ?_
  rintro e w1 ⟨a0', c0', rfl, s0', b1⟩
  replace s1 := s1.below b1
  replace s2 := s2.below b1
  go_wp2_with fail
  refine (cloneU_any _ _ _ B _ s1 hbd).mono ?_
  rintro e w2 ⟨a1', c1', rfl, s1', b2⟩
  replace s0' := s0'.below b2
  replace s2 := s2.below b2
  replace b1 := below_step b1 b2
  clear b2
  go_wp2_with fail
  refine (cloneU_any _ _ _ C _ s2 hbd).mono ?_
  rintro e w3 ⟨a2', c2', rfl, s2', b2⟩
  replace s0' := s0'.below b2
  replace s1' := s1'.below b2
  replace b1 := below_step b1 b2
  clear b2
  clear s0 s1 s2
  go_wp2_with fail
  refine (zzcovers_any _ _ _ _ _ _ A A _ s0' s0' (Nat.le_refl _) hbd).mono ?_
  rintro e w4 ⟨rfl, b2⟩
  replace s0' := s0'.below b2
  replace s1' := s1'.below b2
  replace s2' := s2'.below b2
  replace b1 := below_step b1 b2
  clear b2
  go_wp2_with fail
  refine (zzcovers_any _ _ _ _ _ _ A B _ s0' s1' (Nat.le_refl _) hbd).mono ?_
  rintro e w5 ⟨rfl, b2⟩
  replace s0' := s0'.below b2
  replace s1' := s1'.below b2
  replace s2' := s2'.below b2
  replace b1 := below_step b1 b2
  clear b2
  cases hab : cov A B
  · go_wp2_with fail
    refine (zzcovers_any _ _ _ _ _ _ A B _ s0' s1' (Nat.le_refl _) hbd).mono ?_
    rintro e w6 ⟨rfl, b2⟩
    replace b1 := below_step b1 b2
    go_wp2_with fail
    go_ret
    exact ⟨rfl, b1⟩
  · go_wp2_with fail
    refine (zzcovers_any _ _ _ _ _ _ B C _ s1' s2' (Nat.le_refl _) hbd).mono ?_
    rintro e w6 ⟨rfl, b2⟩
    replace s0' := s0'.below b2
    replace s1' := s1'.below b2
    replace s2' := s2'.below b2
    replace b1 := below_step b1 b2
    clear b2
    cases hbc : cov B C
    · go_wp2_with fail
      refine (zzcovers_any _ _ _ _ _ _ A B _ s0' s1' (Nat.le_refl _) hbd).mono ?_
      rintro e w7 ⟨rfl, b2⟩
      replace s0' := s0'.below b2
      replace s1' := s1'.below b2
      replace b1 := below_step b1 b2
      clear b2
      go_wp2_with fail
      refine (zzcovers_any _ _ _ _ _ _ B A _ s1' s0' (Nat.le_refl _) hbd).mono ?_
      rintro e w8 ⟨rfl, b2⟩
      replace s0' := s0'.below b2
      replace s1' := s1'.below b2
      replace b1 := below_step b1 b2
      clear b2
      cases hba : cov B A
      · go_wp2_with fail
        go_ret
        exact ⟨rfl, b1⟩
      · have heq := cov_anti HL.out.1 hab hba
        go_wp2_with fail
        refine (equalU_any _ _ _ _ _ _ A B _ s0' s1' hbd).mono ?_
        rintro e w9 ⟨rfl, b2⟩
        replace b1 := below_step b1 b2
        clear b2
        go_wp2_with fail
        go_ret
        exact ⟨rfl, b1⟩
    · have hac := cov_trans (A := A) (Nat.le_of_eq HL.out.2) hab hbc
      go_wp2_with fail
      refine (zzcovers_any _ _ _ _ _ _ A C _ s0' s2' (Nat.le_refl _) hbd).mono ?_
      rintro e w6b ⟨rfl, b2⟩
      replace s0' := s0'.below b2
      replace s1' := s1'.below b2
      replace b1 := below_step b1 b2
      clear b2 s2'
      go_wp2_with fail
      refine (zzcovers_any _ _ _ _ _ _ A B _ s0' s1' (Nat.le_refl _) hbd).mono ?_
      rintro e w7 ⟨rfl, b2⟩
      replace s0' := s0'.below b2
      replace s1' := s1'.below b2
      replace b1 := below_step b1 b2
      clear b2
      go_wp2_with fail
      refine (zzcovers_any _ _ _ _ _ _ B A _ s1' s0' (Nat.le_refl _) hbd).mono ?_
      rintro e w8 ⟨rfl, b2⟩
      replace s0' := s0'.below b2
      replace s1' := s1'.below b2
      replace b1 := below_step b1 b2
      clear b2
      cases hba : cov B A
      · go_wp2_with fail
        go_ret
        exact ⟨rfl, b1⟩
      · have heq := cov_anti HL.out.1 hab hba
        go_wp2_with fail
        refine (equalU_any _ _ _ _ _ _ A B _ s0' s1' hbd).mono ?_
        rintro e w9 ⟨rfl, b2⟩
        replace b1 := below_step b1 b2
        clear b2
        go_wp2_with fail
        go_ret
        exact ⟨rfl, b1⟩

/-! ### STEP 1: THE WALK: the Go text returns true, AND WRITES NOTHING THAT WAS THERE: 'Below w.heap.size w w'' (Derived/Below.lean: '.refl', '.alloc', '.drew', '.setCell' at a new block, '.trans'). Open each 'IsRow' by 'rcases' AHEAD of 'go_enter'; part every test ahead of the walk. -/
theorem walk (a0 : Option Addr) (len0 cap0 : Nat) (z0 : List Int) (a1 : Option Addr) (len1 cap1 : Nat) (z1 : List Int) (a2 : Option Addr) (len2 cap2 : Nat) (z2 : List Int) (w : World) (w0 : IsRow .u64 w a0 len0 cap0 z0) (w1 : IsRow .u64 w a1 len1 cap1 z1) (w2 : IsRow .u64 w a2 len2 cap2 z2) :
    Calls Trym.prog 3 #[.slice a0 len0 cap0, .slice a1 len1 cap1, .slice a2 len2 cap2] w fun e w' => e = .returned (.bool true) ∧ Below w.heap.size w w' := by
  obtain ⟨A, s0, m0, -⟩ := sl_of_row w0
  obtain ⟨B, s1, m1, -⟩ := sl_of_row w1
  obtain ⟨C, s2, m2, -⟩ := sl_of_row w2
  clear w0 w1 w2
  by_cases hz : len0 + len1 + len2 ≤ 1048576
  · rcases (show (32768 < len0) ∨ (len0 ≤ 32768 ∧ 32768 < len1) ∨ (len0 ≤ 32768 ∧ len1 ≤ 32768 ∧ 32768 < len2) ∨ (len0 ≤ 32768 ∧ len1 ≤ 32768 ∧ len2 ≤ 32768 ∧ len1 ≠ len0) ∨ (len0 ≤ 32768 ∧ len1 ≤ 32768 ∧ len2 ≤ 32768 ∧ len1 = len0 ∧ len2 ≠ len0) ∨ (len0 ≤ 32768 ∧ len1 = len0 ∧ len2 = len0) by omega) with h | ⟨h, h'⟩ | ⟨h, h', h2⟩ | ⟨h, h', h2, h3⟩ | ⟨h, h', h2, rfl, h4⟩ | ⟨h, rfl, rfl⟩
    · clear s0 s1 s2
      go_enter Trym.func3, Trym.ntmps3
      go_wp2_with (go_at_call 11; refine (zz11_yes _ _ _ _ _ _ _ _ _ _ hz).mono ?_; rintro e w' ⟨rfl, rfl⟩)
      go_ret
      exact ⟨rfl, Below.refl _ _⟩
    · clear s0 s1 s2
      go_enter Trym.func3, Trym.ntmps3
      go_wp2_with (go_at_call 11; refine (zz11_yes _ _ _ _ _ _ _ _ _ _ hz).mono ?_; rintro e w' ⟨rfl, rfl⟩)
      go_ret
      exact ⟨rfl, Below.refl _ _⟩
    · clear s0 s1 s2
      go_enter Trym.func3, Trym.ntmps3
      go_wp2_with (go_at_call 11; refine (zz11_yes _ _ _ _ _ _ _ _ _ _ hz).mono ?_; rintro e w' ⟨rfl, rfl⟩)
      go_ret
      exact ⟨rfl, Below.refl _ _⟩
    · clear s0 s1 s2
      have hn : ((len1 : Int) != (len0 : Int)) = true := by simp; omega
      go_enter Trym.func3, Trym.ntmps3
      go_wp2_with (go_at_call 11; refine (zz11_yes _ _ _ _ _ _ _ _ _ _ hz).mono ?_; rintro e w' ⟨rfl, rfl⟩)
      go_ret
      exact ⟨rfl, Below.refl _ _⟩
    · clear s0 s1 s2
      have hn0 : ((len1 : Int) != (len1 : Int)) = false := by simp
      have hn : ((len2 : Int) != (len1 : Int)) = true := by simp; omega
      go_enter Trym.func3, Trym.ntmps3
      go_wp2_with (go_at_call 11; refine (zz11_yes _ _ _ _ _ _ _ _ _ _ hz).mono ?_; rintro e w' ⟨rfl, rfl⟩)
      go_ret
      exact ⟨rfl, Below.refl _ _⟩
    · exact walk_main a0 len2 cap0 A a1 cap1 B a2 cap2 C w s0 s1 s2 h
  · go_enter Trym.func3, Trym.ntmps3
    go_wp2_with (go_at_call 11; refine (zz11_no _ _ _ _ _ _ _ _ _ _ (by omega)).mono ?_; rintro e w' ⟨rfl, rfl⟩)
    go_ret
    exact ⟨rfl, Below.refl _ _⟩

end Go.Proofs.Qxb6000907aMods.fnCoversPartialOrder
