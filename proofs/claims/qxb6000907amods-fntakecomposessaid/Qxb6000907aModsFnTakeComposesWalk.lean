/- The walk of FnTakeComposes, out of the contracts of the Base, Take and Concat texts. -/
import Derived.Test.Qxb6000907aModsConcat
namespace Go.Proofs.Qxb6000907aMods.fnTakeComposes
open Go.RowKit
set_option linter.unusedVariables false

/-- WHAT THE WALK IS TOLD OF A SLICE OF INTEGERS THAT CAME IN: it is nil; or it leads to a row of 'cap' cells, the numbers 'zs' (the first 'len' are its elements, the rest its spare room), each fitting its kind. -/
def IsRow (k : IntKind) (w : World) (a : Option Addr) (len cap : Nat) (zs : List Int) : Prop :=
  (a = none ∧ len = 0 ∧ cap = 0 ∧ zs = []) ∨
  ∃ x, a = some x ∧ len ≤ cap ∧ cap ≤ maxLen ∧ zs.length = cap ∧ (∀ i, i < zs.length → w.cell? (x.add i) = some (.int k (zs.getD i 0))) ∧ ∀ n ∈ zs, (Lit.int k n).wf = true



theorem zz30_yes (a : Option Addr) (la ca : Nat) (b : Bool) (k j : Int) (w : World) (h : la ≤ 1048576) :
    Calls Trym.prog 30 #[.slice a la ca, .bool b, .int .i64 k, .int .i64 j] w fun e w' => e = .returned (.bool true) ∧ w' = w := by
  go_enter Trym.func30, Trym.ntmps30
  go_wp2
  go_ret
  exact ⟨rfl, rfl⟩
theorem zz30_no (a : Option Addr) (la ca : Nat) (b : Bool) (k j : Int) (w : World) (h : 1048576 < la) :
    Calls Trym.prog 30 #[.slice a la ca, .bool b, .int .i64 k, .int .i64 j] w fun e w' => e = .returned (.bool false) ∧ w' = w := by
  go_enter Trym.func30, Trym.ntmps30
  go_wp2
  go_ret
  exact ⟨rfl, rfl⟩
theorem take_given_int (a : Option Addr) (len cap : Nat) (K : Int) (k : Nat) (A : List Int) (w : World) (hK : K = (k : Int)) (s : Sl .u8 w a len A) (hc : len ≤ cap) (hk : k ≤ len) (hb : cap ≤ 1048576) :
    Calls Trym.prog 26 #[.slice a len cap, .bool true, .int .i64 K] w fun e w' => ∃ ar ap cr cp, e = .returned (.tuple #[.slice ar (len - k) cr, .bool true, .slice ap k cp]) ∧ Sl .u8 w' ar (len - k) (A.drop k) ∧ Sl .u8 w' ap k (A.take k) ∧ len - k ≤ cr ∧ cr ≤ 1048576 ∧ Below w.heap.size w w' := by
  subst hK; exact take_given a len cap k A w s hc hk hb

set_option maxHeartbeats 1000000 in
/-- The decoder had failed, or the first take goes past the end. -/
theorem walk_refused (a0 : Option Addr) (n cap0 : Nat) (A : List Int) (ok : Bool) (i j : Nat) (w : World) (s0 : Sl .u8 w a0 n A) (h : n ≤ 1048576) (hi : i ≤ 536870912) (hj : j ≤ 536870912) (hr : ok = false ∨ n < i) :
    Calls Trym.prog 10 #[.slice a0 n cap0, .bool ok, .int .i64 i, .int .i64 j] w fun e w' => e = .returned (.bool true) ∧ Below w.heap.size w w' := by
  have hpick : (ok = true → n < i) := by intro e; subst e; simpa using hr
  clear hr
  have hff : (false != false) = false := rfl
  go_enter Trym.func10, Trym.ntmps10
  go_wp2_with fail
  refine (zz30_yes _ _ _ _ _ _ _ h).mono ?_
  rintro e w' ⟨rfl, rfl⟩
  cases ok
  all_goals
    try (have hlt : n < i := hpick rfl)
    try (have hlt1 : (n : Int) < (i : Int) := by omega)
    try (have hlt2 : (n : Int) < (i : Int) + (j : Int) := by omega)
    clear hpick
    go_wp2_with fail
    refine (cloneB_any _ _ _ A _ s0 h).mono ?_
    rintro e w1 ⟨a0', c0', rfl, hc0, hc1, s0', b1⟩
    clear s0
    go_wp2_with fail
    refine (take_refused _ _ _ _ _ _ (by first | exact Or.inl rfl | exact Or.inr (by assumption))).mono ?_
    rintro e w2 ⟨rfl, b2⟩
    replace b1 := below_step b1 b2
    clear b2
    go_wp2_with fail
    refine (take_refused _ _ _ _ _ _ (Or.inl rfl)).mono ?_
    rintro e w3 ⟨rfl, b2⟩
    replace b1 := below_step b1 b2
    clear b2
    go_wp2_with fail
    refine (take_refused _ _ _ _ _ _ (by first | exact Or.inl rfl | exact Or.inr (by assumption))).mono ?_
    rintro e w4 ⟨rfl, b2⟩
    replace b1 := below_step b1 b2
    clear b2
    go_wp2_with fail
    go_ret
    exact ⟨rfl, b1⟩

set_option maxHeartbeats 1000000 in
/-- The first take succeeds, the second goes past the end. -/
theorem walk_short (a0 : Option Addr) (n cap0 : Nat) (A : List Int) (i j : Nat) (w : World) (s0 : Sl .u8 w a0 n A) (h : n ≤ 1048576) (hi : i ≤ n) (hj : j ≤ 536870912) (hij : n < i + j) :
    Calls Trym.prog 10 #[.slice a0 n cap0, .bool true, .int .i64 i, .int .i64 j] w fun e w' => e = .returned (.bool true) ∧ Below w.heap.size w w' := by
  have hlt2 : (n : Int) < (i : Int) + (j : Int) := by omega
  go_enter Trym.func10, Trym.ntmps10
  go_wp2_with fail
  refine (zz30_yes _ _ _ _ _ _ _ h).mono ?_
  rintro e w' ⟨rfl, rfl⟩
  go_wp2_with fail
  refine (cloneB_any _ _ _ A _ s0 h).mono ?_
  rintro e w1 ⟨a0', c0', rfl, hc0, hc1, s0', b1⟩
  clear s0
  go_wp2_with fail
  refine (take_given _ _ _ _ A _ s0' hc0 hi hc1).mono ?_
  rintro e w2 ⟨ar, ap, cr, cp, rfl, sr, sp, hr0, hr1, b2⟩
  replace b1 := below_step b1 b2
  clear b2
  go_wp2_with fail
  refine (take_refused _ _ _ _ _ _ (Or.inr (by omega))).mono ?_
  rintro e w3 ⟨rfl, b2⟩
  replace b1 := below_step b1 b2
  clear b2
  go_wp2_with fail
  refine (take_refused _ _ _ _ _ _ (Or.inr (by omega))).mono ?_
  rintro e w4 ⟨rfl, b2⟩
  replace b1 := below_step b1 b2
  clear b2
  go_wp2_with fail
  go_ret
  exact ⟨rfl, b1⟩

set_option maxHeartbeats 1000000 in
/-- All three takes succeed. -/
theorem walk_long (a0 : Option Addr) (n cap0 : Nat) (A : List Int) (i j : Nat) (w : World) (s0 : Sl .u8 w a0 n A) (h : n ≤ 1048576) (hij : i + j ≤ n) :
    Calls Trym.prog 10 #[.slice a0 n cap0, .bool true, .int .i64 i, .int .i64 j] w fun e w' => e = .returned (.bool true) ∧ Below w.heap.size w w' := by
  have hlt2 : (i : Int) + (j : Int) ≤ (n : Int) := by omega
  have heq1 : eqv (A.take i ++ (A.drop i).take j) (A.take (i + j)) = true := by simp [eqv, List.take_add]
  have heq2 : eqv ((A.drop i).drop j) (A.drop (i + j)) = true := by simp [eqv, List.drop_drop]
  go_enter Trym.func10, Trym.ntmps10
  go_wp2_with fail
  refine (zz30_yes _ _ _ _ _ _ _ h).mono ?_
  rintro e w' ⟨rfl, rfl⟩
  go_wp2_with fail
  refine (cloneB_any _ _ _ A _ s0 h).mono ?_
  rintro e w1 ⟨a0', c0', rfl, hc0, hc1, s0', b1⟩
  clear s0
  go_wp2_with fail
  refine (take_given _ _ _ _ A _ s0' hc0 (by omega) hc1).mono ?_
  rintro e w2 ⟨ar1, ap1, cr1, cp1, rfl, sr1, sp1, hr0, hr1, b2⟩
  replace s0' := s0'.below b2
  replace b1 := below_step b1 b2
  clear b2
  go_wp2_with fail
  refine (take_given _ _ _ _ (A.drop i) _ sr1 hr0 (by omega) hr1).mono ?_
  rintro e w3 ⟨ar2, ap2, cr2, cp2, rfl, sr2, sp2, hr2, hr3, b2⟩
  replace s0' := s0'.below b2
  replace sp1 := sp1.below b2
  replace b1 := below_step b1 b2
  clear b2 sr1
  go_wp2_with fail
  refine (take_given_int _ _ _ _ (i + j) A _ (by omega) s0' hc0 (by omega) hc1).mono ?_
  rintro e w4 ⟨ar3, ap3, cr3, cp3, rfl, sr3, sp3, hr4, hr5, b2⟩
  replace sp1 := sp1.below b2
  replace sp2 := sp2.below b2
  replace sr2 := sr2.below b2
  replace b1 := below_step b1 b2
  clear b2 s0'
  go_wp2_with fail
  refine (concatB_any _ _ _ _ _ _ _ _ _ sp1 sp2 (by omega) (by omega)).mono ?_
  rintro e w5 ⟨a5, c5, rfl, s5, b2⟩
  replace sp3 := sp3.below b2
  replace sr2 := sr2.below b2
  replace sr3 := sr3.below b2
  replace b1 := below_step b1 b2
  clear b2 sp1 sp2
  go_wp2_with fail
  refine (equalB_any _ _ _ _ _ _ _ _ _ s5 sp3 (by omega)).mono ?_
  rintro e w6 ⟨rfl, b2⟩
  replace sr2 := sr2.below b2
  replace sr3 := sr3.below b2
  replace b1 := below_step b1 b2
  clear b2 sp3 s5
  rw [heq1]
  go_wp2_with fail
  refine (equalB_any _ _ _ _ _ _ _ _ _ sr2 sr3 (by omega)).mono ?_
  rintro e w7 ⟨rfl, b2⟩
  replace b1 := below_step b1 b2
  clear b2 sr2 sr3
  rw [heq2]
  go_wp2_with fail
  go_ret
  exact ⟨rfl, b1⟩

theorem walk (a0 : Option Addr) (len0 cap0 : Nat) (z0 : List Int) (a1 : Bool) (a2 : Int) (a3 : Int) (w : World) (w0 : IsRow .u8 w a0 len0 cap0 z0) (w2 : (Lit.int .i64 a2).wf = true) (w3 : (Lit.int .i64 a3).wf = true) :
    Calls Trym.prog 10 #[.slice a0 len0 cap0, .bool a1, .int .i64 a2, .int .i64 a3] w fun e w' => e = .returned (.bool true) ∧ Below w.heap.size w w' := by
  obtain ⟨A, s0, m0, -⟩ := sl_of_row w0
  clear w0 w2 w3
  by_cases hz : len0 ≤ 1048576
  · rcases (show a2 < 0 ∨ (0 ≤ a2 ∧ a3 < 0) ∨ (0 ≤ a2 ∧ 0 ≤ a3 ∧ 536870912 < a2) ∨ (0 ≤ a2 ∧ 0 ≤ a3 ∧ a2 ≤ 536870912 ∧ 536870912 < a3) ∨ (0 ≤ a2 ∧ 0 ≤ a3 ∧ a2 ≤ 536870912 ∧ a3 ≤ 536870912) by omega) with h | ⟨h, h'⟩ | ⟨h, h', h2⟩ | ⟨h, h', h2, h3⟩ | ⟨h, h', h2, h3⟩
    case' inr.inr.inr.inr =>
      obtain ⟨i, rfl⟩ := Int.eq_ofNat_of_zero_le h
      obtain ⟨j, rfl⟩ := Int.eq_ofNat_of_zero_le h'
      by_cases hr : a1 = false ∨ len0 < i
      · exact walk_refused a0 len0 cap0 A a1 i j w s0 hz (by omega) (by omega) hr
      · have e1 : a1 = true := by cases a1 <;> simp_all
        have e2 : i ≤ len0 := by
          have : ¬ len0 < i := fun h => hr (Or.inr h)
          omega
        subst e1
        by_cases hij : i + j ≤ len0
        · exact walk_long a0 len0 cap0 A i j w s0 hz hij
        · exact walk_short a0 len0 cap0 A i j w s0 hz e2 (by omega) (by omega)
    all_goals
      clear s0
      go_enter Trym.func10, Trym.ntmps10
      go_wp2_with (go_at_call 30; refine (zz30_yes _ _ _ _ _ _ _ hz).mono ?_; rintro e w' ⟨rfl, rfl⟩)
      go_ret
      exact ⟨rfl, Below.refl _ _⟩
  · clear s0
    go_enter Trym.func10, Trym.ntmps10
    go_wp2_with (go_at_call 30; refine (zz30_no _ _ _ _ _ _ _ (by omega)).mono ?_; rintro e w' ⟨rfl, rfl⟩)
    go_ret
    exact ⟨rfl, Below.refl _ _⟩

end Go.Proofs.Qxb6000907aMods.fnTakeComposes
