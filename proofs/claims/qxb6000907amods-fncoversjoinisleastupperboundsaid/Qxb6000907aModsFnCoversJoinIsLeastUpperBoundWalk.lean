/- The walk of FnCoversJoinIsLeastUpperBound, out of the contracts of the Base text. -/
import Derived.Test.Qxb6000907aModsBase
namespace Go.Proofs.Qxb6000907aMods.fnCoversJoinIsLeastUpperBound
open Go.RowKit
set_option linter.unusedVariables false

/-- WHAT THE WALK IS TOLD OF A SLICE OF INTEGERS THAT CAME IN: it is nil; or it leads to a row of 'cap' cells, the numbers 'zs' (the first 'len' are its elements, the rest its spare room), each fitting its kind. -/
def IsRow (k : IntKind) (w : World) (a : Option Addr) (len cap : Nat) (zs : List Int) : Prop :=
  (a = none ∧ len = 0 ∧ cap = 0 ∧ zs = []) ∨
  ∃ x, a = some x ∧ len ≤ cap ∧ cap ≤ maxLen ∧ zs.length = cap ∧ (∀ i, i < zs.length → w.cell? (x.add i) = some (.int k (zs.getD i 0))) ∧ ∀ n ∈ zs, (Lit.int k n).wf = true



theorem owns_drewN {w : World} {base e size n : Nat} {v : Value} {xs : List Value} (h : w.ownsRow base e size v n xs) (q : Nat) : (w.drewN q).ownsRow base e size v n xs := h
/-- The pointwise maximum. -/
def mx (A B : List Int) : List Int := (List.range A.length).map fun i => max (A.getD i 0) (B.getD i 0)
theorem mx_len (A B : List Int) : (mx A B).length = A.length := by simp [mx]
theorem mx_at (A B : List Int) {i : Nat} (h : i < A.length) : (mx A B).getD i 0 = max (A.getD i 0) (B.getD i 0) := by simp [mx, List.getD, h]
theorem cov_mx_left (A B : List Int) : cov (mx A B) A = true := cov_true fun i hi => by rw [mx_at A B hi]; omega
theorem cov_mx_right {A B : List Int} (hl : A.length = B.length) : cov (mx A B) B = true := cov_true fun i hi => by rw [mx_at A B (by omega)]; omega
theorem eqv_mx {A B : List Int} (hl : A.length = B.length) : eqv (mx A B) A = cov A B := by
  cases h : cov A B
  · have h' : ¬ ∀ i, i < B.length → B.getD i 0 ≤ A.getD i 0 := fun hh => by rw [cov_true hh] at h; cases h
    obtain ⟨i, hi⟩ := Classical.not_forall.1 h'
    obtain ⟨hi, hgt⟩ := Classical.not_imp.1 hi
    exact eqv_false (i := i) (by rw [mx_at A B (by omega)]; omega)
  · exact eqv_true (mx_len A B) rfl fun i hi => by
      have := cov_iff.1 h i (by omega)
      rw [mx_at A B hi]; omega
theorem cov_mx_least {A B C : List Int} (hl : A.length = B.length) (h1 : cov C A = true) (h2 : cov C B = true) : cov C (mx A B) = true :=
  cov_true fun i hi => by
    rw [mx_len] at hi
    have := cov_iff.1 h1 i hi
    have := cov_iff.1 h2 i (by omega)
    rw [mx_at A B hi]; omega

set_option maxHeartbeats 2000000 in
theorem walk_main (a0 : Option Addr) (n cap0 : Nat) (A : List Int) (a1 : Option Addr) (cap1 : Nat) (B : List Int) (a2 : Option Addr) (cap2 : Nat) (C : List Int) (w : World) (s0 : Sl .u64 w a0 n A) (s1 : Sl .u64 w a1 n B) (s2 : Sl .u64 w a2 n C) (h : n ≤ 32768) :
    Calls Trym.prog 4 #[.slice a0 n cap0, .slice a1 n cap1, .slice a2 n cap2] w fun e w' => e = .returned (.bool true) ∧ Below w.heap.size w w' := by
  have hn0 : ((n : Int) != (n : Int)) = false := by simp
  have HL : Hid (A.length = n ∧ B.length = n ∧ C.length = n) := ⟨s0.1, s1.1, s2.1⟩
  have hbd : n ≤ 1048576 := by omega
  obtain ⟨i0, hi, hz0, hz1, hz2⟩ := info_parts Trym.info26
  go_enter Trym.func4, Trym.ntmps4
  go_wp2_with fail
  refine (zz15_yes _ _ _ _ _ _ _ _ _ _ (by omega)).mono ?_
  rintro e w' ⟨rfl, rfl⟩
  go_wp2_with fail
  refine (cloneU_any _ _ _ A _ s0 hbd).mono ?_
  rintro e w1 ⟨a0', c0', rfl, s0', b1⟩
  replace s1 := s1.below b1
  replace s2 := s2.below b1
  go_wp2_with fail
  refine (cloneU_any _ _ _ B _ s1 hbd).mono ?_
  rintro e w2 ⟨a1', c1', rfl, s1', b2⟩
  replace s0' := s0'.below b2
  replace s2 := s2.below b2
  replace b1 := below_step b1 b2
  clear b2
  go_wp2_with fail
  refine (cloneU_any _ _ _ C _ s2 hbd).mono ?_
  rintro e w3 ⟨a2', c2', rfl, s2', b2⟩
  replace s0' := s0'.below b2
  replace s1' := s1'.below b2
  replace b1 := below_step b1 b2
  clear b2
  clear s0 s1 s2
  go_wp2_with (at_make; refine wpList_make_full _ rfl _ _ 22 rfl w3.heap.size 26 i0 (.int .u64 0) 1 Trym.underlying22 hi hz0 hz1 _ _ _ _ n rfl rfl rfl rfl ?b2 ?b3 (Nat.le_refl _) ?_)
  case b2 => rw [hz2]; omega
  case b3 => unfold maxLen; omega
  intro w4 hown0 hgrow0
  go_wp2_with fail
  go_loopw [8] (fun i wr => ∃ (k : Nat) (xs : List Value), k ≤ n ∧ i = .int .i64 k ∧ wr.ownsRow w3.heap.size 26 1 (.slice (some ⟨w3.heap.size, 0, none⟩) n n) n xs ∧ (∀ t, t < k → xs[t]? = some (.int .u64 ((mx A B).getD t 0))) ∧ Below w3.heap.size w3 wr) (fun i _ => n - (intOf i).toNat)
  case atStart => exact ⟨0, _, Nat.zero_le _, rfl, hown0, fun t ht => by omega, (Below.refl _ _).grown hgrow0 (Nat.le_refl _) (fun k h => by cases h)⟩
  case round =>
    obtain ⟨k, xs, hk, rfl, hown, hsofar, hbel⟩ := hrel
    have HS : Hid (∀ t, t < k → xs[t]? = some (.int .u64 ((mx A B).getD t 0))) := hsofar
    clear hsofar hown0 hgrow0
    by_cases hlt : k < n
    · obtain ⟨p1, o1, rfl, hb1, hc1⟩ := s0'.2 (by omega)
      obtain ⟨p2, o2, rfl, hb2, hc2⟩ := s1'.2 (by omega)
      have hxl : k < xs.length := by have := hown.1; omega
      obtain ⟨x, hx⟩ : ∃ x, x = A.getD k 0 := ⟨_, rfl⟩
      obtain ⟨y, hy⟩ : ∃ y, y = B.getD k 0 := ⟨_, rfl⟩
      have g1 : wr.cell? ⟨p1, o1 + k, none⟩ = some (.int .u64 x) := by rw [hx]; exact (hbel.cell (p := ⟨p1, o1 + k, none⟩) hb1).trans (hc1 k (by omega))
      have g2 : wr.cell? ⟨p2, o2 + k, none⟩ = some (.int .u64 y) := by rw [hy]; exact (hbel.cell (p := ⟨p2, o2 + k, none⟩) hb2).trans (hc2 k (by omega))
      obtain ⟨v0, g3⟩ : ∃ v0, wr.cell? ⟨w3.heap.size, k, none⟩ = some v0 := ⟨xs[k], by rw [hown.cellAt k (by omega)]; simp [hxl]⟩
      have g4 : wr.frozen? ⟨w3.heap.size, k, none⟩ = false := hown.frozenAt k
      have hkk : (k : Int) < (n : Int) := by omega
      have hxy : (mx A B).getD k 0 = max x y := by rw [mx_at A B (by have := HL.out; omega), hx, hy]
      have HXY : Hid ((mx A B).getD k 0 = max x y) := hxy
      have HR := fun (v : Int) q => (owns_drewN hown q).stored k (.int .u64 v)
      have HR' : Hid _ := HR
      have HXL : Hid (k < xs.length) := hxl
      clear hx hy hc1 hc2 HR hown hxl hxy s0' s1' s2'
      by_cases hge : y ≤ x
      · go_wp2
        go_quiet (fail)
        go_wp2
        go_roundw
        case rel => exact ⟨k + 1, _, by omega, by go_num, (HR'.out x _).1, (by have := fill_step HXL.out HS.out; rw [HXY.out, show max x y = x by omega] at this; exact this), (below_drewN hbel _).setCell (by simp) _⟩
        case measure => simp [intOf]; omega
      · go_wp2
        go_quiet (fail)
        go_wp2
        go_roundw
        case rel => exact ⟨k + 1, _, by omega, by go_num, (HR'.out y _).1, (by have := fill_step HXL.out HS.out; rw [HXY.out, show max x y = y by omega] at this; exact this), (below_drewN hbel _).setCell (by simp) _⟩
        case measure => simp [intOf]; omega
    · have hkl : k = n := by omega
      have sm : Sl .u64 wr (some ⟨w3.heap.size, 0, none⟩) n (mx A B) := Sl.own hown ((mx_len A B).trans HL.out.1) (fun t ht => HS.out t (by omega))
      replace s0' := s0'.below hbel
      replace s1' := s1'.below hbel
      replace s2' := s2'.below hbel
      replace b1 := below_step b1 hbel
      have hlen : Hid (A.length = B.length) := HL.out.1.trans HL.out.2.1.symm
      have hma := cov_mx_left A B
      have hmb := cov_mx_right hlen.out
      have hea := eqv_mx hlen.out
      have HLE : Hid (cov C A = true → cov C B = true → cov C (mx A B) = true) := fun h1 h2 => cov_mx_least hlen.out h1 h2
      generalize mx A B = M at *
      have HK : Hid (k = n) := hkl
      clear hkl HS hown hbel
      go_wp2_with fail
      refine (zzcovers_any _ _ _ _ _ _ M A _ sm s0' (Nat.le_refl _) hbd).mono ?_
      rintro e w5 ⟨rfl, b2⟩
      replace sm := sm.below b2
      replace s0' := s0'.below b2
      replace s1' := s1'.below b2
      replace s2' := s2'.below b2
      replace b1 := below_step b1 b2
      clear b2
      go_wp2_with fail
      refine (zzcovers_any _ _ _ _ _ _ M B _ sm s1' (Nat.le_refl _) hbd).mono ?_
      rintro e w6 ⟨rfl, b2⟩
      replace sm := sm.below b2
      replace s0' := s0'.below b2
      replace s1' := s1'.below b2
      replace s2' := s2'.below b2
      replace b1 := below_step b1 b2
      clear b2
      go_wp2_with fail
      refine (zzcovers_any _ _ _ _ _ _ A B _ s0' s1' (Nat.le_refl _) hbd).mono ?_
      rintro e w7 ⟨rfl, b2⟩
      replace sm := sm.below b2
      replace s0' := s0'.below b2
      replace s1' := s1'.below b2
      replace s2' := s2'.below b2
      replace b1 := below_step b1 b2
      clear b2
      go_wp2_with fail
      refine (equalU_any _ _ _ _ _ _ M A _ sm s0' hbd).mono ?_
      rintro e w8 ⟨rfl, b2⟩
      replace sm := sm.below b2
      replace s0' := s0'.below b2
      replace s1' := s1'.below b2
      replace s2' := s2'.below b2
      replace b1 := below_step b1 b2
      clear b2
      rw [hea]
      have hbb : (cov A B != cov A B) = false := by simp
      clear hea
      go_wp2_with fail
      refine (zzcovers_any _ _ _ _ _ _ C A _ s2' s0' (Nat.le_refl _) hbd).mono ?_
      rintro e w9 ⟨rfl, b2⟩
      replace sm := sm.below b2
      replace s1' := s1'.below b2
      replace s2' := s2'.below b2
      replace b1 := below_step b1 b2
      clear b2 s0'
      cases hca : cov C A
      · go_wp2_with fail
        go_ret
        exact ⟨rfl, b1⟩
      · go_wp2_with fail
        refine (zzcovers_any _ _ _ _ _ _ C B _ s2' s1' (Nat.le_refl _) hbd).mono ?_
        rintro e w10 ⟨rfl, b2⟩
        replace sm := sm.below b2
        replace s2' := s2'.below b2
        replace b1 := below_step b1 b2
        clear b2 s1'
        cases hcb : cov C B
        · go_wp2_with fail
          go_ret
          exact ⟨rfl, b1⟩
        · have hcm := HLE.out hca hcb
          go_wp2_with fail
          refine (zzcovers_any _ _ _ _ _ _ C M _ s2' sm (Nat.le_refl _) hbd).mono ?_
          rintro e w11 ⟨rfl, b2⟩
          replace b1 := below_step b1 b2
          clear b2
          go_wp2_with fail
          go_ret
          exact ⟨rfl, b1⟩

/-! ### STEP 1: THE WALK: the Go text returns true, AND WRITES NOTHING THAT WAS THERE: 'Below w.heap.size w w'' (Derived/Below.lean: '.refl', '.alloc', '.drew', '.setCell' at a new block, '.trans'). Open each 'IsRow' by 'rcases' AHEAD of 'go_enter'; part every test ahead of the walk. -/
theorem walk (a0 : Option Addr) (len0 cap0 : Nat) (z0 : List Int) (a1 : Option Addr) (len1 cap1 : Nat) (z1 : List Int) (a2 : Option Addr) (len2 cap2 : Nat) (z2 : List Int) (w : World) (w0 : IsRow .u64 w a0 len0 cap0 z0) (w1 : IsRow .u64 w a1 len1 cap1 z1) (w2 : IsRow .u64 w a2 len2 cap2 z2) :
    Calls Trym.prog 4 #[.slice a0 len0 cap0, .slice a1 len1 cap1, .slice a2 len2 cap2] w fun e w' => e = .returned (.bool true) ∧ Below w.heap.size w w' := by
  obtain ⟨A, s0, m0, -⟩ := sl_of_row w0
  obtain ⟨B, s1, m1, -⟩ := sl_of_row w1
  obtain ⟨C, s2, m2, -⟩ := sl_of_row w2
  clear w0 w1 w2
  by_cases hz : len0 + len1 + len2 ≤ 1048576
  · rcases (show (32768 < len0) ∨ (len0 ≤ 32768 ∧ 32768 < len1) ∨ (len0 ≤ 32768 ∧ len1 ≤ 32768 ∧ 32768 < len2) ∨ (len0 ≤ 32768 ∧ len1 ≤ 32768 ∧ len2 ≤ 32768 ∧ len1 ≠ len0) ∨ (len0 ≤ 32768 ∧ len1 ≤ 32768 ∧ len2 ≤ 32768 ∧ len1 = len0 ∧ len2 ≠ len0) ∨ (len0 ≤ 32768 ∧ len1 = len0 ∧ len2 = len0) by omega) with h | ⟨h, h'⟩ | ⟨h, h', h2⟩ | ⟨h, h', h2, h3⟩ | ⟨h, h', h2, rfl, h4⟩ | ⟨h, rfl, rfl⟩
    · clear s0 s1 s2
      go_enter Trym.func4, Trym.ntmps4
      go_wp2_with (go_at_call 15; refine (zz15_yes _ _ _ _ _ _ _ _ _ _ hz).mono ?_; rintro e w' ⟨rfl, rfl⟩)
      go_ret
      exact ⟨rfl, Below.refl _ _⟩
    · clear s0 s1 s2
      go_enter Trym.func4, Trym.ntmps4
      go_wp2_with (go_at_call 15; refine (zz15_yes _ _ _ _ _ _ _ _ _ _ hz).mono ?_; rintro e w' ⟨rfl, rfl⟩)
      go_ret
      exact ⟨rfl, Below.refl _ _⟩
    · clear s0 s1 s2
      go_enter Trym.func4, Trym.ntmps4
      go_wp2_with (go_at_call 15; refine (zz15_yes _ _ _ _ _ _ _ _ _ _ hz).mono ?_; rintro e w' ⟨rfl, rfl⟩)
      go_ret
      exact ⟨rfl, Below.refl _ _⟩
    · clear s0 s1 s2
      have hn : ((len1 : Int) != (len0 : Int)) = true := by simp; omega
      go_enter Trym.func4, Trym.ntmps4
      go_wp2_with (go_at_call 15; refine (zz15_yes _ _ _ _ _ _ _ _ _ _ hz).mono ?_; rintro e w' ⟨rfl, rfl⟩)
      go_ret
      exact ⟨rfl, Below.refl _ _⟩
    · clear s0 s1 s2
      have hn0 : ((len1 : Int) != (len1 : Int)) = false := by simp
      have hn : ((len2 : Int) != (len1 : Int)) = true := by simp; omega
      go_enter Trym.func4, Trym.ntmps4
      go_wp2_with (go_at_call 15; refine (zz15_yes _ _ _ _ _ _ _ _ _ _ hz).mono ?_; rintro e w' ⟨rfl, rfl⟩)
      go_ret
      exact ⟨rfl, Below.refl _ _⟩
    · exact walk_main a0 len2 cap0 A a1 cap1 B a2 cap2 C w s0 s1 s2 h
  · go_enter Trym.func4, Trym.ntmps4
    go_wp2_with (go_at_call 15; refine (zz15_no _ _ _ _ _ _ _ _ _ _ (by omega)).mono ?_; rintro e w' ⟨rfl, rfl⟩)
    go_ret
    exact ⟨rfl, Below.refl _ _⟩

end Go.Proofs.Qxb6000907aMods.fnCoversJoinIsLeastUpperBound
