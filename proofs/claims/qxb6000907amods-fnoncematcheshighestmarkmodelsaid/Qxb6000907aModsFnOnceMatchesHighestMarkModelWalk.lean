/- The walk of FnOnceMatchesHighestMarkModel, out of the contracts of the Base and Once texts. -/
import Derived.Test.Qxb6000907aModsOnce
namespace Go.Proofs.Qxb6000907aMods.fnOnceMatchesHighestMarkModel
open Go.RowKit
set_option linter.unusedVariables false

/-- WHAT THE WALK IS TOLD OF A SLICE OF INTEGERS THAT CAME IN: it is nil; or it leads to a row of 'cap' cells, the numbers 'zs' (the first 'len' are its elements, the rest its spare room), each fitting its kind. -/
def IsRow (k : IntKind) (w : World) (a : Option Addr) (len cap : Nat) (zs : List Int) : Prop :=
  (a = none ∧ len = 0 ∧ cap = 0 ∧ zs = []) ∨
  ∃ x, a = some x ∧ len ≤ cap ∧ cap ≤ maxLen ∧ zs.length = cap ∧ (∀ i, i < zs.length → w.cell? (x.add i) = some (.int k (zs.getD i 0))) ∧ ∀ n ∈ zs, (Lit.int k n).wf = true


theorem Trym.info3 : (Trym.prog.info? 3).map (fun i => (i.zero, i.size, i.bytes)) = some (some (.int .i64 0), 1, 8) := by kernel_rfl

set_option maxHeartbeats 400000 in
theorem cloneI_any (a : Option Addr) (la ca : Nat) (A : List Int) (w : World) (ha : Sl .i64 w a la A) (hbd : la ≤ 1048576) :
    Calls Trym.prog 17 #[.slice a la ca] w fun e w' => ∃ a' c', e = .returned (.slice a' la c') ∧ Sl .i64 w' a' la A ∧ Below w.heap.size w w' := by
  have hnil := fun wx => Lib.run_eql_slice_nil (P := Trym.prog) wx 27 3 a la ca 0 0 Trym.underlying27
  cases a with
  | none =>
    have h0 : la = 0 := by
      by_cases h : 0 < la
      · obtain ⟨b, o, h1, _⟩ := ha.2 h; cases h1
      · omega
    subst h0
    have HA : Hid (Sl .i64 w none 0 A) := ha
    clear ha
    go_enter Trym.func17, Trym.ntmps17
    go_wp2
    go_ret
    exact ⟨none, 0, rfl, HA.out, Below.refl _ _⟩
  | some x =>
    obtain ⟨hA, ha⟩ := ha
    have HA : Hid (A.length = la) := hA
    clear hA
    obtain ⟨i0, hi, hz0, hz1, hz2⟩ := info_parts Trym.info3
    go_enter Trym.func17, Trym.ntmps17
    go_wp2_with (at_make; refine wpList_make_full _ rfl _ _ 27 rfl w.heap.size 3 i0 (.int .i64 0) 1 Trym.underlying27 hi hz0 hz1 _ _ _ _ la rfl rfl rfl rfl ?b2 ?b3 (Nat.le_refl _) ?_)
    case b2 => rw [hz2]; omega
    case b3 => unfold maxLen; omega
    intro w0 hown0 hgrow0
    go_wp2
    go_loopw [4] (fun i wr => ∃ (k : Nat) (xs : List Value), k ≤ la ∧ i = .int .i64 k ∧ wr.ownsRow w.heap.size 3 1 (.slice (some ⟨w.heap.size, 0, none⟩) la la) la xs ∧ (∀ t, t < k → xs[t]? = some (.int .i64 (A.getD t 0))) ∧ Below w.heap.size w wr) (fun i _ => la - (intOf i).toNat)
    case atStart => exact ⟨0, _, Nat.zero_le _, rfl, hown0, fun t ht => by omega, (Below.refl _ _).grown hgrow0 (Nat.le_refl _) (fun k h => by cases h)⟩
    case round =>
      obtain ⟨k, xs, hk, rfl, hown, hsofar, hbel⟩ := hrel
      have HS : Hid (∀ t, t < k → xs[t]? = some (.int .i64 (A.getD t 0))) := hsofar
      clear hsofar hown0 hgrow0
      by_cases hlt : k < la
      · obtain ⟨b1, o1, hx1, hb1, hc1⟩ := ha (by omega)
        cases hx1
        have hxl : k < xs.length := by have := hown.1; omega
        obtain ⟨y, hy⟩ : ∃ y, y = A.getD k 0 := ⟨_, rfl⟩
        have g1 : wr.cell? ⟨b1, o1 + k, none⟩ = some (.int .i64 y) := by rw [hy]; exact (hbel.cell (p := ⟨b1, o1 + k, none⟩) hb1).trans (hc1 k (by omega))
        obtain ⟨v0, g2⟩ : ∃ v0, wr.cell? ⟨w.heap.size, k, none⟩ = some v0 := ⟨xs[k], by rw [hown.cellAt k (by omega)]; simp [hxl]⟩
        have g3 : wr.frozen? ⟨w.heap.size, k, none⟩ = false := hown.frozenAt k
        have hkk : (k : Int) < (la : Int) := by omega
        have R := hown.stored k (.int .i64 y)
        have HR : Hid _ := R
        have HY : Hid (y = A.getD k 0) := hy
        have HXL : Hid (k < xs.length) := hxl
        clear hy hc1 ha R hown hxl
        go_wp2
        go_roundw
        case rel => exact ⟨k + 1, _, by omega, by go_num, HR.out.1, by rw [HY.out]; exact fill_step HXL.out HS.out, hbel.setCell (by simp) _⟩
        case measure => simp [intOf]; omega
      · have hkl : k = la := by omega
        have HK : Hid (k = la) := hkl
        clear hkl ha
        go_wp2
        go_ret
        exact ⟨_, _, rfl, Sl.own hown HA.out (fun t ht => HS.out t (by have := HK.out; omega)), hbel⟩


theorem zz16_yes (a b : Option Addr) (la lb ca cb : Nat) (w : World) (h : la + lb ≤ 1048576) :
    Calls Trym.prog 16 #[.slice a la ca, .slice b lb cb] w fun e w' => e = .returned (.bool true) ∧ w' = w := by
  go_enter Trym.func16, Trym.ntmps16
  go_wp2
  go_ret
  exact ⟨rfl, rfl⟩
theorem zz16_no (a b : Option Addr) (la lb ca cb : Nat) (w : World) (h : 1048576 < la + lb) :
    Calls Trym.prog 16 #[.slice a la ca, .slice b lb cb] w fun e w' => e = .returned (.bool false) ∧ w' = w := by
  go_enter Trym.func16, Trym.ntmps16
  go_wp2
  all_goals (go_ret; exact ⟨rfl, rfl⟩)

theorem minLen_any (a b : Option Addr) (la lb ca cb : Nat) (w : World) (h : la ≤ 1048576) (h' : lb ≤ 1048576) :
    Calls Trym.prog 18 #[.slice a la ca, .slice b lb cb] w fun e w' => ∃ n : Nat, n = min la lb ∧ e = .returned (.int .i64 n) ∧ w' = w := by
  by_cases hlt : lb < la
  · go_enter Trym.func18, Trym.ntmps18
    go_wp2
    go_ret
    exact ⟨lb, by omega, rfl, rfl⟩
  · go_enter Trym.func18, Trym.ntmps18
    go_wp2
    go_ret
    exact ⟨la, by omega, rfl, rfl⟩

theorem hb_step (T M : List Int) (k : Nat) : (if hb T M k (T.getD k 0) < M.getD k 0 then upd (hb T M k) (T.getD k 0) (M.getD k 0) else hb T M k) = hb T M (k + 1) := by
  funext x
  by_cases h : hb T M k (T.getD k 0) < M.getD k 0
  · rw [if_pos h]
    by_cases e : x = T.getD k 0
    · subst e; rw [hb_hit rfl h]; unfold upd; rw [if_pos rfl]
    · rw [hb_miss (fun hh => e hh.1.symm)]; unfold upd; rw [if_neg e]
  · rw [if_neg h, hb_miss]
    rintro ⟨rfl, h2⟩
    exact h h2

theorem wf_at {k : IntKind} {A : List Int} (h : ∀ n ∈ A, (Lit.int k n).wf = true) {i : Nat} (hi : i < A.length) : (Lit.int k (A.getD i 0)).wf = true := by
  have : A.getD i 0 = A[i] := by simp [List.getD, hi]
  rw [this]; exact h _ (List.getElem_mem hi)

theorem MapF.below {w w' : World} {v : Value} {base n : Nat} {f : Int → Int} (h : MapF w v base n f) (hb : Below w.heap.size w w') : MapF w' v base n f := by
  rcases h with h | ⟨B, D, rfl, hB, ⟨es, cl, hh, r⟩, hf⟩
  · exact Or.inl h
  · refine Or.inr ⟨B, D, rfl, hB, ⟨es, cl, ?_, r⟩, hf⟩
    rw [hb.block B (World.ownsMap.lt ⟨es, cl, hh, r⟩)]; exact hh

/-- The look-up, in whatever later world that differs by draws alone. -/
theorem MapF.look {w : World} {v : Value} {base n : Nat} {f : Int → Int} (h : MapF w v base n f) {x : Int} (hx : (Lit.int .i64 x).wf = true) (q : Nat) :
    (Instr.lookup 31 v (.int .i64 x) false).run Trym.prog (w.drewN q) = .ok (.int .u64 (f x)) (w.drewN q) := by
  have hkey := Maps.keyOf_int_mk (P := Trym.prog) (k := 3) Trym.underlying3 hx
  rcases h with ⟨rfl, hf⟩ | ⟨B, D, rfl, hB, hown, hf⟩
  · have := Maps.look_nil (P := Trym.prog) (w := w.drewN q) (t := 31) false law Trym.underlying31 (zero26 _) hkey
    rw [this, hf x]; rfl
  · have ho : (w.drewN q).ownsMap Trym.prog 3 (plainElem Trym.prog 26) B n D := hown
    obtain ⟨c, hrun, hat, _⟩ := ho.lookup_int law Trym.underlying31 Trym.underlying26 (zero26 _) hkey
    rw [hrun, key_is hat (hf x hx)]

set_option maxHeartbeats 2000000 in
theorem walk_main (a0 : Option Addr) (l0 cap0 : Nat) (T : List Int) (a1 : Option Addr) (l1 cap1 : Nat) (M : List Int) (w : World) (s0 : Sl .i64 w a0 l0 T) (s1 : Sl .u64 w a1 l1 M) (hT : ∀ n ∈ T, (Lit.int .i64 n).wf = true) (hM : ∀ n ∈ M, (Lit.int .u64 n).wf = true) (h0 : l0 ≤ 4096) (h1 : l1 ≤ 4096) :
    Calls Trym.prog 5 #[.slice a0 l0 cap0, .slice a1 l1 cap1] w fun e w' => e = .returned (.bool true) ∧ Below w.heap.size w w' := by
  have HT : Hid (∀ n ∈ T, (Lit.int .i64 n).wf = true) := hT
  have HM : Hid (∀ n ∈ M, (Lit.int .u64 n).wf = true) := hM
  clear hT hM
  go_enter Trym.func5, Trym.ntmps5
  go_wp2_with fail
  refine (zz16_yes _ _ _ _ _ _ _ (by omega)).mono ?_
  rintro e wz ⟨rfl, rfl⟩
  go_wp2_with fail
  refine (cloneI_any _ _ _ T _ s0 (by omega)).mono ?_
  rintro e w1 ⟨a0', c0', rfl, s0', b1⟩
  replace s1 := s1.below b1
  go_wp2_with fail
  refine (cloneU_any _ _ _ M _ s1 (by omega)).mono ?_
  rintro e w2 ⟨a1', c1', rfl, s1', b2⟩
  replace s0' := s0'.below b2
  replace b1 := below_step b1 b2
  clear b2 s0 s1
  go_wp2_with fail
  refine (minLen_any _ _ _ _ _ _ _ (by omega) (by omega)).mono ?_
  rintro e wm ⟨n, hn, rfl, rfl⟩
  have hn0 : n ≤ l0 := by omega
  have hn1 : n ≤ l1 := by omega
  clear hn
  go_wp2_with fail
  go_loopw [6, 7] (fun v i wr => ∃ k : Nat, k ≤ n ∧ i = .int .i64 k ∧ MapF wr v wm.heap.size k (hb T M k) ∧ Below wm.heap.size wm wr) (fun _ i _ => n - (intOf i).toNat)
  case atStart => exact ⟨0, Nat.zero_le _, rfl, Or.inl ⟨rfl, fun _ => rfl⟩, Below.refl _ _⟩
  case round =>
    obtain ⟨k, hk, rfl, hv, hbel⟩ := hrel
    by_cases hlt : k < n
    · obtain ⟨p1, o1, rfl, hp1, hc1⟩ := s0'.2 (by omega)
      obtain ⟨p2, o2, rfl, hp2, hc2⟩ := s1'.2 (by omega)
      obtain ⟨x, hx⟩ : ∃ x, x = T.getD k 0 := ⟨_, rfl⟩
      obtain ⟨y, hy⟩ : ∃ y, y = M.getD k 0 := ⟨_, rfl⟩
      have g1 : wr.cell? ⟨p1, o1 + k, none⟩ = some (.int .i64 x) := by rw [hx]; exact (hbel.cell (p := ⟨p1, o1 + k, none⟩) hp1).trans (hc1 k (by omega))
      have g2 : wr.cell? ⟨p2, o2 + k, none⟩ = some (.int .u64 y) := by rw [hy]; exact (hbel.cell (p := ⟨p2, o2 + k, none⟩) hp2).trans (hc2 k (by omega))
      have wx : (Lit.int .i64 x).wf = true := by rw [hx]; exact wf_at HT.out (by have := s0'.1; omega)
      have wy : (Lit.int .u64 y).wf = true := by rw [hy]; exact wf_at HM.out (by have := s1'.1; omega)
      have HX : Hid (x = T.getD k 0) := hx
      have HY : Hid (y = M.getD k 0) := hy
      have hk0 : (k : Int) < (l0 : Int) := by omega
      have hk1 : (k : Int) < (l1 : Int) := by omega
      have hkn : (k : Int) < (n : Int) := by omega
      have q0 := s0'.below hbel
      have q1 := s1'.below hbel
      have hsz := hbel.size
      have HST : Hid _ := hb_step T M k
      clear hx hy hc1 hc2
      go_wp2_with fail
      refine (highest_any _ _ _ _ _ _ k T M x _ q0 q1 (by omega) (by omega) (by omega)).mono ?_
      rintro e wq ⟨rfl, rfl⟩
      clear q0 q1
      go_wp2_with fail
      go_region_held3 (fun w' => w'.cell? ⟨p1, o1 + k, none⟩ = some (.int .i64 x) ∧ w'.cell? ⟨p2, o2 + k, none⟩ = some (.int .u64 y)) (go_keep)
        ((go_at_call 20; refine (once_any _ wm.heap.size k (hb T M k) x y _ (by exact hv) (by exact hsz) wx wy (by omega)).mono ?_; rintro e w4 ⟨v', rfl, hv', hbel'⟩; have g1' : w4.cell? ⟨p1, o1 + k, none⟩ = some (.int .i64 x) := (hbel'.cell (p := ⟨p1, o1 + k, none⟩) hp1).trans g1; have g2' : w4.cell? ⟨p2, o2 + k, none⟩ = some (.int .u64 y) := (hbel'.cell (p := ⟨p2, o2 + k, none⟩) hp2).trans g2))
      go_wp2_with fail
      go_roundw
      case rel => exact ⟨k + 1, by omega, by go_num, (by rw [← HST.out, ← HX.out, ← HY.out]; exact hv'), (by first | exact hbel.trans hbel' | exact hbel.drew.trans hbel' | exact (below_drewN hbel _).trans hbel')⟩
      case measure => simp [intOf]; omega
    · have hkn : k = n := by omega
      subst hkn
      have q0 := s0'.below hbel
      have q1 := s1'.below hbel
      have b3 := below_step b1 hbel
      clear s0' s1' hbel b1
      go_wp2_with fail
      go_loopw [10] (fun i wr2 => ∃ j : Nat, j ≤ k ∧ i = .int .i64 j ∧ MapF wr2 u6 wm.heap.size k (hb T M k) ∧ Sl .i64 wr2 a0' l0 T ∧ Sl .u64 wr2 a1' l1 M ∧ Below wz.heap.size wz wr2) (fun i _ => k - (intOf i).toNat)
      case atStart => exact ⟨0, Nat.zero_le _, rfl, hv, q0, q1, b3⟩
      case round =>
        clear hv q0 q1 b3
        obtain ⟨j, hj, rfl, hv, q0, q1, b3⟩ := hrel
        by_cases hlt2 : j < k
        · obtain ⟨p1, o1, rfl, hp1, hc1⟩ := q0.2 (by omega)
          obtain ⟨x, hx⟩ : ∃ x, x = T.getD j 0 := ⟨_, rfl⟩
          have g1 : wr.cell? ⟨p1, o1 + j, none⟩ = some (.int .i64 x) := by rw [hx]; exact hc1 j (by omega)
          have wx : (Lit.int .i64 x).wf = true := by rw [hx]; exact wf_at HT.out (by have := q0.1; omega)
          have hk0 : (j : Int) < (l0 : Int) := by omega
          have hkn : (j : Int) < (k : Int) := by omega
          have hl := fun q => MapF.look (w := wr) (v := u6) (base := wm.heap.size) (n := k) (f := hb T M k) hv wx q
          have hne : (hb T M k x != hb T M k x) = false := by simp
          have HQ0 : Hid (Sl .i64 wr (some ⟨p1, o1, none⟩) l0 T) := q0
          have HQ1 : Hid (Sl .u64 wr a1' l1 M) := q1
          have HV : Hid (MapF wr u6 wm.heap.size k (hb T M k)) := hv
          clear hx hc1 q0 q1 hv
          go_wp2_with fail
          go_quiet ((go_at_call 19; exact Calls.quiet_of_same (highest_any _ _ _ _ _ _ k T M x _ (HQ0.out.below (below_drewN (Below.refl _ _) _)) (HQ1.out.below (below_drewN (Below.refl _ _) _)) (by omega) (by omega) (by omega))))
          go_wp2_with fail
          go_roundw
          case rel => exact ⟨j + 1, by omega, by go_num, MapF.below HV.out (below_drewN (Below.refl _ _) _), HQ0.out.below (below_drewN (Below.refl _ _) _), HQ1.out.below (below_drewN (Below.refl _ _) _), below_drewN b3 _⟩
          case measure => simp [intOf]; omega
        · clear hv q0 q1
          go_wp2_with fail
          go_ret
          exact ⟨rfl, b3⟩

theorem walk (a0 : Option Addr) (len0 cap0 : Nat) (z0 : List Int) (a1 : Option Addr) (len1 cap1 : Nat) (z1 : List Int) (w : World) (w0 : IsRow .i64 w a0 len0 cap0 z0) (w1 : IsRow .u64 w a1 len1 cap1 z1) :
    Calls Trym.prog 5 #[.slice a0 len0 cap0, .slice a1 len1 cap1] w fun e w' => e = .returned (.bool true) ∧ Below w.heap.size w w' := by
  obtain ⟨T, s0, m0, hT⟩ := sl_of_row w0
  obtain ⟨M, s1, m1, hM⟩ := sl_of_row w1
  clear w0 w1
  by_cases hz : len0 + len1 ≤ 1048576
  · rcases (show 4096 < len0 ∨ (len0 ≤ 4096 ∧ 4096 < len1) ∨ (len0 ≤ 4096 ∧ len1 ≤ 4096) by omega) with h | ⟨h, h'⟩ | ⟨h, h'⟩
    · clear s0 s1 hT hM
      go_enter Trym.func5, Trym.ntmps5
      go_wp2_with (go_at_call 16; refine (zz16_yes _ _ _ _ _ _ _ hz).mono ?_; rintro e w' ⟨rfl, rfl⟩)
      go_ret
      exact ⟨rfl, Below.refl _ _⟩
    · clear s0 s1 hT hM
      go_enter Trym.func5, Trym.ntmps5
      go_wp2_with (go_at_call 16; refine (zz16_yes _ _ _ _ _ _ _ hz).mono ?_; rintro e w' ⟨rfl, rfl⟩)
      go_ret
      exact ⟨rfl, Below.refl _ _⟩
    · exact walk_main a0 len0 cap0 T a1 len1 cap1 M w s0 s1 hT hM h h'
  · clear s0 s1 hT hM
    go_enter Trym.func5, Trym.ntmps5
    go_wp2_with (go_at_call 16; refine (zz16_no _ _ _ _ _ _ _ (by omega)).mono ?_; rintro e w' ⟨rfl, rfl⟩)
    go_ret
    exact ⟨rfl, Below.refl _ _⟩

end Go.Proofs.Qxb6000907aMods.fnOnceMatchesHighestMarkModel
