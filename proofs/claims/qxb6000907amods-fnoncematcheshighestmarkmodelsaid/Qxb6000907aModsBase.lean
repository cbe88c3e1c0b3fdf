/- What the six walks of this seat share: slices of integers that can be read ('Sl'), and the contracts of covers, ZZCovers, equalU, cloneU. -/
import Derived.Test.Qxb6000907aModsProg
import Derived.WalkKit
import Derived.WalkSpells
import Derived.WalkLawsBesides
import Derived.Deep.QuietTactic
import Derived.BigQuiet
import Derived.Below
import Derived.WalkSmall
namespace Go.Proofs.Qxb6000907aMods
open Go.RowKit

/-- A slice value (address 'a', length 'len') reads as the numbers 'zs', each of kind 'k', in the world 'w'. -/
def Sl (k : IntKind) (w : World) (a : Option Addr) (len : Nat) (zs : List Int) : Prop :=
  zs.length = len ∧ (0 < len → ∃ b off, a = some ⟨b, off, none⟩ ∧ b < w.heap.size ∧ ∀ i, i < len → w.cell? ⟨b, off + i, none⟩ = some (.int k (zs.getD i 0)))

theorem Sl.below {k : IntKind} {w w' : World} {a : Option Addr} {len : Nat} {zs : List Int} (h : Sl k w a len zs) (hb : Below w.heap.size w w') : Sl k w' a len zs := by
  refine ⟨h.1, fun hp => ?_⟩
  obtain ⟨b, off, ha, hlt, hc⟩ := h.2 hp
  exact ⟨b, off, ha, Nat.lt_of_lt_of_le hlt hb.size, fun i hi => (hb.cell (p := ⟨b, off + i, none⟩) hlt).trans (hc i hi)⟩

/-- 'Below' at a later world's size is 'Below' at the first one's. -/
theorem below_step {w w1 w2 : World} (h : Below w.heap.size w w1) (h' : Below w1.heap.size w1 w2) : Below w.heap.size w w2 :=
  h.trans (h'.mono h.size)

theorem lt_of_cell {w : World} {b o : Nat} {v : Value} (h : w.cell? ⟨b, o, none⟩ = some v) : b < w.heap.size := by
  by_cases hb : b < w.heap.size
  · exact hb
  · simp [World.cell?, Array.getElem?_eq_none (Nat.le_of_not_lt hb)] at h

/-- The vectors' order as the Go text reckons it. -/
def cov (A B : List Int) : Bool := decide (∀ i, i < B.length → B.getD i 0 ≤ A.getD i 0)
def eqv (A B : List Int) : Bool := decide (A = B)

theorem cov_true {A B : List Int} (h : ∀ i, i < B.length → B.getD i 0 ≤ A.getD i 0) : cov A B = true := by simpa [cov] using h
theorem cov_false {A B : List Int} {i : Nat} (hi : i < B.length) (h : A.getD i 0 < B.getD i 0) : cov A B = false := by
  simp only [cov, decide_eq_false_iff_not]
  intro hh
  have := hh i hi
  omega
theorem ret_bool {a b : Bool} (h : a = b) : Ending.returned (.bool a) = .returned (.bool b) := by rw [h]

set_option maxHeartbeats 400000 in
theorem covers_any (a b : Option Addr) (la lb ca cb : Nat) (A B : List Int) (w : World) (ha : Sl .u64 w a la A) (hb : Sl .u64 w b lb B) (hle : lb ≤ la) (hbd : lb ≤ 1048576) :
    Calls Trym.prog 31 #[.slice a la ca, .slice b lb cb] w fun e w' => e = .returned (.bool (cov A B)) ∧ Below w.heap.size w w' := by
  obtain ⟨hA, ha⟩ := ha
  obtain ⟨hB, hb⟩ := hb
  go_enter Trym.func31, Trym.ntmps31
  go_wp2
  go_loopw [8] (fun i wr => ∃ k : Nat, k ≤ lb ∧ i = .int .i64 k ∧ (∀ t, t < k → B.getD t 0 ≤ A.getD t 0) ∧ Below w.heap.size w wr) (fun i _ => lb - (intOf i).toNat)
  case atStart => exact ⟨0, Nat.zero_le _, rfl, fun t ht => by omega, Below.refl _ _⟩
  case round =>
    obtain ⟨k, hk, rfl, hsofar, hbel⟩ := hrel
    by_cases hlt : k < lb
    · obtain ⟨b1, o1, rfl, hb1, hc1⟩ := ha (by omega)
      obtain ⟨b2, o2, rfl, hb2, hc2⟩ := hb (by omega)
      obtain ⟨x, hx⟩ : ∃ x, x = A.getD k 0 := ⟨_, rfl⟩
      obtain ⟨y, hy⟩ : ∃ y, y = B.getD k 0 := ⟨_, rfl⟩
      have g1 : wr.cell? ⟨b1, o1 + k, none⟩ = some (.int .u64 x) := by rw [hx]; exact (hbel.cell (p := ⟨b1, o1 + k, none⟩) hb1).trans (hc1 k (by omega))
      have g2 : wr.cell? ⟨b2, o2 + k, none⟩ = some (.int .u64 y) := by rw [hy]; exact (hbel.cell (p := ⟨b2, o2 + k, none⟩) hb2).trans (hc2 k (by omega))
      have HX : Hid (x = A.getD k 0) := hx
      have HY : Hid (y = B.getD k 0) := hy
      have HS : Hid (∀ t, t < k → B.getD t 0 ≤ A.getD t 0) := hsofar
      have HB : Hid (B.length = lb) := hB
      have hkk : (k : Int) < (la : Int) := by omega
      have hkb : (k : Int) < (lb : Int) := by omega
      clear hx hy hsofar hc1 hc2 hA hB ha hb
      by_cases hxy : x < y
      · go_wp2
        go_quiet (fail)
        go_wp2
        go_ret
        exact ⟨ret_bool (by rw [cov_false (i := k) (by rw [HB.out]; exact hlt) (by rw [← HX.out, ← HY.out]; exact hxy)]), below_drewN hbel _⟩
      · go_wp2
        go_quiet (fail)
        go_wp2
        go_roundw
        case rel => exact ⟨k + 1, by omega, by go_num, fun t ht => by
          by_cases e : t = k
          · subst e; rw [← HX.out, ← HY.out]; omega
          · exact HS.out t (by omega), below_drewN hbel _⟩
        case measure => simp [intOf]; omega
    · have hkl : k = lb := by omega
      have HS : Hid (∀ t, t < k → B.getD t 0 ≤ A.getD t 0) := hsofar
      have HB : Hid (B.length = lb) := hB
      have HK : Hid (k = lb) := hkl
      clear hsofar hA hB ha hb hkl
      go_wp2
      go_ret
      exact ⟨ret_bool (by rw [cov_true (fun i hi => HS.out i (by have := HB.out; have := HK.out; omega))]), hbel⟩

theorem zzcovers_any (a b : Option Addr) (la lb ca cb : Nat) (A B : List Int) (w : World) (ha : Sl .u64 w a la A) (hb : Sl .u64 w b lb B) (hle : lb ≤ la) (hbd : lb ≤ 1048576) :
    Calls Trym.prog 13 #[.slice a la ca, .slice b lb cb] w fun e w' => e = .returned (.bool (cov A B)) ∧ Below w.heap.size w w' := by
  go_enter Trym.func13, Trym.ntmps13
  go_wp2_with fail
  refine (covers_any a b la lb ca cb A B _ ha hb hle hbd).mono ?_
  rintro e w1 ⟨rfl, hbel⟩
  go_wp2
  go_ret
  exact ⟨rfl, hbel⟩

theorem eqv_true {A B : List Int} {n : Nat} (hA : A.length = n) (hB : B.length = n) (h : ∀ i, i < n → A.getD i 0 = B.getD i 0) : eqv A B = true := by
  simp only [eqv, decide_eq_true_eq]
  refine List.ext_getElem (by omega) fun i h1 h2 => ?_
  have := h i (by omega)
  simpa [List.getD, h1, h2] using this
theorem eqv_false {A B : List Int} {i : Nat} (h : A.getD i 0 ≠ B.getD i 0) : eqv A B = false := by
  simp only [eqv, decide_eq_false_iff_not]
  intro e; exact h (by rw [e])
theorem eqv_len {A B : List Int} (h : A.length ≠ B.length) : eqv A B = false := by
  simp only [eqv, decide_eq_false_iff_not]
  intro e; exact h (by rw [e])

set_option maxHeartbeats 400000 in
theorem equalU_any (a b : Option Addr) (la lb ca cb : Nat) (A B : List Int) (w : World) (ha : Sl .u64 w a la A) (hb : Sl .u64 w b lb B) (hbd : la ≤ 1048576) :
    Calls Trym.prog 14 #[.slice a la ca, .slice b lb cb] w fun e w' => e = .returned (.bool (eqv A B)) ∧ Below w.heap.size w w' := by
  obtain ⟨hA, ha⟩ := ha
  obtain ⟨hB, hb⟩ := hb
  by_cases hne : la = lb
  · subst hne
    have HA : Hid (A.length = la) := hA
    have HB : Hid (B.length = la) := hB
    clear hA hB
    have hnn : ((la : Int) != (la : Int)) = false := by simp
    go_enter Trym.func14, Trym.ntmps14
    go_wp2
    go_loopw [5] (fun i wr => ∃ k : Nat, k ≤ la ∧ i = .int .i64 k ∧ (∀ t, t < k → A.getD t 0 = B.getD t 0) ∧ Below w.heap.size w wr) (fun i _ => la - (intOf i).toNat)
    case atStart => exact ⟨0, Nat.zero_le _, rfl, fun t ht => by omega, Below.refl _ _⟩
    case round =>
      obtain ⟨k, hk, rfl, hsofar, hbel⟩ := hrel
      have HS : Hid (∀ t, t < k → A.getD t 0 = B.getD t 0) := hsofar
      clear hsofar
      by_cases hlt : k < la
      · obtain ⟨b1, o1, rfl, hb1, hc1⟩ := ha (by omega)
        obtain ⟨b2, o2, rfl, hb2, hc2⟩ := hb (by omega)
        obtain ⟨x, hx⟩ : ∃ x, x = A.getD k 0 := ⟨_, rfl⟩
        obtain ⟨y, hy⟩ : ∃ y, y = B.getD k 0 := ⟨_, rfl⟩
        have g1 : wr.cell? ⟨b1, o1 + k, none⟩ = some (.int .u64 x) := by rw [hx]; exact (hbel.cell (p := ⟨b1, o1 + k, none⟩) hb1).trans (hc1 k (by omega))
        have g2 : wr.cell? ⟨b2, o2 + k, none⟩ = some (.int .u64 y) := by rw [hy]; exact (hbel.cell (p := ⟨b2, o2 + k, none⟩) hb2).trans (hc2 k (by omega))
        have HX : Hid (x = A.getD k 0) := hx
        have HY : Hid (y = B.getD k 0) := hy
        have hkk : (k : Int) < (la : Int) := by omega
        clear hx hy hc1 hc2 ha hb
        by_cases hxy : x = y
        · have HXY : Hid (x = y) := hxy
          have hq : (x != y) = false := by simp [hxy]
          clear hxy
          go_wp2
          go_quiet (fail)
          go_wp2
          go_roundw
          case rel => exact ⟨k + 1, by omega, by go_num, fun t ht => by
            by_cases e : t = k
            · subst e; rw [← HX.out, ← HY.out]; exact HXY.out
            · exact HS.out t (by omega), below_drewN hbel _⟩
          case measure => simp [intOf]; omega
        · have HXY : Hid (x ≠ y) := hxy
          have hq : (x != y) = true := by simp [hxy]
          clear hxy
          go_wp2
          go_quiet (fail)
          go_wp2
          go_ret
          exact ⟨ret_bool (by rw [eqv_false (i := k) (by rw [← HX.out, ← HY.out]; exact HXY.out)]), below_drewN hbel _⟩
      · have hkl : k = la := by omega
        have HK : Hid (k = la) := hkl
        clear hkl ha hb
        go_wp2
        go_ret
        exact ⟨ret_bool (by rw [eqv_true HA.out HB.out (fun i hi => HS.out i (by have := HK.out; omega))]), hbel⟩
  · have hnn : ((la : Int) != (lb : Int)) = true := by simp; omega
    have HL : Hid (A.length ≠ B.length) := by show A.length ≠ B.length; omega
    clear hA hB ha hb hne
    go_enter Trym.func14, Trym.ntmps14
    go_wp2
    go_ret
    exact ⟨ret_bool (by rw [eqv_len HL.out]), Below.refl _ _⟩

theorem Trym.info26 : (Trym.prog.info? 26).map (fun i => (i.zero, i.size, i.bytes)) = some (some (.int .u64 0), 1, 8) := by kernel_rfl

/-- Behind a round of a copying loop. -/
theorem fill_step {k : IntKind} {xs : List Value} {A : List Int} {j : Nat} (hj : j < xs.length) (h : ∀ t, t < j → xs[t]? = some (.int k (A.getD t 0))) :
    ∀ t, t < j + 1 → (xs.set j (.int k (A.getD j 0)))[t]? = some (.int k (A.getD t 0)) := by
  intro t ht
  by_cases e : t = j
  · subst e; simp [hj]
  · rw [List.getElem?_set_ne (by omega)]; exact h t (by omega)

/-- A row of the call's own, read as a slice. -/
theorem Sl.own {k : IntKind} {w : World} {base e g n cap : Nat} {xs : List Value} {A : List Int} (h : w.ownsRow base e 1 (.slice (some ⟨g, 0, none⟩) n cap) n xs) (hA : A.length = n)
    (hx : ∀ t, t < n → xs[t]? = some (.int k (A.getD t 0))) : Sl k w (some ⟨g, 0, none⟩) n A := by
  refine ⟨hA, fun hp => ?_⟩
  have hc : ∀ i, i < n → w.cell? ⟨g, 0 + i, none⟩ = some (.int k (A.getD i 0)) := fun i hi => by
    rw [Nat.zero_add, h.cellAt i (by omega)]; exact hx i hi
  exact ⟨g, 0, rfl, lt_of_cell (hc 0 hp), hc⟩

set_option maxHeartbeats 400000 in
theorem cloneU_any (a : Option Addr) (la ca : Nat) (A : List Int) (w : World) (ha : Sl .u64 w a la A) (hbd : la ≤ 1048576) :
    Calls Trym.prog 12 #[.slice a la ca] w fun e w' => ∃ a' c', e = .returned (.slice a' la c') ∧ Sl .u64 w' a' la A ∧ Below w.heap.size w w' := by
  have hnil := fun wx => Lib.run_eql_slice_nil (P := Trym.prog) wx 22 26 a la ca 0 0 Trym.underlying22
  cases a with
  | none =>
    have h0 : la = 0 := by
      by_cases h : 0 < la
      · obtain ⟨b, o, h1, _⟩ := ha.2 h; cases h1
      · omega
    subst h0
    have HA : Hid (Sl .u64 w none 0 A) := ha
    clear ha
    go_enter Trym.func12, Trym.ntmps12
    go_wp2
    go_ret
    exact ⟨none, 0, rfl, HA.out, Below.refl _ _⟩
  | some x =>
    obtain ⟨hA, ha⟩ := ha
    have HA : Hid (A.length = la) := hA
    clear hA
    obtain ⟨i0, hi, hz0, hz1, hz2⟩ := info_parts Trym.info26
    go_enter Trym.func12, Trym.ntmps12
    go_wp2_with (at_make; refine wpList_make_full _ rfl _ _ 22 rfl w.heap.size 26 i0 (.int .u64 0) 1 Trym.underlying22 hi hz0 hz1 _ _ _ _ la rfl rfl rfl rfl ?b2 ?b3 (Nat.le_refl _) ?_)
    case b2 => rw [hz2]; omega
    case b3 => unfold maxLen; omega
    intro w0 hown0 hgrow0
    go_wp2
    go_loopw [4] (fun i wr => ∃ (k : Nat) (xs : List Value), k ≤ la ∧ i = .int .i64 k ∧ wr.ownsRow w.heap.size 26 1 (.slice (some ⟨w.heap.size, 0, none⟩) la la) la xs ∧ (∀ t, t < k → xs[t]? = some (.int .u64 (A.getD t 0))) ∧ Below w.heap.size w wr) (fun i _ => la - (intOf i).toNat)
    case atStart => exact ⟨0, _, Nat.zero_le _, rfl, hown0, fun t ht => by omega, (Below.refl _ _).grown hgrow0 (Nat.le_refl _) (fun k h => by cases h)⟩
    case round =>
      obtain ⟨k, xs, hk, rfl, hown, hsofar, hbel⟩ := hrel
      have HS : Hid (∀ t, t < k → xs[t]? = some (.int .u64 (A.getD t 0))) := hsofar
      clear hsofar hown0 hgrow0
      by_cases hlt : k < la
      · obtain ⟨b1, o1, hx1, hb1, hc1⟩ := ha (by omega)
        cases hx1
        have hxl : k < xs.length := by have := hown.1; omega
        obtain ⟨y, hy⟩ : ∃ y, y = A.getD k 0 := ⟨_, rfl⟩
        have g1 : wr.cell? ⟨b1, o1 + k, none⟩ = some (.int .u64 y) := by rw [hy]; exact (hbel.cell (p := ⟨b1, o1 + k, none⟩) hb1).trans (hc1 k (by omega))
        obtain ⟨v0, g2⟩ : ∃ v0, wr.cell? ⟨w.heap.size, k, none⟩ = some v0 := ⟨xs[k], by rw [hown.cellAt k (by omega)]; simp [hxl]⟩
        have g3 : wr.frozen? ⟨w.heap.size, k, none⟩ = false := hown.frozenAt k
        have hkk : (k : Int) < (la : Int) := by omega
        have R := hown.stored k (.int .u64 y)
        have HR : Hid _ := R
        have HY : Hid (y = A.getD k 0) := hy
        have HXL : Hid (k < xs.length) := hxl
        clear hy hc1 ha R hown hxl
        go_wp2
        go_roundw
        case rel => exact ⟨k + 1, _, by omega, by go_num, HR.out.1, by rw [HY.out]; exact fill_step HXL.out HS.out, hbel.setCell (by simp) _⟩
        case measure => simp [intOf]; omega
      · have hkl : k = la := by omega
        have HK : Hid (k = la) := hkl
        clear hkl ha
        go_wp2
        go_ret
        exact ⟨_, _, rfl, Sl.own hown HA.out (fun t ht => HS.out t (by have := HK.out; omega)), hbel⟩

/-- From what the shells tell of a slice that came in to 'Sl'. -/
theorem sl_of_row {k : IntKind} {w : World} {a : Option Addr} {len cap : Nat} {zs : List Int}
    (h : (a = none ∧ len = 0 ∧ cap = 0 ∧ zs = []) ∨ ∃ x, a = some x ∧ len ≤ cap ∧ cap ≤ maxLen ∧ zs.length = cap ∧ (∀ i, i < zs.length → w.cell? (x.add i) = some (.int k (zs.getD i 0))) ∧ ∀ n ∈ zs, (Lit.int k n).wf = true) :
    ∃ A, Sl k w a len A ∧ len ≤ 9223372036854775807 ∧ ∀ n ∈ A, (Lit.int k n).wf = true := by
  rcases h with ⟨rfl, rfl, rfl, rfl⟩ | ⟨x, rfl, hl, hm, hz, hcell, hwz⟩
  · exact ⟨[], ⟨rfl, fun h => by omega⟩, by omega, fun n hn => by simp at hn⟩
  · refine ⟨zs.take len, ⟨by simp; omega, fun hp => ?_⟩, by unfold maxLen at hm; omega, fun n hn => hwz n (List.mem_of_mem_take hn)⟩
    obtain ⟨b, off, spot⟩ := x
    have hc := hcell 0 (by omega)
    have hspot : spot = none := by simpa [Addr.add] using World.cell?_spot hc
    subst hspot
    have hc' : ∀ i, i < len → w.cell? ⟨b, off + i, none⟩ = some (.int k ((zs.take len).getD i 0)) := fun i hi => by
      have := hcell i (by omega)
      rw [show (zs.take len).getD i 0 = zs.getD i 0 by simp [List.getD, hi]]
      by_cases e : i = 0
      · subst e; simpa [Addr.add] using this
      · simpa [Addr.add, e] using this
    exact ⟨b, off, rfl, lt_of_cell (hc' 0 hp), hc'⟩

theorem zz11_yes (a b c : Option Addr) (la lb lc ca cb cc : Nat) (w : World) (h : la + lb + lc ≤ 1048576) :
    Calls Trym.prog 11 #[.slice a la ca, .slice b lb cb, .slice c lc cc] w fun e w' => e = .returned (.bool true) ∧ w' = w := by
  go_enter Trym.func11, Trym.ntmps11
  go_wp2
  go_ret
  exact ⟨rfl, rfl⟩
theorem zz11_no (a b c : Option Addr) (la lb lc ca cb cc : Nat) (w : World) (h : 1048576 < la + lb + lc) :
    Calls Trym.prog 11 #[.slice a la ca, .slice b lb cb, .slice c lc cc] w fun e w' => e = .returned (.bool false) ∧ w' = w := by
  go_enter Trym.func11, Trym.ntmps11
  go_wp2
  all_goals (go_ret; exact ⟨rfl, rfl⟩)
theorem zz15_yes (a b c : Option Addr) (la lb lc ca cb cc : Nat) (w : World) (h : la + lb + lc ≤ 1048576) :
    Calls Trym.prog 15 #[.slice a la ca, .slice b lb cb, .slice c lc cc] w fun e w' => e = .returned (.bool true) ∧ w' = w := by
  go_enter Trym.func15, Trym.ntmps15
  go_wp2
  go_ret
  exact ⟨rfl, rfl⟩
theorem zz15_no (a b c : Option Addr) (la lb lc ca cb cc : Nat) (w : World) (h : 1048576 < la + lb + lc) :
    Calls Trym.prog 15 #[.slice a la ca, .slice b lb cb, .slice c lc cc] w fun e w' => e = .returned (.bool false) ∧ w' = w := by
  go_enter Trym.func15, Trym.ntmps15
  go_wp2
  all_goals (go_ret; exact ⟨rfl, rfl⟩)

/-! ### The plain laws of the order -/
theorem cov_iff {A B : List Int} : cov A B = true ↔ ∀ i, i < B.length → B.getD i 0 ≤ A.getD i 0 := by simp [cov]
theorem cov_refl (A : List Int) : cov A A = true := cov_true fun _ _ => Int.le_refl _
theorem cov_trans {A B C : List Int} (hl : C.length ≤ B.length) (h1 : cov A B = true) (h2 : cov B C = true) : cov A C = true :=
  cov_true fun i hi => Int.le_trans (cov_iff.1 h2 i hi) (cov_iff.1 h1 i (by omega))
theorem cov_anti {A B : List Int} (hl : A.length = B.length) (h1 : cov A B = true) (h2 : cov B A = true) : eqv A B = true :=
  eqv_true hl rfl fun i hi => Int.le_antisymm (cov_iff.1 h2 i (by omega)) (cov_iff.1 h1 i hi)
end Go.Proofs.Qxb6000907aMods
