/- The contracts of ZZTake, cloneB, equalB, concatB. -/
import Derived.Test.Qxb6000907aModsBase
namespace Go.Proofs.Qxb6000907aMods
open Go.RowKit

set_option maxHeartbeats 400000 in
theorem take_refused (a : Option Addr) (len cap : Nat) (ok : Bool) (k : Int) (w : World) (hr : ok = false ∨ (len : Int) < k) :
    Calls Trym.prog 26 #[.slice a len cap, .bool ok, .int .i64 k] w fun e w' => e = .returned (.tuple #[.slice a len cap, .bool false, .slice none 0 0]) ∧ Below w.heap.size w w' := by
  cases ok
  · go_enter Trym.func26, Trym.ntmps26
    go_wp2
    go_quiet (fail)
    go_wp2
    go_ret3
    exact ⟨rfl, below_drewN ((Below.refl _ _).alloc (Nat.le_refl _) _) _⟩
  · have hk : (len : Int) < k := by simpa using hr
    clear hr
    go_enter Trym.func26, Trym.ntmps26
    go_wp2
    go_quiet (fail)
    go_wp2
    go_ret3
    exact ⟨rfl, below_drewN ((Below.refl _ _).alloc (Nat.le_refl _) _) _⟩

theorem Sl.take {κ : IntKind} {w : World} {a : Option Addr} {len k : Nat} {A : List Int} (s : Sl κ w a len A) (hk : k ≤ len) : Sl κ w a k (A.take k) := by
  refine ⟨by have := s.1; simp; omega, fun hp => ?_⟩
  obtain ⟨b, off, ha, hlt, hc⟩ := s.2 (by omega)
  refine ⟨b, off, ha, hlt, fun i hi => ?_⟩
  rw [hc i (by omega)]
  simp [List.getD, hi]

theorem Sl.drop {κ : IntKind} {w : World} {a : Option Addr} {len k : Nat} {A : List Int} (s : Sl κ w a len A) (hk : k ≤ len) : Sl κ w (a.map (fun x => x.add k)) (len - k) (A.drop k) := by
  refine ⟨by have := s.1; simp; omega, fun hp => ?_⟩
  obtain ⟨b, off, ha, hlt, hc⟩ := s.2 (by omega)
  refine ⟨b, off + k, by subst ha; by_cases e : k = 0 <;> simp [Addr.add, e], hlt, fun i hi => ?_⟩
  rw [show off + k + i = off + (k + i) by omega, hc (k + i) (by omega)]
  simp [List.getD]

theorem Sl.none {κ : IntKind} {w : World} {a : Option Addr} {len : Nat} {A : List Int} (h : A.length = len) (h0 : len = 0) : Sl κ w a len A := ⟨h, fun hp => by omega⟩

set_option maxHeartbeats 400000 in
theorem take_given (a : Option Addr) (len cap : Nat) (k : Nat) (A : List Int) (w : World) (s : Sl .u8 w a len A) (hc : len ≤ cap) (hk : k ≤ len) (hb : cap ≤ 1048576) :
    Calls Trym.prog 26 #[.slice a len cap, .bool true, .int .i64 k] w fun e w' => ∃ ar ap cr cp, e = .returned (.tuple #[.slice ar (len - k) cr, .bool true, .slice ap k cp]) ∧ Sl .u8 w' ar (len - k) (A.drop k) ∧ Sl .u8 w' ap k (A.take k) ∧ len - k ≤ cr ∧ cr ≤ 1048576 ∧ Below w.heap.size w w' := by
  have HS : Hid (Sl .u8 w a len A) := s
  clear s
  have hk' : (k : Int) ≤ (len : Int) := by omega
  have hk2 : (k : Int) ≤ (cap : Int) := by omega
  go_enter Trym.func26, Trym.ntmps26
  go_wp2
  · rename_i h
    go_quiet (fail)
    go_wp2
    go_ret3
    have hB : Below w.heap.size w ((w.alloc (Obj.cells #[Value.slice a (len - k) 0, Value.int IntKind.i64 0, Value.bool true] 49)).drewN nq) := below_drewN ((Below.refl _ _).alloc (Nat.le_refl _) _) _
    exact ⟨_, _, _, _, rfl, Sl.none (by have := HS.out.1; simp; omega) (by omega), (HS.out.take hk).below hB, by omega, by omega, hB⟩
  · rename_i h
    go_quiet (fail)
    go_wp2
    go_ret3
    have hB : Below w.heap.size w ((w.alloc (Obj.cells #[Value.slice (Option.map (fun x => x.add k) a) (len - k) (cap - k), Value.int IntKind.i64 0, Value.bool true] 49)).drewN nq) := below_drewN ((Below.refl _ _).alloc (Nat.le_refl _) _) _
    exact ⟨_, _, _, _, rfl, (HS.out.drop hk).below hB, (HS.out.take hk).below hB, by omega, by omega, hB⟩

theorem Trym.info5 : (Trym.prog.info? 5).map (fun i => (i.zero, i.size, i.bytes)) = some (some (.int .u8 0), 1, 1) := by kernel_rfl

set_option maxHeartbeats 400000 in
theorem equalB_any (a b : Option Addr) (la lb ca cb : Nat) (A B : List Int) (w : World) (ha : Sl .u8 w a la A) (hb : Sl .u8 w b lb B) (hbd : la ≤ 1048576) :
    Calls Trym.prog 27 #[.slice a la ca, .slice b lb cb] w fun e w' => e = .returned (.bool (eqv A B)) ∧ Below w.heap.size w w' := by
  obtain ⟨hA, ha⟩ := ha
  obtain ⟨hB, hb⟩ := hb
  by_cases hne : la = lb
  · subst hne
    have HA : Hid (A.length = la) := hA
    have HB : Hid (B.length = la) := hB
    clear hA hB
    have hnn : ((la : Int) != (la : Int)) = false := by simp
    go_enter Trym.func27, Trym.ntmps27
    go_wp2
    go_loopw [5] (fun i wr => ∃ k : Nat, k ≤ la ∧ i = .int .i64 k ∧ (∀ t, t < k → A.getD t 0 = B.getD t 0) ∧ Below w.heap.size w wr) (fun i _ => la - (intOf i).toNat)
    case atStart => exact ⟨0, Nat.zero_le _, rfl, fun t ht => by omega, Below.refl _ _⟩
    case round =>
      obtain ⟨k, hk, rfl, hsofar, hbel⟩ := hrel
      have HS : Hid (∀ t, t < k → A.getD t 0 = B.getD t 0) := hsofar
      clear hsofar
      by_cases hlt : k < la
      · obtain ⟨b1, o1, rfl, hb1, hc1⟩ := ha (by omega)
        obtain ⟨b2, o2, rfl, hb2, hc2⟩ := hb (by omega)
        obtain ⟨x, hx⟩ : ∃ x, x = A.getD k 0 := ⟨_, rfl⟩
        obtain ⟨y, hy⟩ : ∃ y, y = B.getD k 0 := ⟨_, rfl⟩
        have g1 : wr.cell? ⟨b1, o1 + k, none⟩ = some (.int .u8 x) := by rw [hx]; exact (hbel.cell (p := ⟨b1, o1 + k, none⟩) hb1).trans (hc1 k (by omega))
        have g2 : wr.cell? ⟨b2, o2 + k, none⟩ = some (.int .u8 y) := by rw [hy]; exact (hbel.cell (p := ⟨b2, o2 + k, none⟩) hb2).trans (hc2 k (by omega))
        have HX : Hid (x = A.getD k 0) := hx
        have HY : Hid (y = B.getD k 0) := hy
        have hkk : (k : Int) < (la : Int) := by omega
        clear hx hy hc1 hc2 ha hb
        by_cases hxy : x = y
        · have HXY : Hid (x = y) := hxy
          have hq : (x != y) = false := by simp [hxy]
          clear hxy
          go_wp2
          go_quiet (fail)
          go_wp2
          go_roundw
          case rel => exact ⟨k + 1, by omega, by go_num, fun t ht => by
            by_cases e : t = k
            · subst e; rw [← HX.out, ← HY.out]; exact HXY.out
            · exact HS.out t (by omega), below_drewN hbel _⟩
          case measure => simp [intOf]; omega
        · have HXY : Hid (x ≠ y) := hxy
          have hq : (x != y) = true := by simp [hxy]
          clear hxy
          go_wp2
          go_quiet (fail)
          go_wp2
          go_ret
          exact ⟨ret_bool (by rw [eqv_false (i := k) (by rw [← HX.out, ← HY.out]; exact HXY.out)]), below_drewN hbel _⟩
      · have hkl : k = la := by omega
        have HK : Hid (k = la) := hkl
        clear hkl ha hb
        go_wp2
        go_ret
        exact ⟨ret_bool (by rw [eqv_true HA.out HB.out (fun i hi => HS.out i (by have := HK.out; omega))]), hbel⟩
  · have hnn : ((la : Int) != (lb : Int)) = true := by simp; omega
    have HL : Hid (A.length ≠ B.length) := by show A.length ≠ B.length; omega
    clear hA hB ha hb hne
    go_enter Trym.func27, Trym.ntmps27
    go_wp2
    go_ret
    exact ⟨ret_bool (by rw [eqv_len HL.out]), Below.refl _ _⟩

set_option maxHeartbeats 400000 in
theorem cloneB_any (a : Option Addr) (la ca : Nat) (A : List Int) (w : World) (ha : Sl .u8 w a la A) (hbd : la ≤ 1048576) :
    Calls Trym.prog 25 #[.slice a la ca] w fun e w' => ∃ a' c', e = .returned (.slice a' la c') ∧ la ≤ c' ∧ c' ≤ 1048576 ∧ Sl .u8 w' a' la A ∧ Below w.heap.size w w' := by
  have hnil := fun wx => Lib.run_eql_slice_nil (P := Trym.prog) wx 38 5 a la ca 0 0 Trym.underlying38
  cases a with
  | none =>
    have h0 : la = 0 := by
      by_cases h : 0 < la
      · obtain ⟨b, o, h1, _⟩ := ha.2 h; cases h1
      · omega
    subst h0
    have HA : Hid (Sl .u8 w none 0 A) := ha
    clear ha
    go_enter Trym.func25, Trym.ntmps25
    go_wp2
    go_ret
    exact ⟨none, 0, rfl, Nat.le_refl _, by omega, HA.out, Below.refl _ _⟩
  | some x =>
    obtain ⟨hA, ha⟩ := ha
    have HA : Hid (A.length = la) := hA
    clear hA
    obtain ⟨i0, hi, hz0, hz1, hz2⟩ := info_parts Trym.info5
    go_enter Trym.func25, Trym.ntmps25
    go_wp2_with (at_make; refine wpList_make_full _ rfl _ _ 38 rfl w.heap.size 5 i0 (.int .u8 0) 1 Trym.underlying38 hi hz0 hz1 _ _ _ _ la rfl rfl rfl rfl ?b2 ?b3 (Nat.le_refl _) ?_)
    case b2 => rw [hz2]; omega
    case b3 => unfold maxLen; omega
    intro w0 hown0 hgrow0
    go_wp2
    go_loopw [4] (fun i wr => ∃ (k : Nat) (xs : List Value), k ≤ la ∧ i = .int .i64 k ∧ wr.ownsRow w.heap.size 5 1 (.slice (some ⟨w.heap.size, 0, none⟩) la la) la xs ∧ (∀ t, t < k → xs[t]? = some (.int .u8 (A.getD t 0))) ∧ Below w.heap.size w wr) (fun i _ => la - (intOf i).toNat)
    case atStart => exact ⟨0, _, Nat.zero_le _, rfl, hown0, fun t ht => by omega, (Below.refl _ _).grown hgrow0 (Nat.le_refl _) (fun k h => by cases h)⟩
    case round =>
      obtain ⟨k, xs, hk, rfl, hown, hsofar, hbel⟩ := hrel
      have HS : Hid (∀ t, t < k → xs[t]? = some (.int .u8 (A.getD t 0))) := hsofar
      clear hsofar hown0 hgrow0
      by_cases hlt : k < la
      · obtain ⟨b1, o1, hx1, hb1, hc1⟩ := ha (by omega)
        cases hx1
        have hxl : k < xs.length := by have := hown.1; omega
        obtain ⟨y, hy⟩ : ∃ y, y = A.getD k 0 := ⟨_, rfl⟩
        have g1 : wr.cell? ⟨b1, o1 + k, none⟩ = some (.int .u8 y) := by rw [hy]; exact (hbel.cell (p := ⟨b1, o1 + k, none⟩) hb1).trans (hc1 k (by omega))
        obtain ⟨v0, g2⟩ : ∃ v0, wr.cell? ⟨w.heap.size, k, none⟩ = some v0 := ⟨xs[k], by rw [hown.cellAt k (by omega)]; simp [hxl]⟩
        have g3 : wr.frozen? ⟨w.heap.size, k, none⟩ = false := hown.frozenAt k
        have hkk : (k : Int) < (la : Int) := by omega
        have R := hown.stored k (.int .u8 y)
        have HR : Hid _ := R
        have HY : Hid (y = A.getD k 0) := hy
        have HXL : Hid (k < xs.length) := hxl
        clear hy hc1 ha R hown hxl
        go_wp2
        go_roundw
        case rel => exact ⟨k + 1, _, by omega, by go_num, HR.out.1, by rw [HY.out]; exact fill_step HXL.out HS.out, hbel.setCell (by simp) _⟩
        case measure => simp [intOf]; omega
      · have hkl : k = la := by omega
        have HK : Hid (k = la) := hkl
        clear hkl ha
        go_wp2
        go_ret
        exact ⟨_, _, rfl, Nat.le_refl _, hbd, Sl.own hown HA.out (fun t ht => HS.out t (by have := HK.out; omega)), hbel⟩

end Go.Proofs.Qxb6000907aMods
