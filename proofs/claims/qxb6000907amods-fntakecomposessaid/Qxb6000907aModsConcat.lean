/- The contract of concatB. -/
import Derived.Test.Qxb6000907aModsTake
namespace Go.Proofs.Qxb6000907aMods
open Go.RowKit

theorem sl_owned {w : World} {base g n cap : Nat} {A : List Int} (h : w.ownsRow base 5 1 (.slice (some ⟨g, 0, none⟩) n cap) n (A.map (Value.int .u8))) (hA : A.length = n) : Sl .u8 w (some ⟨g, 0, none⟩) n A :=
  Sl.own h hA fun t ht => by simp [List.getD, show t < A.length by omega]

theorem map_snoc (L : List Int) (x : Int) : L.map (Value.int .u8) ++ [.int .u8 x] = (L ++ [x]).map (Value.int .u8) := by simp

theorem take_snoc (A : List Int) (k : Nat) (h : k < A.length) : A.take (k + 1) = A.take k ++ [A.getD k 0] := by
  rw [List.take_succ_eq_append_getElem h]; simp [List.getD, h]

set_option maxHeartbeats 1000000 in
theorem concatB_any (a b : Option Addr) (la lb ca cb : Nat) (A B : List Int) (w : World) (ha : Sl .u8 w a la A) (hb : Sl .u8 w b lb B) (h1 : la ≤ 1048576) (h2 : lb ≤ 1048576) :
    Calls Trym.prog 28 #[.slice a la ca, .slice b lb cb] w fun e w' => ∃ a' c', e = .returned (.slice a' (la + lb) c') ∧ Sl .u8 w' a' (la + lb) (A ++ B) ∧ Below w.heap.size w w' := by
  obtain ⟨hA, ha⟩ := ha
  obtain ⟨hB, hb⟩ := hb
  have HA : Hid (A.length = la) := hA
  have HB : Hid (B.length = lb) := hB
  clear hA hB
  obtain ⟨i0, hi, hz0, hz1, hz2⟩ := info_parts Trym.info5
  go_enter Trym.func28, Trym.ntmps28
  go_wp2_with (at_make; refine wpList_make_own _ rfl _ _ 38 rfl w.heap.size 5 i0 (.int .u8 0) 1 Trym.underlying38 hi hz0 hz1 _ _ _ (la + lb) rfl rfl (by omega) ?b2 ?b3 (Nat.le_refl _) ?_)
  case b2 => rw [hz2]; omega
  case b3 => unfold maxLen; omega
  intro w0 hown0 hgrow0
  go_wp2
  go_loopw [5, 6] (fun o i wr => ∃ k : Nat, k ≤ la ∧ i = .int .i64 k ∧ o = .slice (some ⟨w.heap.size, 0, none⟩) k (la + lb) ∧ wr.ownsRow w.heap.size 5 1 (.slice (some ⟨w.heap.size, 0, none⟩) k (la + lb)) k ((A.take k).map (Value.int .u8)) ∧ Below w.heap.size w wr) (fun _ i _ => la - (intOf i).toNat)
  case atStart => exact ⟨0, Nat.zero_le _, rfl, rfl, by simpa using hown0, (Below.refl _ _).grown hgrow0 (Nat.le_refl _) (fun k h => by cases h)⟩
  case round =>
    obtain ⟨k, hk, rfl, rfl, hown, hbel⟩ := hrel
    clear hown0 hgrow0
    by_cases hlt : k < la
    · obtain ⟨b1, o1, rfl, hb1, hc1⟩ := ha (by omega)
      obtain ⟨x, hx⟩ : ∃ x, x = A.getD k 0 := ⟨_, rfl⟩
      have g1 : wr.cell? ⟨b1, o1 + k, none⟩ = some (.int .u8 x) := by rw [hx]; exact (hbel.cell (p := ⟨b1, o1 + k, none⟩) hb1).trans (hc1 k (by omega))
      have hkk : (k : Int) < (la : Int) := by omega
      have HX : Hid (A.take (k + 1) = A.take k ++ [x]) := by show _ = _; rw [hx]; exact take_snoc A k (by have := HA.out; omega)
      have hsz := hbel.size
      clear hx hc1 ha hb
      go_wp2_with (at_builtin; refine wpList_append_fits _ rfl _ _ 38 rfl w.heap.size 5 i0 1 Trym.underlying38 hi hz1 w.heap.size k (la + lb) _ rfl (hown.alloc _) ⟨wr.heap.size, 0, none⟩ 1 1 [.int .u8 x] rfl rfl (cell_one_new _ _ _) (ints_oneCell .u8 [x]) (by omega) ?_; intro w1 hown1 hgrow1)
      go_roundw
      case rel => exact ⟨k + 1, by omega, by go_num, rfl, by rw [HX.out, ← map_snoc]; exact hown1, (hbel.alloc hsz _).grown hgrow1 (by simp; omega) (fun k hk => by cases hk; exact Nat.le_refl _)⟩
      case measure => simp [intOf]; omega
    · have hkl : k = la := by omega
      subst hkl
      have hAt : A.take k = A := List.take_of_length_le (by have := HA.out; omega)
      rw [hAt] at hown
      clear hAt ha
      go_wp2
      go_loopw [5, 7] (fun o i wr2 => ∃ j : Nat, j ≤ lb ∧ i = .int .i64 j ∧ o = .slice (some ⟨w.heap.size, 0, none⟩) (k + j) (k + lb) ∧ wr2.ownsRow w.heap.size 5 1 (.slice (some ⟨w.heap.size, 0, none⟩) (k + j) (k + lb)) (k + j) ((A ++ B.take j).map (Value.int .u8)) ∧ Below w.heap.size w wr2) (fun _ i _ => lb - (intOf i).toNat)
      case atStart => exact ⟨0, Nat.zero_le _, rfl, rfl, by simpa using hown, hbel⟩
      case round =>
        obtain ⟨j, hj, rfl, rfl, hown2, hbel2⟩ := hrel
        clear hown hbel
        by_cases hlt2 : j < lb
        · obtain ⟨b1, o1, rfl, hb1, hc1⟩ := hb (by omega)
          obtain ⟨x, hx⟩ : ∃ x, x = B.getD j 0 := ⟨_, rfl⟩
          have g1 : wr.cell? ⟨b1, o1 + j, none⟩ = some (.int .u8 x) := by rw [hx]; exact (hbel2.cell (p := ⟨b1, o1 + j, none⟩) hb1).trans (hc1 j (by omega))
          have hkk : (j : Int) < (lb : Int) := by omega
          have HX : Hid (A ++ B.take (j + 1) = (A ++ B.take j) ++ [x]) := by show _ = _; rw [hx, take_snoc B j (by have := HB.out; omega), List.append_assoc]
          have hsz := hbel2.size
          clear hx hc1 hb
          go_wp2_with (at_builtin; refine wpList_append_fits _ rfl _ _ 38 rfl w.heap.size 5 i0 1 Trym.underlying38 hi hz1 w.heap.size (k + j) (k + lb) _ rfl (hown2.alloc _) ⟨wr.heap.size, 0, none⟩ 1 1 [.int .u8 x] rfl rfl (cell_one_new _ _ _) (ints_oneCell .u8 [x]) (by omega) ?_; intro w1 hown1 hgrow1)
          go_roundw
          case rel => exact ⟨j + 1, by omega, by go_num, rfl, by rw [HX.out, ← map_snoc]; exact hown1, (hbel2.alloc hsz _).grown hgrow1 (by simp; omega) (fun k hk => by cases hk; exact Nat.le_refl _)⟩
          case measure => simp [intOf]; omega
        · have hjl : j = lb := by omega
          subst hjl
          have hBt : B.take j = B := List.take_of_length_le (by have := HB.out; omega)
          rw [hBt] at hown2
          clear hBt hb
          go_wp2
          go_ret
          exact ⟨_, _, rfl, sl_owned hown2 (by have := HA.out; have := HB.out; simp; omega), hbel2⟩
end Go.Proofs.Qxb6000907aMods
