/- The walk of FnNewRootSinkOrderAndRepeatsFree at nil datasets; the two walks joined. -/
import Derived.Test.Qxb6605176aModsOrderWalk
namespace Go.Proofs.Qxb6605176aMods.fnNewRootSinkOrderAndRepeatsFree
open Go.RowKit
set_option linter.unusedVariables false

set_option maxRecDepth 100000 in
set_option maxHeartbeats 1000000 in
theorem walk_none (r : ByteArray) (cap : Nat) (w : World) (hr : r.size ≤ 9223372036854775807) :
    Calls Trym.prog 7 #[.string r, .slice none 0 cap] w fun e w' => e = .returned (.bool true) ∧ Below w.heap.size w w' := by
  have hds : ∀ wx a, Ss wx a 0 [] := fun wx a => ⟨rfl, fun h => by omega⟩
  have HDS := hd_ hds
  clear hds
  have hneq := fun wx => run_neq_slice_nil_any (P := Trym.prog) wx 30 9 none 0 cap 0 0 Trym.underlying30
  obtain ⟨i0, hi, hz0, hz1, hz2⟩ := info_parts Trym.info9
  go_enter Trym.func7, Trym.ntmps7
  go_wp2_with fail
  refine (zz23_any r _ 0 cap [] _ (HDS.out _ _) hr (by omega)).mono ?_
  rintro e wz ⟨⟨b, rfl⟩, rfl⟩
  cases b with
  | false =>
    go_wp2_with fail
    go_ret
    exact ⟨rfl, Below.refl _ _⟩
  | true =>
    go_wp2_with fail
    refine (fits_any r _ 0 cap [] _ (HDS.out _ _) hr (by omega)).mono ?_
    rintro e wz ⟨⟨b, rfl, hfit⟩, rfl⟩
    cases b with
    | false =>
      go_wp2_with fail
      go_ret
      exact ⟨rfl, Below.refl _ _⟩
    | true =>
      obtain ⟨hr2, hl2, hd⟩ := hfit rfl
      clear hfit hr hl2
      have HD := hd_ hd
      clear hd
      go_wp2_with (at_make; refine wpList_make_own _ rfl _ _ 30 rfl wz.heap.size 9 i0 (.string ⟨#[]⟩) 1 Trym.underlying30 hi hz0 hz1 _ _ _ 0 rfl rfl (by simp) ?b4 ?b5 (Nat.le_refl _) ?_)
      case b4 => rw [hz2]; omega
      case b5 => unfold maxLen; omega
      intro wm hown1 hgrow1
      have HB1 := hd_ ((Below.refl _ _).grown hgrow1 (Nat.le_refl _) (fun k h => by cases h))
      clear hown1 hgrow1 hneq hi hz0 hz1 hz2
      go_wp2_with fail
      go_loop [6, 7] (fun tw i => tw = .slice (some ⟨wz.heap.size, 0, none⟩) 0 0 ∧ i = .int .i64 (-1)) (fun _ _ => 0)
      case atStart => exact ⟨rfl, rfl⟩
      case round =>
        obtain ⟨rfl, rfl⟩ := hrel
        go_wp2_with fail
        go_loop [6, 58] (fun tw i => tw = .slice (some ⟨wz.heap.size, 0, none⟩) 0 0 ∧ i = .int .i64 0) (fun _ _ => 0)
        case atStart => exact ⟨rfl, rfl⟩
        case round =>
          obtain ⟨rfl, rfl⟩ := hrel
          go_wp2_with fail
          refine (parts_any r none 0 cap [] _ (HDS.out _ _) hr2 (by omega) HD.out).mono ?_
          rintro e w3 ⟨B, nB, rfl, hB, hM, b2⟩
          go_wp2_with fail
          refine (parts_any r _ 0 _ [] _ (HDS.out _ _) hr2 (by omega) HD.out).mono ?_
          rintro e w4 ⟨B', nB', rfl, hB', hM', b3⟩
          have HMB := hd_ (hM.below b3)
          have heqm := fun wx => run_eql_map_nil (P := Trym.prog) wx 32 9 4 (some B) Trym.underlying32
          have heqm' := fun wx => run_eql_map_nil (P := Trym.prog) wx 32 9 4 (some B') Trym.underlying32
          obtain ⟨N1, hlen1, hD1⟩ := HMB.out.len
          obtain ⟨N2, hlen2, hD2⟩ := hM'.len
          obtain rfl := len_same hD1 hD2
          have hnn : ((N1 : Int) != (N1 : Int)) = false := by simp
          have HB4 := hd_ (below3 HB1.out b2 b3)
          clear hM hM' b2 b3 hD1 hD2 hB hB'
          go_wp2_with fail
          go_loop [114] (fun i => i = .int .i64 0) (fun _ => 0)
          case atStart => rfl
          case round =>
            subst hrel
            go_wp2_with fail
            go_ret
            exact ⟨rfl, HB4.out⟩

theorem walk (r : ByteArray) (a : Option Addr) (len cap : Nat) (ds : List ByteArray) (w : World) (hds : Ss w a len ds) (hr : r.size ≤ 9223372036854775807) (hl : len ≤ 9223372036854775807) :
    Calls Trym.prog 7 #[.string r, .slice a len cap] w fun e w' => e = .returned (.bool true) ∧ Below w.heap.size w w' := by
  cases a with
  | some x => exact walk_some r x len cap ds w hds hr hl
  | none =>
    have h0 : len = 0 := by
      by_cases h : 0 < len
      · obtain ⟨b, o, h1, _⟩ := hds.2 h; cases h1
      · omega
    subst h0
    exact walk_none r cap w hr
end Go.Proofs.Qxb6605176aMods.fnNewRootSinkOrderAndRepeatsFree
