/- The walk of FnNewRootSinkExactly at nil datasets; the two walks joined. -/
import Derived.Test.Qxb6605176aModsExactlyWalk
namespace Go.Proofs.Qxb6605176aMods.fnNewRootSinkExactly
open Go.RowKit
set_option linter.unusedVariables false

set_option maxRecDepth 100000 in
set_option maxHeartbeats 4000000 in
theorem walk_none (r : ByteArray) (cap : Nat) (w : World) (hr : r.size ≤ 9223372036854775807) :
    Calls Trym.prog 6 #[.string r, .slice none 0 cap] w fun e w' => e = .returned (.bool true) ∧ Below w.heap.size w w' := by
  have hds : ∀ wx, Ss wx none 0 [] := fun wx => ⟨rfl, fun h => by omega⟩
  have HDS := hd_ hds
  clear hds
  have hneq := fun wx => run_neq_slice_nil_any (P := Trym.prog) wx 30 9 none 0 cap 0 0 Trym.underlying30
  go_enter Trym.func6, Trym.ntmps6
  go_wp2_with fail
  refine (zz18_any r _ 0 cap [] _ (HDS.out _) hr (by omega)).mono ?_
  rintro e wz ⟨⟨b, rfl⟩, rfl⟩
  cases b with
  | false =>
    go_wp2_with fail
    go_ret
    exact ⟨rfl, Below.refl _ _⟩
  | true =>
    go_wp2_with fail
    refine (fits_any r _ 0 cap [] _ (HDS.out _) hr (by omega)).mono ?_
    rintro e wz ⟨⟨b, rfl, hfit⟩, rfl⟩
    cases b with
    | false =>
      go_wp2_with fail
      go_ret
      exact ⟨rfl, Below.refl _ _⟩
    | true =>
      obtain ⟨hr2, hl2, hd⟩ := hfit rfl
      clear hfit hr hl2
      have HD := hd_ hd
      clear hd
      go_wp2_with fail
      refine (parts_any r none 0 cap [] _ (HDS.out _) hr2 (by omega) HD.out).mono ?_
      rintro e w2 ⟨B, nB, rfl, hB, hM, b2⟩
      have hBl := hM.lt
      have heqm := fun wx => run_eql_map_nil (P := Trym.prog) wx 32 9 4 (some B) Trym.underlying32
      have hmm := @run_makeMap Trym.prog
      have HMB := hd_ (hM.below ((Below.refl _ _).alloc (Nat.le_refl _) (Obj.map #[] 0)))
      have HC2 : Hid (MapC (w2.alloc (Obj.map #[] 0)) w2.heap.size 0 (trOf r []) (alOf r [])) :=
        (MapC.made w2).congr (fun x => ⟨fun ⟨d, hd, _⟩ => by simp at hd, fun h => h.elim⟩) (fun x => ⟨fun ⟨d, hd, _⟩ => by simp at hd, fun h => h.elim⟩)
      obtain ⟨N1, hlen1, hD1⟩ := HMB.out.len
      obtain ⟨N2, hlen2, hD2⟩ := HC2.out.len
      obtain rfl := len_same hD1 hD2
      have hnn : ((N1 : Int) != (N1 : Int)) = false := by simp
      have HB := hd_ b2
      clear hM b2 hD1 hD2 hneq
      go_wp2_with fail
      go_loop [60] (fun i => i = .int .i64 0) (fun _ => 0)
      case atStart => rfl
      case round =>
        subst hrel
        go_wp2_with fail
        go_loop [71] (fun i => i = .int .i64 0) (fun _ => 0)
        case atStart => rfl
        case round =>
          subst hrel
          go_wp2_with fail
          go_loop [108] (fun i => i = .int .i64 0) (fun _ => 0)
          case atStart => rfl
          case round =>
            subst hrel
            go_wp2_with fail
            go_ret
            exact ⟨rfl, HB.out.alloc HB.out.size _⟩

theorem walk (r : ByteArray) (a : Option Addr) (len cap : Nat) (ds : List ByteArray) (w : World) (hds : Ss w a len ds) (hr : r.size ≤ 9223372036854775807) (hl : len ≤ 9223372036854775807) :
    Calls Trym.prog 6 #[.string r, .slice a len cap] w fun e w' => e = .returned (.bool true) ∧ Below w.heap.size w w' := by
  cases a with
  | some x => exact walk_some r x len cap ds w hds hr hl
  | none =>
    have h0 : len = 0 := by
      by_cases h : 0 < len
      · obtain ⟨b, o, h1, _⟩ := hds.2 h; cases h1
      · omega
    subst h0
    exact walk_none r cap w hr
end Go.Proofs.Qxb6605176aMods.fnNewRootSinkExactly
