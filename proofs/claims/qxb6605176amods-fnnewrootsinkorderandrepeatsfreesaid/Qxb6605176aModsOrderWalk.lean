/- The walk of FnNewRootSinkOrderAndRepeatsFree. -/
import Derived.Test.Qxb6605176aModsTwice
import Derived.Deep.Cut
namespace Go.Proofs.Qxb6605176aMods.fnNewRootSinkOrderAndRepeatsFree
open Go.RowKit
set_option linter.unusedVariables false

set_option maxRecDepth 100000 in
set_option maxHeartbeats 4000000 in
theorem walk_some (r : ByteArray) (x : Addr) (len cap : Nat) (ds : List ByteArray) (w : World) (hds : Ss w (some x) len ds) (hr : r.size ≤ 9223372036854775807) (hl : len ≤ 9223372036854775807) :
    Calls Trym.prog 7 #[.string r, .slice (some x) len cap] w fun e w' => e = .returned (.bool true) ∧ Below w.heap.size w w' := by
  have hneq := fun wx => run_neq_slice_nil_any (P := Trym.prog) wx 30 9 (some x) len cap 0 0 Trym.underlying30
  obtain ⟨i0, hi, hz0, hz1, hz2⟩ := info_parts Trym.info9
  go_enter Trym.func7, Trym.ntmps7
  go_wp2_with fail
  refine (zz23_any r _ len cap ds _ hds hr hl).mono ?_
  rintro e wz ⟨⟨b, rfl⟩, rfl⟩
  cases b with
  | false =>
    go_wp2_with fail
    go_ret
    exact ⟨rfl, Below.refl _ _⟩
  | true =>
    go_wp2_with fail
    refine (fits_any r _ len cap ds _ hds hr hl).mono ?_
    rintro e wz ⟨⟨b, rfl, hfit⟩, rfl⟩
    cases b with
    | false =>
      go_wp2_with fail
      go_ret
      exact ⟨rfl, Below.refl _ _⟩
    | true =>
      obtain ⟨hr2, hl2, hd⟩ := hfit rfl
      clear hfit hr hl
      have HD := hd_ hd
      have HDS := hd_ hds
      clear hd hds
      go_wp2_with (at_make; refine wpList_make_full _ rfl _ _ 30 rfl wz.heap.size 9 i0 (.string ⟨#[]⟩) 1 Trym.underlying30 hi hz0 hz1 _ _ _ _ len rfl rfl rfl rfl ?b2 ?b3 (Nat.le_refl _) ?_)
      case b2 => rw [hz2]; omega
      case b3 => unfold maxLen; omega
      intro w0 hown0 hgrow0
      have hb0 : Below wz.heap.size wz w0 := (Below.refl _ _).grown hgrow0 (Nat.le_refl _) (fun k h => by cases h)
      obtain ⟨cur, hblk, hcs⟩ := made_block hown0
      have HB0 := hd_ hb0
      have HBLK := hd_ hblk
      have hlen := HDS.out.1
      have HSRC := hd_ (src_cells (HDS.out.below HB0.out))
      clear hown0 hgrow0 hb0 hblk
      go_upto_region 9 with (refine wpList_copy_own rfl (.tmp 34) (.tmp 35) 30 30 rfl 9 Trym.underlying30 Trym.size9 wz.heap.size 0 len len x len cap rfl rfl cur 9 HBLK.out (ds.map Value.string) (by simp [hlen]) HSRC.out (by simp; omega) (strs_oneCell ds) ?_)
      have s1 : Ss (w0.setRow wz.heap.size (List.map Value.string ds ++ List.drop len cur.toList).toArray) (some ⟨wz.heap.size, 0, none⟩) len ds := by
        have := ss_of_block (copied_block (ds := ds) HBLK.out hcs)
        rw [hlen] at this; exact this
      have b1 : Below wz.heap.size wz (w0.setRow wz.heap.size (List.map Value.string ds ++ List.drop len cur.toList).toArray) := below_setRow HB0.out (Nat.le_refl _) _
      generalize w0.setRow wz.heap.size (List.map Value.string ds ++ List.drop len cur.toList).toArray = w1 at *
      generalize (some { block := wz.heap.size, off := 0 } : Option Addr) = va at *
      clear HSRC HBLK HB0 HDS hcs hneq
      have HS1 := hd_ s1
      have HB1 := hd_ b1
      clear s1 b1
      go_wp2_with (at_make; refine wpList_make_own _ rfl _ _ 30 rfl w1.heap.size 9 i0 (.string ⟨#[]⟩) 1 Trym.underlying30 hi hz0 hz1 _ _ _ (2 * len) rfl rfl (by omega) ?b4 ?b5 (Nat.le_refl _) ?_)
      case b4 => rw [hz2]; omega
      case b5 => unfold maxLen; omega
      intro wm hown1 hgrow1
      go_wp2_with fail
      go_loopw [6, 7] (fun tw i wr => ∃ (m : Nat) (x : Int), m ≤ len ∧ x = (m : Int) - 1 ∧ i = .int .i64 x ∧ tw = .slice (some ⟨w1.heap.size, 0, none⟩) (len - m) (2 * len) ∧ wr.ownsRow w1.heap.size 9 1 (.slice (some ⟨w1.heap.size, 0, none⟩) (len - m) (2 * len)) (len - m) ((ds.drop m).reverse.map Value.string) ∧ Below w1.heap.size w1 wr) (fun _ i _ => (intOf i + 1).toNat)
      case atStart => exact ⟨len, _, Nat.le_refl _, rfl, rfl, by simp, rev_start hlen hown1, (Below.refl _ _).grown hgrow1 (Nat.le_refl _) (fun k h => by cases h)⟩
      case round =>
        obtain ⟨m, x, hm, hx, rfl, rfl, hown, hbel⟩ := hrel
        clear hown1 hgrow1
        have HBEL := hd_ hbel
        clear hbel
        cases m with
        | succ k =>
          obtain rfl : x = (k : Int) := by omega
          clear hx
          have hlt : k < len := by omega
          obtain ⟨b1, o1, rfl, hb1, hc1⟩ := HS1.out.2 (by omega)
          obtain ⟨d, hdd⟩ : ∃ d, d = ds.getD k ByteArray.empty := ⟨_, rfl⟩
          have g1 : wr.cell? ⟨b1, o1 + k, none⟩ = some (.string d) := by rw [hdd]; exact (HBEL.out.cell (p := ⟨b1, o1 + k, none⟩) hb1).trans (hc1 k hlt)
          have hsz : d.size ≤ 4096 := by rw [hdd]; exact HD.out k hlt
          have HDD := hd_ hdd
          have hkk : (k : Int) < (len : Int) := by omega
          have hbs := HBEL.out.size
          have HREV := hd_ (rev_step (k := k) (by omega) HDD.out)
          have hfit : len - (k + 1) + 1 ≤ 2 * len := by omega
          clear hc1 hdd
          go_wp2_with (at_builtin; refine wpList_append_fits _ rfl _ _ 30 rfl w1.heap.size 9 i0 1 Trym.underlying30 hi hz1 w1.heap.size (len - (k + 1)) (2 * len) _ rfl (hown.alloc _) ⟨wr.heap.size, 0, none⟩ 1 1 [.string d] rfl rfl (cell_one_new _ _ _) (strs_oneCell [d]) hfit ?_; intro w6 hown6 hgrow6)
          have HO6 : Hid (w6.ownsRow w1.heap.size 9 1 (.slice (some ⟨w1.heap.size, 0, none⟩) (len - k) (2 * len)) (len - k) ((ds.drop k).reverse.map Value.string)) := by
            have h := hown6
            rw [HREV.out, show len - (k + 1) + 1 = len - k by omega] at h
            exact h
          have HB6 := hd_ ((HBEL.out.alloc hbs _).grown hgrow6 (by simp; omega) (fun k hk => by cases hk; exact Nat.le_refl _))
          have hlk : len - (k + 1) + 1 = len - k := by omega
          clear hown6 hgrow6 hown
          go_wp2_with fail
          go_roundw
          case rel => exact ⟨k, _, by omega, rfl, rfl, by rw [hlk], HO6.out, HB6.out⟩
          case measure => simp [intOf]
        | zero =>
          obtain rfl : x = -1 := by omega
          clear hx
          have HO : Hid (wr.ownsRow w1.heap.size 9 1 (.slice (some ⟨w1.heap.size, 0, none⟩) len (2 * len)) len (ds.reverse.map Value.string)) := hown
          clear hown
          have hl0 : len - 0 = len := rfl
          go_wp2_with fail
          go_loopw [6, 58] (fun tw i wr2 => ∃ j : Nat, j ≤ len ∧ i = .int .i64 j ∧ tw = .slice (some ⟨w1.heap.size, 0, none⟩) (len + j) (2 * len) ∧ wr2.ownsRow w1.heap.size 9 1 (.slice (some ⟨w1.heap.size, 0, none⟩) (len + j) (2 * len)) (len + j) ((ds.reverse ++ ds.take j).map Value.string) ∧ Below w1.heap.size w1 wr2) (fun _ i _ => len - (intOf i).toNat)
          case atStart => exact ⟨0, Nat.zero_le _, rfl, rfl, by simpa using HO.out, HBEL.out⟩
          case round =>
            clear HO HBEL
            obtain ⟨j, hj, rfl, rfl, hown, hbel⟩ := hrel
            have HBEL := hd_ hbel
            clear hbel
            by_cases hlt : j < len
            · obtain ⟨b1, o1, rfl, hb1, hc1⟩ := HS1.out.2 (by omega)
              obtain ⟨d, hdd⟩ : ∃ d, d = ds.getD j ByteArray.empty := ⟨_, rfl⟩
              have g1 : wr.cell? ⟨b1, o1 + j, none⟩ = some (.string d) := by rw [hdd]; exact (HBEL.out.cell (p := ⟨b1, o1 + j, none⟩) hb1).trans (hc1 j hlt)
              have hsz : d.size ≤ 4096 := by rw [hdd]; exact HD.out j hlt
              have HDD := hd_ hdd
              have hkk : (j : Int) < (len : Int) := by omega
              have hbs := HBEL.out.size
              have HFWD := hd_ (fwd_step (k := j) (by omega) HDD.out)
              have hfit : len + j + 1 ≤ 2 * len := by omega
              clear hc1 hdd
              go_wp2_with (at_builtin; refine wpList_append_fits _ rfl _ _ 30 rfl w1.heap.size 9 i0 1 Trym.underlying30 hi hz1 w1.heap.size (len + j) (2 * len) _ rfl (hown.alloc _) ⟨wr.heap.size, 0, none⟩ 1 1 [.string d] rfl rfl (cell_one_new _ _ _) (strs_oneCell [d]) hfit ?_; intro w6 hown6 hgrow6)
              have HO6 : Hid (w6.ownsRow w1.heap.size 9 1 (.slice (some ⟨w1.heap.size, 0, none⟩) (len + (j + 1)) (2 * len)) (len + (j + 1)) ((ds.reverse ++ ds.take (j + 1)).map Value.string)) := by
                have h := hown6
                rw [HFWD.out] at h
                exact h
              have HB6 := hd_ ((HBEL.out.alloc hbs _).grown hgrow6 (by simp; omega) (fun k hk => by cases hk; exact Nat.le_refl _))
              clear hown6 hgrow6 hown
              go_wp2_with fail
              go_roundw
              case rel => exact ⟨j + 1, by omega, by go_num, rfl, HO6.out, HB6.out⟩
              case measure => simp [intOf]; omega
            · have hjl : j = len := by omega
              have st : Ss wr (some ⟨w1.heap.size, 0, none⟩) (len + j) (ds.reverse ++ ds) := by
                have h := hown
                rw [show ds.take j = ds from List.take_of_length_le (by omega)] at h
                exact ss_own h (by simp; omega)
              have HST := hd_ st
              have HJ := hd_ hjl
              have hl2' : len + j ≤ 131072 := by omega
              have HDT := hd_ (sizes_twice (n := len + j) (by omega) HD.out)
              have HS3 := hd_ (HS1.out.below HBEL.out)
              have HB3 := hd_ (HB1.out.trans (HBEL.out.mono HB1.out.size))
              clear hown st hjl HS1 HB1 HBEL hi hz0 hz1 hz2
              go_wp2_with fail
              refine (parts_any r va len len ds _ HS3.out hr2 (by omega) HD.out).mono ?_
              rintro e w3 ⟨B, nB, rfl, hB, hM, b2⟩
              go_wp2_with fail
              refine (parts_any r _ (len + j) _ (ds.reverse ++ ds) _ (HST.out.below b2) hr2 hl2' HDT.out).mono ?_
              rintro e w4 ⟨B', nB', rfl, hB', hM', b3⟩
              have HMB := hd_ (hM.below b3)
              have HC2 : Hid (MapC w4 B' nB' (trOf r ds) (alOf r ds)) := hM'.congr (tr_twice r ds) (al_twice r ds)
              have heqm := fun wx => run_eql_map_nil (P := Trym.prog) wx 32 9 4 (some B) Trym.underlying32
              have heqm' := fun wx => run_eql_map_nil (P := Trym.prog) wx 32 9 4 (some B') Trym.underlying32
              obtain ⟨N1, hlen1, hD1⟩ := HMB.out.len
              obtain ⟨N2, hlen2, hD2⟩ := HC2.out.len
              obtain rfl := len_same hD1 hD2
              have hnn : ((N1 : Int) != (N1 : Int)) = false := by simp
              have HS4 := hd_ ((HS3.out.below b2).below b3)
              have HB4 := hd_ (below3 HB3.out b2 b3)
              clear hM hM' b2 b3 HS3 HB3 HST HDT hD1 hD2 hB hB'
              go_wp2_with fail
              clear hlen1 hlen2 heqm heqm'
              go_loop [114] (fun i => ∃ k2 : Nat, k2 ≤ len ∧ i = .int .i64 k2) (fun i => len - (intOf i).toNat)
              case atStart => exact ⟨0, Nat.zero_le _, rfl⟩
              case round =>
                obtain ⟨k2, hk2, rfl⟩ := hrel
                by_cases hlt3 : k2 < len
                · obtain ⟨b1, o1, rfl, hb1, hc1⟩ := HS4.out.2 (by omega)
                  obtain ⟨d, hdd⟩ : ∃ d, d = ds.getD k2 ByteArray.empty := ⟨_, rfl⟩
                  have g1 : w4.cell? ⟨b1, o1 + k2, none⟩ = some (.string d) := by rw [hdd]; exact hc1 k2 hlt3
                  have hsz : d.size ≤ 4096 := by rw [hdd]; exact HD.out k2 hlt3
                  have HDD := hd_ hdd
                  have hkk : (k2 : Int) < (len : Int) := by omega
                  clear hc1 hdd
                  go_wp2_with fail
                  refine (zzKey_any r d _ (by omega) (by omega)).mono ?_
                  rintro e wx ⟨q, rfl, hq, rfl⟩
                  have hqs : q.size ≤ maxLen := by have := hq.2; unfold maxLen; omega
                  obtain ⟨bb, hh, hlook, hrun⟩ := HMB.out.look q hqs
                  have htr : trOf r ds q.data.toList := by rw [hq.1]; exact ⟨d, mem_at (by omega) HDD.out, rfl⟩
                  obtain rfl : bb = true := hlook.1.2 htr
                  obtain rfl : hh = true := hlook.2.2 (Or.inl htr)
                  clear hlook htr hqs hq HDD
                  go_wp2_with fail
                  refine (zzKey_any r d _ (by omega) (by omega)).mono ?_
                  rintro e wx2 ⟨q3, rfl, hq3, rfl⟩
                  have hqs3 : q3.size ≤ 1048576 := by have := hq3.2; omega
                  clear hq3 hrun
                  go_wp2_with fail
                  refine (agree_any B B' nB nB' (trOf r ds) (alOf r ds) q3 _ HMB.out HC2.out hqs3).mono ?_
                  rintro e wy ⟨rfl, rfl⟩
                  clear hqs3
                  go_wp2_with fail
                  go_loop [20] (fun i => ∃ p : Nat, p ≤ d.size ∧ i = .int .i64 p) (fun i => d.size - (intOf i).toNat)
                  case atStart => exact ⟨0, Nat.zero_le _, rfl⟩
                  case round =>
                    obtain ⟨p, hp, rfl⟩ := hrel
                    by_cases hpd : p < d.size
                    · have HBQ := hd_ (byt_eq hpd)
                      by_cases h47 : byt d p = 47
                      · have hq47 : ((d[p].toNat : Int) == 47) = true := by rw [HBQ.out]; simp [h47]
                        have hpd' : (p : Int) ≤ (d.size : Int) := by omega
                        clear h47
                        go_wp2_with fail
                        refine (zzKey_any r (d.extract 0 p) _ (by omega) (by rw [extract_size d p hpd]; omega)).mono ?_
                        rintro e wx ⟨q2, rfl, hq2, rfl⟩
                        have hqs2 : q2.size ≤ 1048576 := by have := hq2.2; rw [extract_size d p hpd] at this; omega
                        clear hq2
                        go_wp2_with fail
                        refine (agree_any B B' nB nB' (trOf r ds) (alOf r ds) q2 _ HMB.out HC2.out hqs2).mono ?_
                        rintro e wy ⟨rfl, rfl⟩
                        clear hqs2
                        go_wp2_with fail
                        go_round
                        case rel => exact ⟨p + 1, by omega, by go_num⟩
                        case measure => simp [intOf]; omega
                      · have hq47 : ((d[p].toNat : Int) == 47) = false := by rw [HBQ.out]; simp [h47]
                        clear h47
                        go_wp2_with fail
                        go_round
                        case rel => exact ⟨p + 1, by omega, by go_num⟩
                        case measure => simp [intOf]; omega
                    · go_wp2_with fail
                      go_round
                      case rel => exact ⟨k2 + 1, by omega, by go_num⟩
                      case measure => simp [intOf]; omega
                · go_wp2_with fail
                  go_ret
                  exact ⟨rfl, HB4.out⟩
end Go.Proofs.Qxb6605176aMods.fnNewRootSinkOrderAndRepeatsFree
