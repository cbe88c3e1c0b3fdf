/- The walk of FnNewRootSinkExactly. -/
import Derived.Test.Qxb6605176aModsModel
namespace Go.Proofs.Qxb6605176aMods.fnNewRootSinkExactly
open Go.RowKit
set_option linter.unusedVariables false

set_option maxRecDepth 100000 in
set_option maxHeartbeats 4000000 in
theorem walk_some (r : ByteArray) (x : Addr) (len cap : Nat) (ds : List ByteArray) (w : World) (hds : Ss w (some x) len ds) (hr : r.size ≤ 9223372036854775807) (hl : len ≤ 9223372036854775807) :
    Calls Trym.prog 6 #[.string r, .slice (some x) len cap] w fun e w' => e = .returned (.bool true) ∧ Below w.heap.size w w' := by
  have hneq := fun wx => run_neq_slice_nil_any (P := Trym.prog) wx 30 9 (some x) len cap 0 0 Trym.underlying30
  obtain ⟨i0, hi, hz0, hz1, hz2⟩ := info_parts Trym.info9
  go_enter Trym.func6, Trym.ntmps6
  go_wp2_with fail
  refine (zz18_any r _ len cap ds _ hds hr hl).mono ?_
  rintro e wz ⟨⟨b, rfl⟩, rfl⟩
  cases b with
  | false =>
    go_wp2_with fail
    go_ret
    exact ⟨rfl, Below.refl _ _⟩
  | true =>
    go_wp2_with fail
    refine (fits_any r _ len cap ds _ hds hr hl).mono ?_
    rintro e wz ⟨⟨b, rfl, hfit⟩, rfl⟩
    cases b with
    | false =>
      go_wp2_with fail
      go_ret
      exact ⟨rfl, Below.refl _ _⟩
    | true =>
      obtain ⟨hr2, hl2, hd⟩ := hfit rfl
      clear hfit hr hl
      have HD := hd_ hd
      have HDS := hd_ hds
      clear hd hds
      go_wp2_with (at_make; refine wpList_make_full _ rfl _ _ 30 rfl wz.heap.size 9 i0 (.string ⟨#[]⟩) 1 Trym.underlying30 hi hz0 hz1 _ _ _ _ len rfl rfl rfl rfl ?b2 ?b3 (Nat.le_refl _) ?_)
      case b2 => rw [hz2]; omega
      case b3 => unfold maxLen; omega
      intro w0 hown0 hgrow0
      have hb0 : Below wz.heap.size wz w0 := (Below.refl _ _).grown hgrow0 (Nat.le_refl _) (fun k h => by cases h)
      obtain ⟨cur, hblk, hcs⟩ := made_block hown0
      have HB0 := hd_ hb0
      have HBLK := hd_ hblk
      have hlen := HDS.out.1
      have HSRC := hd_ (src_cells (HDS.out.below HB0.out))
      clear hown0 hgrow0 hb0 hblk
      go_wp2_with (refine wpList_copy_own rfl (.tmp 34) (.tmp 35) 30 30 rfl 9 Trym.underlying30 Trym.size9 wz.heap.size 0 len len x len cap rfl rfl cur 9 HBLK.out (ds.map Value.string) (by simp [hlen]) HSRC.out (by simp; omega) (strs_oneCell ds) ?_)
      have s1 : Ss (w0.setRow wz.heap.size (List.map Value.string ds ++ List.drop len cur.toList).toArray) (some ⟨wz.heap.size, 0, none⟩) len ds := by
        have := ss_of_block (copied_block (ds := ds) HBLK.out hcs)
        rw [hlen] at this; exact this
      have b1 : Below wz.heap.size wz (w0.setRow wz.heap.size (List.map Value.string ds ++ List.drop len cur.toList).toArray) := below_setRow HB0.out (Nat.le_refl _) _
      generalize w0.setRow wz.heap.size (List.map Value.string ds ++ List.drop len cur.toList).toArray = w1 at *
      generalize (some { block := wz.heap.size, off := 0 } : Option Addr) = va at *
      clear HSRC HBLK HB0 HDS hcs hi hz0 hz1 hz2 hneq
      refine (parts_any r va len len ds _ s1 hr2 (by omega) HD.out).mono ?_
      rintro e w2 ⟨B, nB, rfl, hB, hM, b2⟩
      have s2 := s1.below b2
      have b3 := b1.trans (b2.mono b1.size)
      have hBl := hM.lt
      have heqm := fun wx => run_eql_map_nil (P := Trym.prog) wx 32 9 4 (some B) Trym.underlying32
      have hmm := @run_makeMap Trym.prog
      have HM := hd_ hM
      have HS2 := hd_ s2
      have HB3 := hd_ b3
      clear hM s1 s2 b1 b2 b3
      --REST
      go_wp2_with fail
      clear hmm heqm
      go_loopw [60] (fun i wr => ∃ (k n : Nat), k ≤ len ∧ i = .int .i64 k ∧ MapC wr w2.heap.size n (trOf r (ds.take k)) (alOf r (ds.take 0)) ∧ n ≤ k ∧ Below w2.heap.size w2 wr) (fun i _ => len - (intOf i).toNat)
      case atStart => exact ⟨0, 0, Nat.zero_le _, rfl, modelA_start (modelT_start (MapC.made w2)), Nat.le_refl _, (Below.refl _ _).alloc (Nat.le_refl _) _⟩
      case round =>
        obtain ⟨k, n, hk, rfl, hC, hn, hbel⟩ := hrel
        have HC := hd_ hC
        have HBEL := hd_ hbel
        clear hC hbel
        by_cases hlt : k < len
        · obtain ⟨b1, o1, rfl, hb1, hc1⟩ := HS2.out.2 (by omega)
          obtain ⟨d, hdd⟩ : ∃ d, d = ds.getD k ByteArray.empty := ⟨_, rfl⟩
          have g1 : wr.cell? ⟨b1, o1 + k, none⟩ = some (.string d) := by rw [hdd]; exact (HBEL.out.cell (p := ⟨b1, o1 + k, none⟩) hb1).trans (hc1 k hlt)
          have hsz : d.size ≤ 4096 := by rw [hdd]; exact HD.out k hlt
          have HDD := hd_ hdd
          have hkk : (k : Int) < (len : Int) := by omega
          clear hc1 hdd
          go_wp2_with fail
          refine (zzKey_any r d _ (by omega) (by omega)).mono ?_
          rintro e wx ⟨q, rfl, hq, rfl⟩
          obtain ⟨w6, hrun6, m6, hg6⟩ := HC.out.put_true (by omega) q (by have := hq.2; unfold maxLen; omega)
          have HM6 := hd_ (modelT_step (by have := HS2.out.1; omega) HDD.out hq m6)
          have HB6 := hd_ (HBEL.out.grown hg6 HBEL.out.size (fun j hj => by cases hj; exact Nat.le_refl _))
          clear hq m6 hg6
          go_wp2_with fail
          go_roundw
          case rel => exact ⟨k + 1, n + 1, by omega, by go_num, HM6.out, by omega, HB6.out⟩
          case measure => simp [intOf]; omega
        · have hT : ds.take k = ds := List.take_of_length_le (by have := HS2.out.1; omega)
          have HC2 : Hid (MapC wr w2.heap.size n (trOf r ds) (alOf r (ds.take 0))) := by have h := HC.out; rw [hT] at h; exact h
          have hn2 : n ≤ len := by omega
          clear HC hT
          go_wp2_with fail
          go_loopw [71] (fun i wr2 => ∃ (j m : Nat), j ≤ len ∧ i = .int .i64 j ∧ MapC wr2 w2.heap.size m (trOf r ds) (alOf r (ds.take j)) ∧ m ≤ len + j * 4097 ∧ Below w2.heap.size w2 wr2) (fun i _ => len - (intOf i).toNat)
          case atStart => exact ⟨0, n, Nat.zero_le _, rfl, HC2.out, by omega, HBEL.out⟩
          case round =>
            clear HC2 HBEL
            obtain ⟨j, m, hj, rfl, hC, hm, hbel⟩ := hrel
            have HC := hd_ hC
            have HBEL := hd_ hbel
            clear hC hbel
            by_cases hlt2 : j < len
            · obtain ⟨b1, o1, rfl, hb1, hc1⟩ := HS2.out.2 (by omega)
              obtain ⟨d, hdd⟩ : ∃ d, d = ds.getD j ByteArray.empty := ⟨_, rfl⟩
              have g1 : wr.cell? ⟨b1, o1 + j, none⟩ = some (.string d) := by rw [hdd]; exact (HBEL.out.cell (p := ⟨b1, o1 + j, none⟩) hb1).trans (hc1 j hlt2)
              have hsz : d.size ≤ 4096 := by rw [hdd]; exact HD.out j hlt2
              have HDD := hd_ hdd
              have hkk : (j : Int) < (len : Int) := by omega
              have HCS := hd_ (modelL_start (d := d) HC.out)
              clear hc1 hdd HC
              go_wp2_with fail
              go_loopw [14] (fun i wr3 => ∃ (p n3 : Nat), p ≤ d.size ∧ i = .int .i64 p ∧ MapC wr3 w2.heap.size n3 (trOf r ds) (fun x => alOf r (ds.take j) x ∨ ∃ y, ancL d p y ∧ x = kk r.data.toList y) ∧ n3 ≤ len + j * 4097 + p ∧ Below w2.heap.size w2 wr3) (fun i _ => d.size - (intOf i).toNat)
              case atStart => exact ⟨0, m, Nat.zero_le _, rfl, HCS.out, by omega, HBEL.out⟩
              case round =>
                clear HCS HBEL g1
                obtain ⟨p, n3, hp, rfl, hC, hn3, hbel⟩ := hrel
                have HC := hd_ hC
                have HBEL := hd_ hbel
                clear hC hbel
                by_cases hpd : p < d.size
                · have HBQ := hd_ (byt_eq hpd)
                  by_cases h47 : byt d p = 47
                  · have hq47 : ((d[p].toNat : Int) == 47) = true := by rw [HBQ.out]; simp [h47]
                    have H47 := hd_ h47
                    have hpd' : (p : Int) ≤ (d.size : Int) := by omega
                    clear h47
                    go_wp2_with fail
                    refine (zzKey_any r (d.extract 0 p) _ (by omega) (by rw [extract_size d p hpd]; omega)).mono ?_
                    rintro e wx ⟨q, rfl, hq, rfl⟩
                    have hqs : q.size ≤ maxLen := by have := hq.2; rw [extract_size d p hpd] at this; unfold maxLen; omega
                    obtain ⟨bb, hh, hlook, hrun⟩ := HC.out.look q hqs
                    have HL := hd_ hlook
                    have HQ := hd_ hq
                    clear hlook hq
                    cases hh with
                    | false =>
                      obtain ⟨w6, hrun6, m6, hg6⟩ := HC.out.put_false (by omega) q hqs (fun h => by have := HL.out.2.2 (Or.inl h); cases this)
                      have HM6 := hd_ (modelL_yes H47.out HQ.out m6)
                      have HB6 := hd_ (HBEL.out.grown hg6 HBEL.out.size (fun j hj => by cases hj; exact Nat.le_refl _))
                      clear m6 hg6 hqs
                      go_wp2_with fail
                      go_roundw
                      case rel => exact ⟨p + 1, n3 + 1, by omega, by go_num, HM6.out, by omega, HB6.out⟩
                      case measure => simp [intOf]; omega
                    | true =>
                      have HM6 := hd_ (modelL_yes H47.out HQ.out (HC.out.skip _ (HL.out.2.1 rfl)))
                      clear hqs
                      go_wp2_with fail
                      go_roundw
                      case rel => exact ⟨p + 1, n3, by omega, by go_num, HM6.out, by omega, HBEL.out⟩
                      case measure => simp [intOf]; omega
                  · have hq47 : ((d[p].toNat : Int) == 47) = false := by rw [HBQ.out]; simp [h47]
                    have HM6 := hd_ (modelL_no h47 HC.out)
                    clear h47
                    go_wp2_with fail
                    go_roundw
                    case rel => exact ⟨p + 1, n3, by omega, by go_num, HM6.out, by omega, HBEL.out⟩
                    case measure => simp [intOf]; omega
                · have HM6 : Hid (MapC wr w2.heap.size n3 (trOf r ds) (alOf r (ds.take (j + 1)))) := modelL_end (by have := HS2.out.1; omega) HDD.out (by have h := HC.out; rw [show p = d.size by omega] at h; exact h)
                  go_wp2_with fail
                  go_roundw
                  case rel => exact ⟨j + 1, n3, by omega, by go_num, HM6.out, by omega, HBEL.out⟩
                  case measure => simp [intOf]; omega
            · have hT : ds.take j = ds := List.take_of_length_le (by have := HS2.out.1; omega)
              have HC2 : Hid (MapC wr w2.heap.size m (trOf r ds) (alOf r ds)) := by have h := HC.out; rw [hT] at h; exact h
              have HMB := hd_ (HM.out.below HBEL.out)
              obtain ⟨N1, hlen1, hD1⟩ := HMB.out.len
              obtain ⟨N2, hlen2, hD2⟩ := HC2.out.len
              obtain rfl := len_same hD1 hD2
              have hnn : ((N1 : Int) != (N1 : Int)) = false := by simp
              have HS4 := hd_ (HS2.out.below HBEL.out)
              have HB4 := hd_ (HB3.out.trans (HBEL.out.mono HB3.out.size))
              clear HC HBEL hD1 hD2 hT HM HS2 HB3
              go_wp2_with fail
              clear hlen1 hlen2
              go_loop [108] (fun i => ∃ k2 : Nat, k2 ≤ len ∧ i = .int .i64 k2) (fun i => len - (intOf i).toNat)
              case atStart => exact ⟨0, Nat.zero_le _, rfl⟩
              case round =>
                obtain ⟨k2, hk2, rfl⟩ := hrel
                by_cases hlt3 : k2 < len
                · obtain ⟨b1, o1, rfl, hb1, hc1⟩ := HS4.out.2 (by omega)
                  obtain ⟨d, hdd⟩ : ∃ d, d = ds.getD k2 ByteArray.empty := ⟨_, rfl⟩
                  have g1 : wr.cell? ⟨b1, o1 + k2, none⟩ = some (.string d) := by rw [hdd]; exact hc1 k2 hlt3
                  have hsz : d.size ≤ 4096 := by rw [hdd]; exact HD.out k2 hlt3
                  have HDD := hd_ hdd
                  have hkk : (k2 : Int) < (len : Int) := by omega
                  clear hc1 hdd HDD
                  go_wp2_with fail
                  refine (zzKey_any r d _ (by omega) (by omega)).mono ?_
                  rintro e wx ⟨q, rfl, hq, rfl⟩
                  have hqs : q.size ≤ 1048576 := by have := hq.2; omega
                  clear hq
                  go_wp2_with fail
                  refine (agree_any B w2.heap.size nB m (trOf r ds) (alOf r ds) q _ HMB.out HC2.out hqs).mono ?_
                  rintro e wy ⟨rfl, rfl⟩
                  clear hqs
                  go_wp2_with fail
                  go_loop [20] (fun i => ∃ p : Nat, p ≤ d.size ∧ i = .int .i64 p) (fun i => d.size - (intOf i).toNat)
                  case atStart => exact ⟨0, Nat.zero_le _, rfl⟩
                  case round =>
                    obtain ⟨p, hp, rfl⟩ := hrel
                    by_cases hpd : p < d.size
                    · have HBQ := hd_ (byt_eq hpd)
                      by_cases h47 : byt d p = 47
                      · have hq47 : ((d[p].toNat : Int) == 47) = true := by rw [HBQ.out]; simp [h47]
                        have hpd' : (p : Int) ≤ (d.size : Int) := by omega
                        clear h47
                        go_wp2_with fail
                        refine (zzKey_any r (d.extract 0 p) _ (by omega) (by rw [extract_size d p hpd]; omega)).mono ?_
                        rintro e wx ⟨q2, rfl, hq2, rfl⟩
                        have hqs2 : q2.size ≤ 1048576 := by have := hq2.2; rw [extract_size d p hpd] at this; omega
                        clear hq2
                        go_wp2_with fail
                        refine (agree_any B w2.heap.size nB m (trOf r ds) (alOf r ds) q2 _ HMB.out HC2.out hqs2).mono ?_
                        rintro e wy ⟨rfl, rfl⟩
                        clear hqs2
                        go_wp2_with fail
                        go_round
                        case rel => exact ⟨p + 1, by omega, by go_num⟩
                        case measure => simp [intOf]; omega
                      · have hq47 : ((d[p].toNat : Int) == 47) = false := by rw [HBQ.out]; simp [h47]
                        clear h47
                        go_wp2_with fail
                        go_round
                        case rel => exact ⟨p + 1, by omega, by go_num⟩
                        case measure => simp [intOf]; omega
                    · go_wp2_with fail
                      go_round
                      case rel => exact ⟨k2 + 1, by omega, by go_num⟩
                      case measure => simp [intOf]; omega
                · go_wp2_with fail
                  go_ret
                  exact ⟨rfl, HB4.out⟩
end Go.Proofs.Qxb6605176aMods.fnNewRootSinkExactly
