/- The walk of NewRootSink. -/
import Derived.Test.Qxb6605176aModsSink
namespace Go.Proofs.Qxb6605176aMods
open Go.RowKit

set_option maxHeartbeats 4000000 in
theorem newRootSink_any (r : ByteArray) (a : Option Addr) (len cap : Nat) (ds : List ByteArray) (w : World) (hds : Ss w a len ds) (hr : r.size ≤ 4096) (hl : len ≤ 131072) (hd : ∀ t, t < len → (ds.getD t ByteArray.empty).size ≤ 4096) :
    Calls Trym.prog 26 #[.string r, .slice a len cap] w fun e w' => ∃ B n, e = .returned (.agg #[.string r, .map (some B), .string r]) ∧ w.heap.size ≤ B ∧ MapC w' B n (trOf r ds) (alOf r ds) ∧ Below w.heap.size w w' := by
  have hmm := @run_makeMap Trym.prog
  obtain ⟨hlen, hds⟩ := hds
  have HLEN : Hid (ds.length = len) := hlen
  have HDS : Hid (0 < len → ∃ b off, a = some ⟨b, off, none⟩ ∧ b < w.heap.size ∧ ∀ i, i < len → w.cell? ⟨b, off + i, none⟩ = some (.string (ds.getD i ByteArray.empty))) := hds
  have HD : Hid (∀ t, t < len → (ds.getD t ByteArray.empty).size ≤ 4096) := hd
  have HST := hd_ (out_start w r ds)
  clear hlen hds hd
  go_enter Trym.func26, Trym.ntmps26
  go_wp2
  clear hmm
  go_loopw [17] (fun i wr => ∃ k : Nat, k ≤ len ∧ i = .int .i64 k ∧ Out w r ds k wr) (fun i _ => len - (intOf i).toNat)
  case atStart => exact ⟨0, Nat.zero_le _, rfl, HST.out⟩
  case round =>
    clear HST
    obtain ⟨k, hk, rfl, hout⟩ := hrel
    obtain ⟨n, hF, hM, hn⟩ := hout
    have HF : Hid (Fx w r wr) := hF
    have HM : Hid (MapC wr (w.heap.size + 1) n (trOf r (ds.take k)) (alOf r (ds.take k))) := hM
    clear hF hM
    by_cases hlt : k < len
    · obtain ⟨b1, o1, rfl, hb1, hc1⟩ := HDS.out (by omega)
      obtain ⟨d, hdd⟩ : ∃ d, d = ds.getD k ByteArray.empty := ⟨_, rfl⟩
      have g1 : wr.cell? ⟨b1, o1 + k, none⟩ = some (.string d) := by rw [hdd]; exact (HF.out.2.2.1.cell (p := ⟨b1, o1 + k, none⟩) hb1).trans (hc1 k hlt)
      have hds : d.size ≤ 4096 := by rw [hdd]; exact HD.out k hlt
      have HDD : Hid (d = ds.getD k ByteArray.empty) := hdd
      have hkk : (k : Int) < (len : Int) := by omega
      have hpre : Hid (d.data.toList = d.data.toList.take d.size) := take_all d
      have HMS : Hid (MapC wr (w.heap.size + 1) n (trOf r (ds.take k)) (fun x => alOf r (ds.take k) x ∨ ∃ y, ancP d d.size y ∧ x = kk r.data.toList y)) := map_start HM.out
      clear hc1 hdd
      go_wp2_with fail
      refine (parent_any d _ (by omega)).mono ?_
      rintro e wx ⟨rfl, hpar⟩
      have hI : ∃ par ok, e = .returned (.tuple #[par, ok]) ∧ Inn w r d ds k par ok wx := by
        rcases hpar with ⟨rfl, hno⟩ | ⟨p, rfl, hp, h47, hno⟩
        · exact ⟨_, _, rfl, inn_no HF.out HMS.out (by omega) (Nat.le_refl _) hpre.out hno⟩
        · exact ⟨_, _, rfl, inn_yes HF.out HMS.out (by omega) (Nat.le_refl _) hpre.out hp h47 hno⟩
      obtain ⟨par, ok, rfl, hI⟩ := hI
      have HI : Hid (Inn w r d ds k par ok wx) := hI
      clear hpar hI HMS HM HF
      go_wp2_with fail
      go_loopw [8, 9] (fun par ok wr2 => Inn w r d ds k par ok wr2) (fun par ok _ => strM par ok)
      case atStart => exact HI.out
      case round =>
        clear HI
        obtain ⟨n, c, ps, t, rfl, rfl, hF, hM, hn, hc, ht, hf⟩ := hrel
        have HF : Hid (Fx w r wr) := hF
        have HM : Hid (MapC wr (w.heap.size + 1) n (trOf r (ds.take k)) (fun x => alOf r (ds.take k) x ∨ ∃ y, ancP d c y ∧ x = kk r.data.toList y)) := hM
        clear hM
        have c0 := hF.c0
        have c1 := hF.c1
        clear hF
        cases t with
        | false =>
          have HNO : Hid (∀ j, j < c → byt d j ≠ 47) := hf rfl
          clear ht hf
          have hn9 : n < 1000000000 := by omega
          go_wp2_with fail
          go_region_held3 (fun w' => w'.cell? ⟨w.heap.size + 1 + 1, 0, none⟩ = some (.string r) ∧ w'.cell? ⟨w.heap.size + 1 + 1, 1, none⟩ = some (.map (some (w.heap.size + 1)))) (go_keep)
            ((go_at_call 32; refine (name_any r d _ _ (by omega) (by omega)).mono ?_; rintro e w5 ⟨q5, rfl, hq5, hb5⟩; have f5 : Fx w r w5 := HF.out.below (below_of_drew hb5); have m5 := HM.out.below (below_of_drew hb5); obtain ⟨w6, hrun6, m6, hg6⟩ := m5.put_true hn9 q5 (by have := hq5.2; unfold maxLen; omega); have f6 := f5.grown hg6; have c05 := f5.c0; have c15 := f5.c1; have c06 := f6.c0; have c16 := f6.c1; have HF6 : Hid (Fx w r w6) := f6; have HM6 := hd_ (m6); have HQ5 : Hid (KeyIs q5 r d) := hq5; clear f5 m5 hq5 f6 m6 hg6))
          have HR : Hid (Out w r ds (k + 1) w6) := ⟨n + 1, HF6.out, map_round (by have := HLEN.out; omega) HDD.out HNO.out HQ5.out HM6.out, by omega⟩
          go_wp2_with fail
          go_roundw
          case rel => exact ⟨k + 1, by omega, by go_num, HR.out⟩
          case measure => simp [intOf]; omega
        | true =>
          obtain ⟨p, hp, h47, hno, hps⟩ := ht rfl
          have hsz : ps.size = p := by rw [size_list, hps]; have := size_list d; simp; omega
          have HPS : Hid (ps.data.toList = d.data.toList.take p) := hps
          have HNO : Hid (byt d p = 47 ∧ ∀ j, p < j → j < c → byt d j ≠ 47) := ⟨h47, hno⟩
          have hpl : ps.size ≤ 4096 := by omega
          have HSZ : Hid (ps.size = p) := hsz
          clear ht hf h47 hno hps hsz
          go_wp2_with fail
          go_region_held3 (fun w' => w'.cell? ⟨w.heap.size + 1 + 1, 0, none⟩ = some (.string r) ∧ w'.cell? ⟨w.heap.size + 1 + 1, 1, none⟩ = some (.map (some (w.heap.size + 1)))) (go_keep)
            ((go_at_call 32; refine (name_any r ps _ _ (by omega) (by omega)).mono ?_; rintro e w4 ⟨q, rfl, hq, hb4⟩; have f4 : Fx w r w4 := HF.out.below (below_of_drew hb4); have m4 := HM.out.below (below_of_drew hb4); obtain ⟨bb, hh, hlook, hrun⟩ := m4.look q (by have := hq.2; unfold maxLen; omega); have c04 := f4.c0; have c14 := f4.c1; have HF4 : Hid (Fx w r w4) := f4; have HM4 := hd_ (m4); have HQ : Hid (KeyIs q r ps) := hq; have HL := hd_ (hlook); clear f4 m4 hq hlook))
          cases hh with
          | false =>
            have HNT : Hid (¬ trOf r (ds.take k) q.data.toList) := fun h => by have := HL.out.2.2 (Or.inl h); cases this
            have hn9 : n < 1000000000 := by omega
            clear hrun HL
            go_wp2_with fail
            go_region_held3 (fun w' => w'.cell? ⟨w.heap.size + 1 + 1, 0, none⟩ = some (.string r) ∧ w'.cell? ⟨w.heap.size + 1 + 1, 1, none⟩ = some (.map (some (w.heap.size + 1)))) (go_keep)
              ((go_at_call 32; refine (name_any r ps _ _ (by omega) (by omega)).mono ?_; rintro e w5 ⟨q5, rfl, hq5, hb5⟩; have f5 : Fx w r w5 := HF4.out.below (below_of_drew hb5); have m5 := HM4.out.below (below_of_drew hb5); obtain ⟨w6, hrun6, m6, hg6⟩ := m5.put_false hn9 q5 (by have := hq5.2; unfold maxLen; omega) (by rw [hq5.1, ← HQ.out.1]; exact HNT.out); have f6 := f5.grown hg6; have c05 := f5.c0; have c15 := f5.c1; have c06 := f6.c0; have c16 := f6.c1; have HF6 : Hid (Fx w r w6) := f6; have HM6 := hd_ (m6); have HQ5 : Hid (KeyIs q5 r ps) := hq5; clear f5 m5 hq5 f6 m6 hg6))
            go_wp2_with fail
            refine (parent_any ps _ (by omega)).mono ?_
            rintro e w7 ⟨rfl, hpar⟩
            obtain ⟨par, ok, rfl, hI, hmeas⟩ := inn_after HF6.out (map_step hp hc HNO.out.1 HNO.out.2 HPS.out HQ5.out HM6.out) (by omega) (by omega) HPS.out hpar
            have HI := hd_ (hI)
            have HMS := hd_ (hmeas)
            clear hI hmeas hpar
            go_wp2_with fail
            go_roundw
            case rel => exact HI.out
            case measure => exact HMS.out
          | true =>
            have HMT := HM4.out.skip q.data.toList (HL.out.2.1 rfl)
            have HMT' := hd_ (HMT)
            clear hrun HL HMT
            go_wp2_with fail
            refine (parent_any ps _ (by omega)).mono ?_
            rintro e w7 ⟨rfl, hpar⟩
            obtain ⟨par, ok, rfl, hI, hmeas⟩ := inn_after HF4.out (map_step hp hc HNO.out.1 HNO.out.2 HPS.out HQ.out HMT'.out) (by omega) (by omega) HPS.out hpar
            have HI := hd_ (hI)
            have HMS := hd_ (hmeas)
            clear hI hmeas hpar
            go_wp2_with fail
            go_roundw
            case rel => exact HI.out
            case measure => exact HMS.out
    · have hkl : k = len := by omega
      have c0 := HF.out.c0
      have c1 := HF.out.c1
      have d0 : wr.cell? ⟨w.heap.size, 0, none⟩ = some (.string ⟨#[]⟩) := by rw [cell_of_row wr _ 0 _ 42 (0, 0) HF.out.1]; rfl
      have d1 : wr.cell? ⟨w.heap.size, 1, none⟩ = some (.map none) := by rw [cell_of_row wr _ 1 _ 42 (0, 0) HF.out.1]; rfl
      have d2 : wr.cell? ⟨w.heap.size, 2, none⟩ = some (.string ⟨#[]⟩) := by rw [cell_of_row wr _ 2 _ 42 (0, 0) HF.out.1]; rfl
      have e0 : wr.frozen? ⟨w.heap.size, 0, none⟩ = false := frozen_of_row wr _ 0 _ 42 HF.out.1
      have e1 : wr.frozen? ⟨w.heap.size, 1, none⟩ = false := frozen_of_row wr _ 1 _ 42 HF.out.1
      have e2 : wr.frozen? ⟨w.heap.size, 2, none⟩ = false := frozen_of_row wr _ 2 _ 42 HF.out.1
      have HT : Hid (ds.take k = ds) := by show _ = _; exact List.take_of_length_le (by have := HLEN.out; omega)
      have HKL : Hid (k = len) := hkl
      clear hkl
      go_wp2_with fail
      have hB : Below w.heap.size w (((wr.setCell { block := w.heap.size, off := 0 } (Value.string r)).setCell { block := w.heap.size, off := 1 } (Value.map (some (w.heap.size + 1)))).setCell { block := w.heap.size, off := 2 } (Value.string r)) :=
        ((HF.out.2.2.1.setCell (by simp) _).setCell (by simp) _).setCell (by simp) _
      have hM2 : MapC (((wr.setCell { block := w.heap.size, off := 0 } (Value.string r)).setCell { block := w.heap.size, off := 1 } (Value.map (some (w.heap.size + 1)))).setCell { block := w.heap.size, off := 2 } (Value.string r)) (w.heap.size + 1) n (trOf r ds) (alOf r ds) := by
        have := HM.out
        rw [HT.out] at this
        exact this.kept (by rw [Below.heap_setCell _ _ _ _ (by simp), Below.heap_setCell _ _ _ _ (by simp), Below.heap_setCell _ _ _ _ (by simp)])
      exact bodyPost_ret (v := .agg #[.string r, .map (some (w.heap.size + 1)), .string r]) (by simp [results, Trym.results26, go_sem, d0, d1, d2]) rfl ⟨_, n, rfl, by omega, hM2, hB⟩
end Go.Proofs.Qxb6605176aMods
