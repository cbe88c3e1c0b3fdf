/- The contracts of ZZNewRootSinkParts and of the size guards. -/
import Derived.Test.Qxb6605176aModsSinkWalk
namespace Go.Proofs.Qxb6605176aMods
open Go.RowKit

set_option maxHeartbeats 1000000 in
theorem parts_any (r : ByteArray) (a : Option Addr) (len cap : Nat) (ds : List ByteArray) (w : World) (hds : Ss w a len ds) (hr : r.size ≤ 4096) (hl : len ≤ 131072) (hd : ∀ t, t < len → (ds.getD t ByteArray.empty).size ≤ 4096) :
    Calls Trym.prog 20 #[.string r, .slice a len cap] w fun e w' => ∃ B n, e = .returned (.tuple #[.string r, .map (some B), .string r]) ∧ w.heap.size ≤ B ∧ MapC w' B n (trOf r ds) (alOf r ds) ∧ Below w.heap.size w w' := by
  go_enter Trym.func20, Trym.ntmps20
  go_wp2_with fail
  refine (newRootSink_any r a len cap ds _ hds hr hl hd).mono ?_
  rintro e w1 ⟨B, n, rfl, hB, hM, hb⟩
  have HM := hd_ hM
  clear hM hd hds
  go_wp2_with fail
  go_quiet (fail)
  go_wp2_with fail
  go_ret3
  have hb2 : Below w1.heap.size w1 ((w1.alloc (.cells #[.string r, .map (some B), .string r] 42)).drewN nq) := below_drewN ((Below.refl _ _).alloc (Nat.le_refl _) _) _
  exact ⟨B, n, rfl, hB, HM.out.below hb2, hb.trans (hb2.mono hb.size)⟩

/-- The call answers one of the two. -/
def AnyB (e : Ending) : Prop := ∃ b, e = .returned (.bool b)

set_option maxHeartbeats 1000000 in
theorem zz18_any (r : ByteArray) (a : Option Addr) (len cap : Nat) (ds : List ByteArray) (w : World) (hds : Ss w a len ds) (hr : r.size ≤ 9223372036854775807) (hl : len ≤ 9223372036854775807) :
    Calls Trym.prog 18 #[.string r, .slice a len cap] w fun e w' => AnyB e ∧ w' = w := by
  obtain ⟨hlen, hds⟩ := hds
  clear hlen
  rcases (show 1048576 < r.size ∨ (r.size ≤ 1048576 ∧ 1048576 < len) ∨ (r.size ≤ 1048576 ∧ len ≤ 1048576 ∧ 1048576 < r.size + len) ∨ (r.size ≤ 1048576 ∧ len ≤ 1048576 ∧ r.size + len ≤ 1048576) by omega) with h | ⟨h, h'⟩ | ⟨h, h', h2⟩ | ⟨h, h', h2⟩
  · clear hds
    go_enter Trym.func18, Trym.ntmps18
    go_wp2
    go_ret
    exact ⟨⟨_, rfl⟩, rfl⟩
  · clear hds
    go_enter Trym.func18, Trym.ntmps18
    go_wp2
    go_ret
    exact ⟨⟨_, rfl⟩, rfl⟩
  · clear hds
    go_enter Trym.func18, Trym.ntmps18
    go_wp2
    go_ret
    exact ⟨⟨_, rfl⟩, rfl⟩
  · have HDS := hd_ hds
    clear hds
    go_enter Trym.func18, Trym.ntmps18
    go_wp2
    go_loop [5, 6] (fun z i => ∃ (k : Nat) (x : Int), k ≤ len ∧ i = .int .i64 k ∧ z = .int .i64 x) (fun _ i => len - (intOf i).toNat)
    case atStart => exact ⟨0, _, Nat.zero_le _, rfl, rfl⟩
    case round =>
      obtain ⟨k, x, hk, rfl, rfl⟩ := hrel
      by_cases hlt : k < len
      · obtain ⟨b1, o1, rfl, hb1, hc1⟩ := HDS.out (by omega)
        obtain ⟨d, hdd⟩ : ∃ d, d = ds.getD k ByteArray.empty := ⟨_, rfl⟩
        have g1 : w.cell? ⟨b1, o1 + k, none⟩ = some (.string d) := by rw [hdd]; exact hc1 k hlt
        have hkk : (k : Int) < (len : Int) := by omega
        clear hc1 hdd HDS
        by_cases hz : d.size ≤ 1048576
        · go_wp2
          · go_ret
            exact ⟨⟨_, rfl⟩, rfl⟩
          · go_round
            case rel => exact ⟨k + 1, _, by omega, by go_num, rfl⟩
            case measure => simp [intOf]; omega
        · go_wp2
          go_ret
          exact ⟨⟨_, rfl⟩, rfl⟩
      · clear HDS
        go_wp2
        go_ret
        exact ⟨⟨_, rfl⟩, rfl⟩

set_option maxHeartbeats 1000000 in
theorem zz23_any (r : ByteArray) (a : Option Addr) (len cap : Nat) (ds : List ByteArray) (w : World) (hds : Ss w a len ds) (hr : r.size ≤ 9223372036854775807) (hl : len ≤ 9223372036854775807) :
    Calls Trym.prog 23 #[.string r, .slice a len cap] w fun e w' => AnyB e ∧ w' = w := by
  obtain ⟨hlen, hds⟩ := hds
  clear hlen
  rcases (show 1048576 < r.size ∨ (r.size ≤ 1048576 ∧ 1048576 < len) ∨ (r.size ≤ 1048576 ∧ len ≤ 1048576 ∧ 1048576 < r.size + len) ∨ (r.size ≤ 1048576 ∧ len ≤ 1048576 ∧ r.size + len ≤ 1048576) by omega) with h | ⟨h, h'⟩ | ⟨h, h', h2⟩ | ⟨h, h', h2⟩
  · clear hds
    go_enter Trym.func23, Trym.ntmps23
    go_wp2
    go_ret
    exact ⟨⟨_, rfl⟩, rfl⟩
  · clear hds
    go_enter Trym.func23, Trym.ntmps23
    go_wp2
    go_ret
    exact ⟨⟨_, rfl⟩, rfl⟩
  · clear hds
    go_enter Trym.func23, Trym.ntmps23
    go_wp2
    go_ret
    exact ⟨⟨_, rfl⟩, rfl⟩
  · have HDS := hd_ hds
    clear hds
    go_enter Trym.func23, Trym.ntmps23
    go_wp2
    go_loop [5, 6] (fun z i => ∃ (k : Nat) (x : Int), k ≤ len ∧ i = .int .i64 k ∧ z = .int .i64 x) (fun _ i => len - (intOf i).toNat)
    case atStart => exact ⟨0, _, Nat.zero_le _, rfl, rfl⟩
    case round =>
      obtain ⟨k, x, hk, rfl, rfl⟩ := hrel
      by_cases hlt : k < len
      · obtain ⟨b1, o1, rfl, hb1, hc1⟩ := HDS.out (by omega)
        obtain ⟨d, hdd⟩ : ∃ d, d = ds.getD k ByteArray.empty := ⟨_, rfl⟩
        have g1 : w.cell? ⟨b1, o1 + k, none⟩ = some (.string d) := by rw [hdd]; exact hc1 k hlt
        have hkk : (k : Int) < (len : Int) := by omega
        clear hc1 hdd HDS
        by_cases hz : d.size ≤ 1048576
        · go_wp2
          · go_ret
            exact ⟨⟨_, rfl⟩, rfl⟩
          · go_round
            case rel => exact ⟨k + 1, _, by omega, by go_num, rfl⟩
            case measure => simp [intOf]; omega
        · go_wp2
          go_ret
          exact ⟨⟨_, rfl⟩, rfl⟩
      · clear HDS
        go_wp2
        go_ret
        exact ⟨⟨_, rfl⟩, rfl⟩

/-- What zzSinkFits holds when it answers true. -/
def Fits (r : ByteArray) (len : Nat) (ds : List ByteArray) : Prop := r.size ≤ 4096 ∧ len ≤ 65536 ∧ ∀ t, t < len → (ds.getD t ByteArray.empty).size ≤ 4096

def FitsB (r : ByteArray) (len : Nat) (ds : List ByteArray) (e : Ending) : Prop := ∃ b, e = .returned (.bool b) ∧ (b = true → Fits r len ds)

set_option maxHeartbeats 2000000 in
theorem fits_any (r : ByteArray) (a : Option Addr) (len cap : Nat) (ds : List ByteArray) (w : World) (hds : Ss w a len ds) (hr : r.size ≤ 9223372036854775807) (hl : len ≤ 9223372036854775807) :
    Calls Trym.prog 19 #[.string r, .slice a len cap] w fun e w' => FitsB r len ds e ∧ w' = w := by
  obtain ⟨hlen, hds⟩ := hds
  clear hlen
  rcases (show 4096 < r.size ∨ (r.size ≤ 4096 ∧ 65536 < len) ∨ (r.size ≤ 4096 ∧ len ≤ 65536) by omega) with h | ⟨h, h'⟩ | ⟨h, h'⟩
  · clear hds
    go_enter Trym.func19, Trym.ntmps19
    go_wp2
    go_ret
    exact ⟨⟨_, rfl, fun h => by cases h⟩, rfl⟩
  · clear hds
    go_enter Trym.func19, Trym.ntmps19
    go_wp2
    go_ret
    exact ⟨⟨_, rfl, fun h => by cases h⟩, rfl⟩
  · have HDS := hd_ hds
    clear hds
    by_cases ht : r.size + 16 * len ≤ 1048576
    · go_enter Trym.func19, Trym.ntmps19
      go_wp2
      go_loop [5, 6, 29] (fun tot u i => ∃ (k : Nat) (x y : Int), k ≤ len ∧ i = .int .i64 k ∧ tot = .int .i64 x ∧ u = .int .i64 y ∧ ∀ t, t < k → (ds.getD t ByteArray.empty).size ≤ 4096) (fun _ _ i => len - (intOf i).toNat)
      case atStart => exact ⟨0, _, _, Nat.zero_le _, rfl, rfl, rfl, fun t ht => by omega⟩
      case round =>
        obtain ⟨k, x, y, hk, rfl, rfl, rfl, hso⟩ := hrel
        have HSO := hd_ hso
        clear hso
        by_cases hlt : k < len
        · obtain ⟨b1, o1, rfl, hb1, hc1⟩ := HDS.out (by omega)
          obtain ⟨d, hdd⟩ : ∃ d, d = ds.getD k ByteArray.empty := ⟨_, rfl⟩
          have g1 : w.cell? ⟨b1, o1 + k, none⟩ = some (.string d) := by rw [hdd]; exact hc1 k hlt
          have hkk : (k : Int) < (len : Int) := by omega
          have HDD := hd_ hdd
          clear hc1 hdd HDS
          by_cases hz : d.size ≤ 4096
          · have HN : Hid (∀ t, t < k + 1 → (ds.getD t ByteArray.empty).size ≤ 4096) := fun t ht => by
              by_cases e : t = k
              · subst e; rw [← HDD.out]; exact hz
              · exact HSO.out t (by omega)
            clear HSO HDD
            go_wp2
            · go_ret
              exact ⟨⟨_, rfl, fun h => by cases h⟩, rfl⟩
            · go_loop [9, 10] (fun sl j => ∃ (m : Nat) (z : Int), m ≤ d.size ∧ j = .int .i64 m ∧ sl = .int .i64 z) (fun _ j => d.size - (intOf j).toNat)
              case atStart => exact ⟨0, _, Nat.zero_le _, rfl, rfl⟩
              case round =>
                obtain ⟨m, z, hm, rfl, rfl⟩ := hrel
                by_cases hmd : m < d.size
                · go_wp2
                  all_goals
                    go_round
                    case rel => exact ⟨m + 1, _, by omega, by go_num, rfl⟩
                    case measure => simp [intOf]; omega
                · go_wp2
                  · go_ret
                    exact ⟨⟨_, rfl, fun h => by cases h⟩, rfl⟩
                  · go_round
                    case rel => exact ⟨k + 1, _, _, by omega, by go_num, rfl, rfl, HN.out⟩
                    case measure => simp [intOf]; omega
          · go_wp2
            go_ret
            exact ⟨⟨_, rfl, fun h => by cases h⟩, rfl⟩
        · clear HDS
          go_wp2
          go_ret
          exact ⟨⟨_, rfl, fun _ => ⟨h, h', fun t ht => HSO.out t (by omega)⟩⟩, rfl⟩
    · clear HDS
      go_enter Trym.func19, Trym.ntmps19
      go_wp2
      go_ret
      exact ⟨⟨_, rfl, fun h => by cases h⟩, rfl⟩
end Go.Proofs.Qxb6605176aMods
