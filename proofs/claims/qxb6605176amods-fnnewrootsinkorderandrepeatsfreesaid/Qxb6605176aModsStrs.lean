/- The contracts of the functions over strings: LastIndexByte, Parent, Name, zzKey; and zzAgreeAt. -/
import Derived.Test.Qxb6605176aModsMapc
namespace Go.Proofs.Qxb6605176aMods
open Go.RowKit

/-- The byte at a place (0 behind the end). -/
def byt (s : ByteArray) (j : Nat) : UInt8 := s.data.toList.getD j 0

theorem byt_get (s : ByteArray) (k : Nat) (h : k < s.size) : s[k] = byt s k := by
  have h' : k < s.data.size := h
  unfold byt
  rw [List.getD_eq_getElem?_getD, List.getElem?_eq_getElem (by simpa using h')]
  simp
  rfl

theorem byt_eq {s : ByteArray} {k : Nat} (h : k < s.size) : (((s[k].toNat : Int)) == 47) = decide (byt s k = 47) := by
  rw [byt_get s k h, Bool.eq_iff_iff]
  simp only [beq_iff_eq, decide_eq_true_eq]
  constructor
  · intro e
    have : (byt s k).toNat = 47 := by omega
    exact UInt8.toNat_inj.1 this
  · intro e; rw [e]; rfl

set_option maxHeartbeats 400000 in
theorem lastIndex_any (s : ByteArray) (w : World) (hs : s.size ≤ 1048576) :
    Calls Trym.prog 38 #[.string s, .int .u8 47] w fun e w' => ∃ i : Int, e = .returned (.int .i64 i) ∧ w' = w ∧ ((i = -1 ∧ ∀ j, j < s.size → byt s j ≠ 47) ∨ ∃ p : Nat, i = p ∧ p < s.size ∧ byt s p = 47 ∧ ∀ j, p < j → j < s.size → byt s j ≠ 47) := by
  go_enter Trym.func38, Trym.ntmps38
  go_wp2
  go_loop [5] (fun i => ∃ (m : Nat) (x : Int), m ≤ s.size ∧ x = (m : Int) - 1 ∧ i = .int .i64 x ∧ ∀ j, m ≤ j → j < s.size → byt s j ≠ 47) (fun i => (intOf i + 1).toNat)
  case atStart => exact ⟨s.size, _, Nat.le_refl _, rfl, rfl, fun j h1 h2 => by omega⟩
  case round =>
    obtain ⟨m, x, hm, hx, rfl, hno⟩ := hrel
    have HN : Hid (∀ j, m ≤ j → j < s.size → byt s j ≠ 47) := hno
    clear hno
    cases m with
    | zero =>
      obtain rfl : x = -1 := by omega
      clear hx
      go_wp2
      go_ret
      exact ⟨_, rfl, rfl, Or.inl ⟨rfl, fun j hj => HN.out j (Nat.zero_le _) hj⟩⟩
    | succ k =>
      obtain rfl : x = (k : Int) := by omega
      have hk : k < s.size := by omega
      have hb := byt_eq hk
      have HB : Hid (((s[k].toNat : Int) == 47) = decide (byt s k = 47)) := hb
      clear hx hb
      by_cases h47 : byt s k = 47
      · have hq : ((s[k].toNat : Int) == 47) = true := by rw [HB.out]; simp [h47]
        have H47 : Hid (byt s k = 47) := h47
        clear h47
        go_wp2
        go_ret
        exact ⟨_, rfl, rfl, Or.inr ⟨k, rfl, hk, H47.out, fun j h1 h2 => HN.out j (by omega) h2⟩⟩
      · have hq : ((s[k].toNat : Int) == 47) = false := by rw [HB.out]; simp [h47]
        have H47 : Hid (byt s k ≠ 47) := h47
        clear h47
        go_wp2
        go_round
        case rel => exact ⟨k, _, by omega, rfl, rfl, fun j h1 h2 => by
          by_cases e : j = k
          · subst e; exact H47.out
          · exact HN.out j (by omega) h2⟩
        case measure => simp [intOf]

theorem lastIndexByte_any (s : ByteArray) (w : World) (hs : s.size ≤ 1048576) :
    Calls Trym.prog 35 #[.string s, .int .u8 47] w fun e w' => ∃ i : Int, e = .returned (.int .i64 i) ∧ w' = w ∧ ((i = -1 ∧ ∀ j, j < s.size → byt s j ≠ 47) ∨ ∃ p : Nat, i = p ∧ p < s.size ∧ byt s p = 47 ∧ ∀ j, p < j → j < s.size → byt s j ≠ 47) := by
  go_enter Trym.func35, Trym.ntmps35
  go_wp2_with fail
  refine (lastIndex_any s _ hs).mono ?_
  rintro e wx ⟨i, rfl, rfl, hi⟩
  have HI : Hid _ := hi
  clear hi
  go_wp2
  go_ret
  exact ⟨i, rfl, rfl, HI.out⟩

/-- What Parent answers of s: nothing, where there is no '/'; else what stands ahead of the last one. -/
theorem parent_any (s : ByteArray) (w : World) (hs : s.size ≤ 1048576) :
    Calls Trym.prog 31 #[.string s] w fun e w' => w' = w ∧ ((e = .returned (.tuple #[.string ByteArray.empty, .bool false]) ∧ ∀ j, j < s.size → byt s j ≠ 47) ∨ ∃ p : Nat, e = .returned (.tuple #[.string (s.extract 0 p), .bool true]) ∧ p < s.size ∧ byt s p = 47 ∧ ∀ j, p < j → j < s.size → byt s j ≠ 47) := by
  go_enter Trym.func31, Trym.ntmps31
  go_wp2_with fail
  refine (lastIndexByte_any s _ hs).mono ?_
  rintro e wx ⟨i, rfl, rfl, ⟨hi, hno⟩ | ⟨p, hi, hp, h47, hno⟩⟩
  · subst hi
    have HN : Hid (∀ j, j < s.size → byt s j ≠ 47) := hno
    clear hno
    go_wp2
    go_ret2
    exact ⟨rfl, Or.inl ⟨rfl, HN.out⟩⟩
  · subst hi
    have HN : Hid (byt s p = 47 ∧ ∀ j, p < j → j < s.size → byt s j ≠ 47) := ⟨h47, hno⟩
    have hp' : (p : Int) ≤ (s.size : Int) := by omega
    clear hno h47
    go_wp2
    go_ret2
    exact ⟨rfl, Or.inr ⟨p, rfl, hp, HN.out⟩⟩

/-- q is the key: root, a slash, x. -/
def KeyIs (q r x : ByteArray) : Prop := q.data.toList = r.data.toList ++ 47 :: x.data.toList ∧ q.size = r.size + 1 + x.size

theorem keyIs_mk (r x : ByteArray) : KeyIs (r ++ ⟨#[47]⟩ ++ x) r x := by
  refine ⟨?_, ?_⟩
  · simp [ByteArray.data_append]
  · simp [ByteArray.size_append]; rfl

theorem zzKey_any (r x : ByteArray) (w : World) (hr : r.size ≤ 1048576) (hx : x.size ≤ 1048576) :
    Calls Trym.prog 21 #[.string r, .string x] w fun e w' => ∃ q, e = .returned (.string q) ∧ KeyIs q r x ∧ w' = w := by
  have h1 : (ByteArray.mk #[47]).size = 1 := rfl
  have h2 : (r ++ ⟨#[47]⟩).size = r.size + 1 := by simp [ByteArray.size_append]; rfl
  go_enter Trym.func21, Trym.ntmps21
  go_wp2
  go_ret
  exact ⟨_, rfl, keyIs_mk r x, rfl⟩

theorem name_any (r x : ByteArray) (B : Option Nat) (w : World) (hr : r.size ≤ 1048576) (hx : x.size ≤ 1048576) :
    Calls Trym.prog 32 #[.agg #[.string r, .map B], .string x] w fun e w' => ∃ q, e = .returned (.string q) ∧ KeyIs q r x ∧ Below w.heap.size w w' := by
  have h1 : (ByteArray.mk #[47]).size = 1 := rfl
  have h2 : (r ++ ⟨#[47]⟩).size = r.size + 1 := by simp [ByteArray.size_append]; rfl
  go_enter Trym.func32, Trym.ntmps32
  go_wp2
  go_ret
  exact ⟨_, rfl, keyIs_mk r x, (Below.refl _ _).alloc (Nat.le_refl _) _⟩

theorem agree_any (B C n m : Nat) (tr al : List UInt8 → Prop) (s : ByteArray) (w : World) (h : MapC w B n tr al) (g : MapC w C m tr al) (hs : s.size ≤ 1048576) :
    Calls Trym.prog 22 #[.map (some B), .map (some C), .string s] w fun e w' => e = .returned (.bool true) ∧ w' = w := by
  obtain ⟨b, k, hl, hrun⟩ := h.look s (by unfold maxLen; omega)
  obtain ⟨b', k', hl', hrun'⟩ := g.look s (by unfold maxLen; omega)
  obtain ⟨rfl, rfl⟩ := hl.same hl'
  have e1 : (b == b) = true := by simp
  have e2 : (k == k) = true := by simp
  clear hl hl' h g
  go_enter Trym.func22, Trym.ntmps22
  go_wp2
  go_ret
  exact ⟨rfl, rfl⟩
end Go.Proofs.Qxb6605176aMods
