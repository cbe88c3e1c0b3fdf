/- The contracts of ZZOnce, highestBefore, minLen, cloneI. -/
import Derived.Test.Qxb6000907aModsBase
import Derived.Maps.OwnOps
import Derived.Maps.OwnSet
import Derived.Maps.Views
import Derived.Deep.RegionHeld3
namespace Go.Proofs.Qxb6000907aMods
open Go.RowKit

/-- The greatest mark among the first k calls addressed to 'to', 0 if none. -/
def hb (T M : List Int) : Nat → Int → Int
  | 0, _ => 0
  | k + 1, to => if T.getD k 0 = to ∧ hb T M k to < M.getD k 0 then M.getD k 0 else hb T M k to

theorem hb_hit {T M : List Int} {k : Nat} {to : Int} (h1 : T.getD k 0 = to) (h2 : hb T M k to < M.getD k 0) : hb T M (k + 1) to = M.getD k 0 := by rw [hb, if_pos ⟨h1, h2⟩]
theorem hb_miss {T M : List Int} {k : Nat} {to : Int} (h : ¬ (T.getD k 0 = to ∧ hb T M k to < M.getD k 0)) : hb T M (k + 1) to = hb T M k to := by rw [hb, if_neg h]

set_option maxHeartbeats 400000 in
theorem highest_any (a b : Option Addr) (la lb ca cb e : Nat) (T M : List Int) (to : Int) (w : World) (ha : Sl .i64 w a la T) (hb' : Sl .u64 w b lb M) (h1 : e ≤ la) (h2 : e ≤ lb) (hbd : e ≤ 1048576) :
    Calls Trym.prog 19 #[.slice a la ca, .slice b lb cb, .int .i64 e, .int .i64 to] w fun r w' => r = .returned (.int .u64 (hb T M e to)) ∧ w' = w := by
  obtain ⟨hA, ha⟩ := ha
  obtain ⟨hB, hb'⟩ := hb'
  clear hA hB
  go_enter Trym.func19, Trym.ntmps19
  go_wp2
  go_loop [9, 10] (fun m i => ∃ k : Nat, k ≤ e ∧ i = .int .i64 k ∧ m = .int .u64 (hb T M k to)) (fun _ i => e - (intOf i).toNat)
  case atStart => exact ⟨0, Nat.zero_le _, rfl, rfl⟩
  case round =>
    obtain ⟨k, hk, rfl, rfl⟩ := hrel
    by_cases hlt : k < e
    · obtain ⟨b1, o1, rfl, hb1, hc1⟩ := ha (by omega)
      obtain ⟨b2, o2, rfl, hb2, hc2⟩ := hb' (by omega)
      obtain ⟨x, hx⟩ : ∃ x, x = T.getD k 0 := ⟨_, rfl⟩
      obtain ⟨y, hy⟩ : ∃ y, y = M.getD k 0 := ⟨_, rfl⟩
      have g1 : w.cell? ⟨b1, o1 + k, none⟩ = some (.int .i64 x) := by rw [hx]; exact hc1 k (by omega)
      have g2 : w.cell? ⟨b2, o2 + k, none⟩ = some (.int .u64 y) := by rw [hy]; exact hc2 k (by omega)
      obtain ⟨m, hm⟩ : ∃ m, m = hb T M k to := ⟨_, rfl⟩
      rw [← hm]
      have HM : Hid (m = hb T M k to) := hm
      have HX : Hid (x = T.getD k 0) := hx
      have HY : Hid (y = M.getD k 0) := hy
      have hkk : (k : Int) < (la : Int) := by omega
      have hkb : (k : Int) < (lb : Int) := by omega
      have hke : (k : Int) < (e : Int) := by omega
      clear hx hy hm hc1 hc2 ha hb'
      by_cases hxt : x = to
      · have hq : (x == to) = true := by simp [hxt]
        have HXT : Hid (x = to) := hxt
        clear hxt
        by_cases hmy : m < y
        · have HN : Hid (hb T M (k + 1) to = y) := by show _ = _; rw [HY.out]; exact hb_hit (by rw [← HX.out]; exact HXT.out) (by rw [← HM.out, ← HY.out]; exact hmy)
          go_wp2
          go_round
          case rel => exact ⟨k + 1, by omega, by go_num, by rw [HN.out]⟩
          case measure => simp [intOf]; omega
        · have HN : Hid (hb T M (k + 1) to = m) := by show _ = _; rw [hb_miss (fun h => hmy (by rw [HM.out, HY.out]; exact h.2)), HM.out]
          go_wp2
          go_round
          case rel => exact ⟨k + 1, by omega, by go_num, by rw [HN.out]⟩
          case measure => simp [intOf]; omega
      · have hq : (x == to) = false := by simp [hxt]
        have HN : Hid (hb T M (k + 1) to = m) := by show _ = _; rw [hb_miss (fun h => hxt (by rw [HX.out]; exact h.1)), HM.out]
        clear hxt
        go_wp2
        go_round
        case rel => exact ⟨k + 1, by omega, by go_num, by rw [HN.out]⟩
        case measure => simp [intOf]; omega
    · have hke : k = e := by omega
      subst hke
      clear ha hb'
      go_wp2
      go_ret
      exact ⟨rfl, rfl⟩

theorem law : Maps.Keyed Trym.prog 3 := Maps.int_keyed Trym.underlying3
theorem zero26 (w : World) : (zeroValue 26).run Trym.prog w = .ok (.int .u64 0) w := by kernel_rfl

/-- The value v is a map (nil, or in a block from 'base' on, of at most n entries) that answers 'f x' at every key x. -/
def MapF (w : World) (v : Value) (base n : Nat) (f : Int → Int) : Prop :=
  (v = .map none ∧ ∀ x, f x = 0) ∨
  ∃ (B : Nat) (D : DataW Unit), v = .map (some B) ∧ base ≤ B ∧ w.ownsMap Trym.prog 3 (plainElem Trym.prog 26) B n D ∧ ∀ x, (Lit.int .i64 x).wf = true → D.atKey (.int .i64 x) (.lit (.int .u64 0)) = .lit (.int .u64 (f x))

def upd (f : Int → Int) (to mark : Int) : Int → Int := fun x => if x = to then mark else f x

theorem upd_at {D : DataW Unit} (hD : Maps.IsMap D) {f : Int → Int} {to mark : Int} (ht : (Lit.int .i64 to).wf = true) (hf : ∀ x, (Lit.int .i64 x).wf = true → D.atKey (.int .i64 x) (.lit (.int .u64 0)) = .lit (.int .u64 (f x))) :
    ∀ x, (Lit.int .i64 x).wf = true → (D.put (.int .i64 to) (.lit (.int .u64 mark))).atKey (.int .i64 x) (.lit (.int .u64 0)) = .lit (.int .u64 (upd f to mark x)) := by
  intro x hx
  unfold upd
  by_cases e : x = to
  · subst e; rw [if_pos rfl, Maps.atKey_put_same (k := Lit.int .i64 x) hD (by trivial)]
  · rw [if_neg e, Maps.atKey_put_other (by simpa using e)]; exact hf x hx

theorem key_is {D : DataW Unit} {kl : Lit} {a b : Int} (h1 : D.atKey kl (.lit (.int .u64 0)) = .lit (.int .u64 a)) (h2 : D.atKey kl (.lit (.int .u64 0)) = .lit (.int .u64 b)) : a = b := by
  rw [h1] at h2; simpa using h2

set_option maxHeartbeats 800000 in
theorem once_some_yes (B base n : Nat) (D : DataW Unit) (f : Int → Int) (to mark g : Int) (w : World) (hB : base ≤ B) (hs : base ≤ w.heap.size) (hown : w.ownsMap Trym.prog 3 (plainElem Trym.prog 26) B n D)
    (hf : ∀ x, (Lit.int .i64 x).wf = true → D.atKey (.int .i64 x) (.lit (.int .u64 0)) = .lit (.int .u64 (f x))) (ht : (Lit.int .i64 to).wf = true) (hm : (Lit.int .u64 mark).wf = true) (hn : n ≤ 1048576) (hg : g = f to) (hlt : g < mark) :
    Calls Trym.prog 20 #[.map (some B), .int .i64 to, .int .u64 mark] w fun e w' => ∃ v', e = .returned (.tuple #[v', .bool true]) ∧ MapF w' v' base (n + 1) (upd f to mark) ∧ Below base w w' := by
  have hkey := Maps.keyOf_int_mk (P := Trym.prog) (k := 3) Trym.underlying3 ht
  have HF : Hid (∀ x, (Lit.int .i64 x).wf = true → D.atKey (.int .i64 x) (.lit (.int .u64 0)) = .lit (.int .u64 (f x))) := hf
  have hBl := hown.lt
  have hnil := fun wx => run_eql_map_nil (P := Trym.prog) wx 46 3 26 (some B) Trym.underlying46
  have HD : Hid (Maps.IsMap D) := hown.isMap
  have HG : Hid (g = f to) := hg
  clear hg hf
  go_enter Trym.func20, Trym.ntmps20
  go_wp2_with (first | (at_lookup; refine wpList_lookup_own_int _ rfl _ _ 46 rfl 3 26 .u64 law Trym.underlying46 Trym.underlying26 (zero26 _) B n D rfl (hown.alloc _) _ _ rfl hkey ?_; intro c hat hwc; obtain rfl : c = g := (key_is hat (HF.out to ht)).trans HG.out.symm) | (at_mapUpdate; refine wpList_mapUpdate_own _ rfl _ _ _ 46 rfl 3 26 law Trym.underlying46 _ B n D rfl (hown.alloc _) (by unfold maxLen; omega) _ _ _ rfl rfl hkey _ [] (plainElem_int Trym.underlying26 hm) ?_; intro w1 hown1 hgrow1; have hx := hgrow1.cell (a := ⟨w.heap.size, 0, none⟩) (v := .map (some B)) (by simp) (by simp; omega)) | go_in)
  go_ret2
  exact ⟨_, rfl, Or.inr ⟨B, _, rfl, hB, hown1, upd_at HD.out ht HF.out⟩, ((Below.refl _ _).alloc hs _).grown hgrow1 (by simp; omega) (fun k hk => by cases hk; exact hB)⟩

set_option maxHeartbeats 800000 in
theorem once_some_no (B base n : Nat) (D : DataW Unit) (f : Int → Int) (to mark g : Int) (w : World) (hB : base ≤ B) (hs : base ≤ w.heap.size) (hown : w.ownsMap Trym.prog 3 (plainElem Trym.prog 26) B n D)
    (hf : ∀ x, (Lit.int .i64 x).wf = true → D.atKey (.int .i64 x) (.lit (.int .u64 0)) = .lit (.int .u64 (f x))) (ht : (Lit.int .i64 to).wf = true) (hg : g = f to) (hlt : ¬ g < mark) :
    Calls Trym.prog 20 #[.map (some B), .int .i64 to, .int .u64 mark] w fun e w' => ∃ v', e = .returned (.tuple #[v', .bool false]) ∧ MapF w' v' base (n + 1) f ∧ Below base w w' := by
  have hkey := Maps.keyOf_int_mk (P := Trym.prog) (k := 3) Trym.underlying3 ht
  have HF : Hid (∀ x, (Lit.int .i64 x).wf = true → D.atKey (.int .i64 x) (.lit (.int .u64 0)) = .lit (.int .u64 (f x))) := hf
  have hBl := hown.lt
  have HG : Hid (g = f to) := hg
  clear hg hf
  go_enter Trym.func20, Trym.ntmps20
  go_wp2_with (first | (at_lookup; refine wpList_lookup_own_int _ rfl _ _ 46 rfl 3 26 .u64 law Trym.underlying46 Trym.underlying26 (zero26 _) B n D rfl (hown.alloc _) _ _ rfl hkey ?_; intro c hat hwc; obtain rfl : c = g := (key_is hat (HF.out to ht)).trans HG.out.symm) | go_in)
  go_ret2
  exact ⟨_, rfl, Or.inr ⟨B, D, rfl, hB, (hown.alloc _).mono (Nat.le_succ _), HF.out⟩, (Below.refl _ _).alloc hs _⟩

theorem empty_at {f : Int → Int} (hf : ∀ x, f x = 0) : ∀ x, (Lit.int .i64 x).wf = true → (DataW.map [] : DataW Unit).atKey (.int .i64 x) (.lit (.int .u64 0)) = .lit (.int .u64 (f x)) := by
  intro x _; rw [hf x]; rfl

set_option maxHeartbeats 800000 in
theorem once_none_yes (base n : Nat) (f : Int → Int) (to mark : Int) (w : World) (hs : base ≤ w.heap.size) (hf : ∀ x, f x = 0) (ht : (Lit.int .i64 to).wf = true) (hm : (Lit.int .u64 mark).wf = true) (hlt : 0 < mark) :
    Calls Trym.prog 20 #[.map none, .int .i64 to, .int .u64 mark] w fun e w' => ∃ v', e = .returned (.tuple #[v', .bool true]) ∧ MapF w' v' base (n + 1) (upd f to mark) ∧ Below base w w' := by
  have hkey := Maps.keyOf_int_mk (P := Trym.prog) (k := 3) Trym.underlying3 ht
  have HF : Hid (∀ x, f x = 0) := hf
  have hnil := fun wx => run_eql_map_nil (P := Trym.prog) wx 46 3 26 none Trym.underlying46
  have hlook := fun wx => Maps.look_nil (P := Trym.prog) (w := wx) (t := 46) false law Trym.underlying46 (zero26 wx) hkey
  have hmm := @run_makeMap Trym.prog
  have hown : ((w.alloc (Obj.cells #[Value.map (some (w.heap.size + 1))] 46)).alloc (Obj.map #[] 0)).ownsMap Trym.prog 3 (plainElem (H := Unit) Trym.prog 26) (w.heap.size + 1) 0 (.map []) := by
    have := World.ownsMap_made (H := Unit) (w.alloc (Obj.cells #[Value.map (some (w.heap.size + 1))] 46)) Trym.prog 3 (plainElem Trym.prog 26)
    simpa using this
  have HO : Hid _ := hown
  clear hf hown
  go_enter Trym.func20, Trym.ntmps20
  go_wp2_with (first | (at_mapUpdate; refine wpList_mapUpdate_own _ rfl _ _ _ 46 rfl 3 26 law Trym.underlying46 _ (w.heap.size + 1) 0 (.map []) rfl HO.out (by unfold maxLen; omega) _ _ _ rfl rfl hkey _ [] (plainElem_int Trym.underlying26 hm) ?_; intro w1 hown1 hgrow1; have hx := hgrow1.cell (a := ⟨w.heap.size, 0, none⟩) (v := .map (some (w.heap.size + 1))) (by simp) (by simp)) | go_in)
  go_ret2
  exact ⟨_, rfl, Or.inr ⟨_, _, rfl, by omega, hown1.mono (by omega), upd_at Maps.isMap_empty ht (empty_at HF.out)⟩, (((Below.refl _ _).alloc hs _).alloc (by simp; omega) _).grown hgrow1 (by simp; omega) (fun k hk => by cases hk; omega)⟩

set_option maxHeartbeats 800000 in
theorem once_none_no (base n : Nat) (f : Int → Int) (to mark : Int) (w : World) (hs : base ≤ w.heap.size) (hf : ∀ x, f x = 0) (ht : (Lit.int .i64 to).wf = true) (hlt : ¬ 0 < mark) :
    Calls Trym.prog 20 #[.map none, .int .i64 to, .int .u64 mark] w fun e w' => ∃ v', e = .returned (.tuple #[v', .bool false]) ∧ MapF w' v' base (n + 1) f ∧ Below base w w' := by
  have hkey := Maps.keyOf_int_mk (P := Trym.prog) (k := 3) Trym.underlying3 ht
  have HF : Hid (∀ x, f x = 0) := hf
  have hlook := fun wx => Maps.look_nil (P := Trym.prog) (w := wx) (t := 46) false law Trym.underlying46 (zero26 wx) hkey
  clear hf
  go_enter Trym.func20, Trym.ntmps20
  go_wp2_with (first | go_in)
  go_ret2
  exact ⟨_, rfl, Or.inl ⟨rfl, HF.out⟩, (Below.refl _ _).alloc hs _⟩

/-- What a map answers is of its kind. -/
theorem once_any (v : Value) (base n : Nat) (f : Int → Int) (to mark : Int) (w : World) (hv : MapF w v base n f) (hs : base ≤ w.heap.size) (ht : (Lit.int .i64 to).wf = true) (hm : (Lit.int .u64 mark).wf = true) (hn : n ≤ 1048576) :
    Calls Trym.prog 20 #[v, .int .i64 to, .int .u64 mark] w fun e w' => ∃ v', e = .returned (.tuple #[v', .bool (decide (f to < mark))]) ∧ MapF w' v' base (n + 1) (if f to < mark then upd f to mark else f) ∧ Below base w w' := by
  rcases hv with ⟨rfl, hf⟩ | ⟨B, D, rfl, hB, hown, hf⟩
  · by_cases hlt : 0 < mark
    · have := once_none_yes base n f to mark w hs hf ht hm hlt
      simpa [hf to, hlt] using this
    · have := once_none_no base n f to mark w hs hf ht hlt
      simpa [hf to, hlt] using this
  · by_cases hlt : f to < mark
    · have := once_some_yes B base n D f to mark (f to) w hB hs hown hf ht hm hn rfl hlt
      simpa [hlt] using this
    · have := once_some_no B base n D f to mark (f to) w hB hs hown hf ht rfl hlt
      simpa [hlt] using this
end Go.Proofs.Qxb6000907aMods
