/- The contract of NewRootSink. -/
import Derived.Test.Qxb6605176aModsStrs
import Derived.Lib.Strings
namespace Go.Proofs.Qxb6605176aMods
open Go.RowKit

theorem hd_ {p : Prop} (h : p) : Hid p := h

/-- A slice of strings that can be read. -/
def Ss (w : World) (a : Option Addr) (len : Nat) (ss : List ByteArray) : Prop :=
  ss.length = len ∧ (0 < len → ∃ b off, a = some ⟨b, off, none⟩ ∧ b < w.heap.size ∧ ∀ i, i < len → w.cell? ⟨b, off + i, none⟩ = some (.string (ss.getD i ByteArray.empty)))

theorem Ss.below {w w' : World} {a : Option Addr} {len : Nat} {ss : List ByteArray} (h : Ss w a len ss) (hb : Below w.heap.size w w') : Ss w' a len ss := by
  refine ⟨h.1, fun hp => ?_⟩
  obtain ⟨b, off, ha, hlt, hc⟩ := h.2 hp
  exact ⟨b, off, ha, Nat.lt_of_lt_of_le hlt hb.size, fun i hi => (hb.cell (p := ⟨b, off + i, none⟩) hlt).trans (hc i hi)⟩

def kk (r x : List UInt8) : List UInt8 := r ++ 47 :: x
def ancP (d : ByteArray) (c : Nat) (y : List UInt8) : Prop := ∃ j, c ≤ j ∧ j < d.size ∧ byt d j = 47 ∧ y = d.data.toList.take j
def trOf (r : ByteArray) (ds : List ByteArray) (x : List UInt8) : Prop := ∃ d ∈ ds, x = kk r.data.toList d.data.toList
def alOf (r : ByteArray) (ds : List ByteArray) (x : List UInt8) : Prop := ∃ d ∈ ds, ∃ y, ancP d 0 y ∧ x = kk r.data.toList y

def strM : Value → Value → Nat | .string s, .bool true => s.size + 1 | _, _ => 0

/-- The blocks that NewRootSink lays ahead of its loop, and that nothing that was there has turned. -/
def Fx (w : World) (r : ByteArray) (wr : World) : Prop :=
  wr.heap[w.heap.size]? = some (.cells #[.string ⟨#[]⟩, .map none, .string ⟨#[]⟩] 42 (0, 0)) ∧ wr.heap[w.heap.size + 1 + 1]? = some (.cells #[.string r, .map (some (w.heap.size + 1))] 40 (0, 0)) ∧ Below w.heap.size w wr ∧ w.heap.size + 3 ≤ wr.heap.size

theorem Fx.below {w wr w' : World} {r : ByteArray} (h : Fx w r wr) (hb : Below wr.heap.size wr w') : Fx w r w' := by
  obtain ⟨h1, h2, h3, h4⟩ := h
  exact ⟨by rw [hb.block _ (by omega)]; exact h1, by rw [hb.block _ (by omega)]; exact h2, h3.trans (hb.mono (by omega)), Nat.le_trans h4 hb.size⟩
theorem Fx.grown {w wr w' : World} {r : ByteArray} (h : Fx w r wr) (hg : wr.grownBy w' (some (w.heap.size + 1))) : Fx w r w' := by
  obtain ⟨h1, h2, h3, h4⟩ := h
  exact ⟨by rw [hg.block _ (by omega) (by simp)]; exact h1, by rw [hg.block _ (by omega) (by simp)]; exact h2, h3.grown hg (by omega) (fun k hk => by cases hk; omega), Nat.le_trans h4 hg.size⟩
theorem Fx.c0 {w wr : World} {r : ByteArray} (h : Fx w r wr) : wr.cell? ⟨w.heap.size + 1 + 1, 0, none⟩ = some (.string r) := by rw [cell_of_row wr _ 0 _ 40 (0, 0) h.2.1]; rfl
theorem Fx.c1 {w wr : World} {r : ByteArray} (h : Fx w r wr) : wr.cell? ⟨w.heap.size + 1 + 1, 1, none⟩ = some (.map (some (w.heap.size + 1))) := by rw [cell_of_row wr _ 1 _ 40 (0, 0) h.2.1]; rfl

/-- A world that differs by draws alone. -/
theorem below_of_drew {w w4 : World} (h : Below w.drew.heap.size w.drew w4) : Below w.heap.size w w4 := ⟨h.os, h.tape, h.output, h.size, h.block⟩

theorem size_list (s : ByteArray) : s.size = s.data.toList.length := (Array.length_toList (xs := s.data)).symm

theorem take_all (d : ByteArray) : d.data.toList = d.data.toList.take d.size := by rw [List.take_of_length_le (by rw [size_list]; exact Nat.le_refl _)]

/-- At the head of a round of the inner loop. -/
def Inn (w : World) (r d : ByteArray) (ds : List ByteArray) (k : Nat) (par ok : Value) (wr : World) : Prop :=
  ∃ (n c : Nat) (ps : ByteArray) (t : Bool), par = .string ps ∧ ok = .bool t ∧ Fx w r wr ∧
    MapC wr (w.heap.size + 1) n (trOf r (ds.take k)) (fun x => alOf r (ds.take k) x ∨ ∃ y, ancP d c y ∧ x = kk r.data.toList y) ∧ n + c ≤ k * 4098 + d.size ∧ c ≤ d.size ∧
    (t = true → ∃ p, p < c ∧ byt d p = 47 ∧ (∀ j, p < j → j < c → byt d j ≠ 47) ∧ ps.data.toList = d.data.toList.take p) ∧ (t = false → ∀ j, j < c → byt d j ≠ 47)

theorem byt_pre {ps d : ByteArray} {c j : Nat} (h : ps.data.toList = d.data.toList.take c) (hj : j < c) : byt ps j = byt d j := by
  unfold byt; rw [h]; simp [List.getD, hj]

/-- What Parent answers of what stands ahead of place c makes the head of a round. -/
theorem inn_no {w wr : World} {r d ps : ByteArray} {ds : List ByteArray} {k n c : Nat} (hF : Fx w r wr) (hm : MapC wr (w.heap.size + 1) n (trOf r (ds.take k)) (fun x => alOf r (ds.take k) x ∨ ∃ y, ancP d c y ∧ x = kk r.data.toList y))
    (hn : n + c ≤ k * 4098 + d.size) (hc : c ≤ d.size) (hps : ps.data.toList = d.data.toList.take c) (hno : ∀ j, j < ps.size → byt ps j ≠ 47) : Inn w r d ds k (.string ByteArray.empty) (.bool false) wr := by
  have hsz : ps.size = c := by rw [size_list, hps]; have := size_list d; simp; omega
  exact ⟨n, c, _, false, rfl, rfl, hF, hm, hn, hc, (fun h => by cases h), fun _ j hj => by rw [← byt_pre hps hj]; exact hno j (by omega)⟩
theorem inn_yes {w wr : World} {r d ps : ByteArray} {ds : List ByteArray} {k n c p : Nat} (hF : Fx w r wr) (hm : MapC wr (w.heap.size + 1) n (trOf r (ds.take k)) (fun x => alOf r (ds.take k) x ∨ ∃ y, ancP d c y ∧ x = kk r.data.toList y))
    (hn : n + c ≤ k * 4098 + d.size) (hc : c ≤ d.size) (hps : ps.data.toList = d.data.toList.take c) (hp : p < ps.size) (h47 : byt ps p = 47) (hno : ∀ j, p < j → j < ps.size → byt ps j ≠ 47) : Inn w r d ds k (.string (ps.extract 0 p)) (.bool true) wr := by
  have hsz : ps.size = c := by rw [size_list, hps]; have := size_list d; simp; omega
  refine ⟨n, c, _, true, rfl, rfl, hF, hm, hn, hc, fun _ => ⟨p, by omega, by rw [← byt_pre hps (by omega)]; exact h47, fun j h1 h2 => by rw [← byt_pre hps h2]; exact hno j h1 (by omega), ?_⟩, fun h => by cases h⟩
  rw [Lib.extract_data, hps]
  simp only [List.drop_zero, Nat.sub_zero, List.take_take]
  rw [Nat.min_eq_left (by omega)]

theorem extract_size (s : ByteArray) (p : Nat) (h : p < s.size) : (s.extract 0 p).size = p := by
  rw [size_list, Lib.extract_data]; have := size_list s; simp; omega

theorem inn_after {w wr : World} {r d ps : ByteArray} {ds : List ByteArray} {k n c : Nat} {e : Ending} (hF : Fx w r wr) (hm : MapC wr (w.heap.size + 1) n (trOf r (ds.take k)) (fun x => alOf r (ds.take k) x ∨ ∃ y, ancP d c y ∧ x = kk r.data.toList y))
    (hn : n + c ≤ k * 4098 + d.size) (hc : c ≤ d.size) (hps : ps.data.toList = d.data.toList.take c)
    (hpar : (e = .returned (.tuple #[.string ByteArray.empty, .bool false]) ∧ ∀ j, j < ps.size → byt ps j ≠ 47) ∨ ∃ p : Nat, e = .returned (.tuple #[.string (ps.extract 0 p), .bool true]) ∧ p < ps.size ∧ byt ps p = 47 ∧ ∀ j, p < j → j < ps.size → byt ps j ≠ 47) :
    ∃ par ok, e = .returned (.tuple #[par, ok]) ∧ Inn w r d ds k par ok wr ∧ strM par ok < strM (.string ps) (.bool true) := by
  rcases hpar with ⟨rfl, hno⟩ | ⟨p, rfl, hp, h47, hno⟩
  · exact ⟨_, _, rfl, inn_no hF hm hn hc hps hno, by simp [strM]⟩
  · exact ⟨_, _, rfl, inn_yes hF hm hn hc hps hp h47 hno, by simp [strM, extract_size ps p hp, hp]⟩

/-- The ancestor at place p has been dealt with. -/
theorem anc_step {d : ByteArray} {c p : Nat} (hp : p < c) (hc : c ≤ d.size) (h47 : byt d p = 47) (hno : ∀ j, p < j → j < c → byt d j ≠ 47) (y : List UInt8) : ancP d p y ↔ ancP d c y ∨ y = d.data.toList.take p := by
  constructor
  · rintro ⟨j, h1, h2, h3, rfl⟩
    by_cases e : j = p
    · subst e; exact Or.inr rfl
    · by_cases e2 : c ≤ j
      · exact Or.inl ⟨j, e2, h2, h3, rfl⟩
      · exact absurd h3 (hno j (by omega) (by omega))
  · rintro (⟨j, h1, h2, h3, rfl⟩ | rfl)
    · exact ⟨j, by omega, h2, h3, rfl⟩
    · exact ⟨p, Nat.le_refl _, by omega, h47, rfl⟩
theorem anc_end {d : ByteArray} {c : Nat} (hno : ∀ j, j < c → byt d j ≠ 47) (y : List UInt8) : ancP d 0 y ↔ ancP d c y := by
  constructor
  · rintro ⟨j, h1, h2, h3, rfl⟩
    by_cases e2 : c ≤ j
    · exact ⟨j, e2, h2, h3, rfl⟩
    · exact absurd h3 (hno j (by omega))
  · rintro ⟨j, h1, h2, h3, rfl⟩
    exact ⟨j, Nat.zero_le _, h2, h3, rfl⟩

/-- The map behind the ancestor at place p. -/
theorem map_step {w : World} {r d ps q : ByteArray} {ds : List ByteArray} {B k n c p : Nat} {tr : List UInt8 → Prop} (hp : p < c) (hc : c ≤ d.size) (h47 : byt d p = 47) (hno : ∀ j, p < j → j < c → byt d j ≠ 47) (hps : ps.data.toList = d.data.toList.take p) (hq : KeyIs q r ps)
    (h : MapC w B n tr (fun x => (alOf r (ds.take k) x ∨ ∃ y, ancP d c y ∧ x = kk r.data.toList y) ∨ x = q.data.toList)) : MapC w B n tr (fun x => alOf r (ds.take k) x ∨ ∃ y, ancP d p y ∧ x = kk r.data.toList y) := by
  refine h.congr (fun _ => Iff.rfl) (fun x => ?_)
  rw [hq.1, hps]
  constructor
  · rintro (h | ⟨y, hy, rfl⟩)
    · exact Or.inl (Or.inl h)
    · rcases (anc_step hp hc h47 hno y).1 hy with h | rfl
      · exact Or.inl (Or.inr ⟨y, h, rfl⟩)
      · exact Or.inr rfl
  · rintro ((h | ⟨y, hy, rfl⟩) | rfl)
    · exact Or.inl h
    · exact Or.inr ⟨y, (anc_step hp hc h47 hno y).2 (Or.inl hy), rfl⟩
    · exact Or.inr ⟨_, (anc_step hp hc h47 hno _).2 (Or.inr rfl), rfl⟩

theorem mem_take_succ {ds : List ByteArray} {k : Nat} (h : k < ds.length) (x : ByteArray) : x ∈ ds.take (k + 1) ↔ x ∈ ds.take k ∨ x = ds.getD k ByteArray.empty := by
  rw [List.take_succ_eq_append_getElem h, List.mem_append, List.mem_singleton]
  simp [List.getD, h]

/-- The map behind a whole dataset. -/
theorem map_round {w : World} {r d q : ByteArray} {ds : List ByteArray} {B k n c : Nat} (hk : k < ds.length) (hd : d = ds.getD k ByteArray.empty) (hno : ∀ j, j < c → byt d j ≠ 47) (hq : KeyIs q r d)
    (h : MapC w B n (fun x => trOf r (ds.take k) x ∨ x = q.data.toList) (fun x => alOf r (ds.take k) x ∨ ∃ y, ancP d c y ∧ x = kk r.data.toList y)) : MapC w B n (trOf r (ds.take (k + 1))) (alOf r (ds.take (k + 1))) := by
  refine h.congr (fun x => ?_) (fun x => ?_)
  · rw [hq.1]
    constructor
    · rintro ⟨z, hz, rfl⟩
      rcases (mem_take_succ hk z).1 hz with h | h
      · exact Or.inl ⟨z, h, rfl⟩
      · rw [← hd] at h; subst h; exact Or.inr rfl
    · rintro (⟨z, hz, rfl⟩ | rfl)
      · exact ⟨z, (mem_take_succ hk z).2 (Or.inl hz), rfl⟩
      · exact ⟨d, (mem_take_succ hk d).2 (Or.inr hd), rfl⟩
  · constructor
    · rintro ⟨z, hz, y, hy, rfl⟩
      rcases (mem_take_succ hk z).1 hz with h | h
      · exact Or.inl ⟨z, h, y, hy, rfl⟩
      · rw [← hd] at h; subst h; exact Or.inr ⟨y, (anc_end hno y).1 hy, rfl⟩
    · rintro (⟨z, hz, y, hy, rfl⟩ | ⟨y, hy, rfl⟩)
      · exact ⟨z, (mem_take_succ hk z).2 (Or.inl hz), y, hy, rfl⟩
      · exact ⟨d, (mem_take_succ hk d).2 (Or.inr hd), y, (anc_end hno y).2 hy, rfl⟩

theorem map_start {w : World} {r d : ByteArray} {ds : List ByteArray} {B k n : Nat} {tr : List UInt8 → Prop} (h : MapC w B n tr (alOf r (ds.take k))) : MapC w B n tr (fun x => alOf r (ds.take k) x ∨ ∃ y, ancP d d.size y ∧ x = kk r.data.toList y) := by
  refine h.congr (fun _ => Iff.rfl) (fun x => ⟨?_, Or.inl⟩)
  rintro (h | ⟨y, ⟨j, h1, h2, _⟩, _⟩)
  · exact h
  · omega

def Out (w : World) (r : ByteArray) (ds : List ByteArray) (k : Nat) (wr : World) : Prop :=
  ∃ n, Fx w r wr ∧ MapC wr (w.heap.size + 1) n (trOf r (ds.take k)) (alOf r (ds.take k)) ∧ n ≤ k * 4098

theorem out_start (w : World) (r : ByteArray) (ds : List ByteArray) : Out w r ds 0 (((w.alloc (Obj.cells #[Value.string { data := #[] }, Value.map none, Value.string { data := #[] }] 42)).alloc (Obj.map #[] 0)).alloc (Obj.cells #[Value.string r, Value.map (some (w.heap.size + 1))] 40)) := by
  refine ⟨0, ⟨?_, ?_, ?_, ?_⟩, ?_, by omega⟩
  · rw [Below.heap_alloc _ _ _ (by simp; omega), Below.heap_alloc _ _ _ (by simp)]; exact heap_alloc_new w _
  · have := heap_alloc_new ((w.alloc (Obj.cells #[Value.string { data := #[] }, Value.map none, Value.string { data := #[] }] 42)).alloc (Obj.map #[] 0)) (Obj.cells #[Value.string r, Value.map (some (w.heap.size + 1))] 40)
    simpa using this
  · exact (((Below.refl _ _).alloc (Nat.le_refl _) _).alloc (by simp) _).alloc (by simp; omega) _
  · simp
  · have h := MapC.made (w.alloc (Obj.cells #[Value.string { data := #[] }, Value.map none, Value.string { data := #[] }] 42))
    have h2 := h.below ((Below.refl _ _).alloc (Nat.le_refl _) (Obj.cells #[Value.string r, Value.map (some (w.heap.size + 1))] 40))
    rw [show (w.alloc (Obj.cells #[Value.string { data := #[] }, Value.map none, Value.string { data := #[] }] 42)).heap.size = w.heap.size + 1 by simp] at h2
    exact h2.congr (fun x => ⟨fun ⟨d, hd, _⟩ => by simp at hd, fun h => h.elim⟩) (fun x => ⟨fun ⟨d, hd, _⟩ => by simp at hd, fun h => h.elim⟩)
end Go.Proofs.Qxb6605176aMods
