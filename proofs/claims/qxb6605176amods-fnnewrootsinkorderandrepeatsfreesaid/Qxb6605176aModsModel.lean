/- What the laws' own models do to a map, and the copy of the datasets. -/
import Derived.Test.Qxb6605176aModsGuards
import Derived.Laws.CopyOwn
namespace Go.Proofs.Qxb6605176aMods
open Go.RowKit

/-- The ancestors at places below m. -/
def ancL (d : ByteArray) (m : Nat) (y : List UInt8) : Prop := ∃ j, j < m ∧ byt d j = 47 ∧ y = d.data.toList.take j

theorem modelL_start {w : World} {r d : ByteArray} {ds : List ByteArray} {B k n : Nat} {tr : List UInt8 → Prop} (h : MapC w B n tr (alOf r (ds.take k))) : MapC w B n tr (fun x => alOf r (ds.take k) x ∨ ∃ y, ancL d 0 y ∧ x = kk r.data.toList y) := by
  refine h.congr (fun _ => Iff.rfl) (fun x => ⟨?_, Or.inl⟩)
  rintro (h | ⟨y, ⟨j, h1, _⟩, _⟩)
  · exact h
  · omega
theorem modelL_no {w : World} {r d : ByteArray} {ds : List ByteArray} {B k n m : Nat} {tr : List UInt8 → Prop} (h47 : byt d m ≠ 47) (h : MapC w B n tr (fun x => alOf r (ds.take k) x ∨ ∃ y, ancL d m y ∧ x = kk r.data.toList y)) : MapC w B n tr (fun x => alOf r (ds.take k) x ∨ ∃ y, ancL d (m + 1) y ∧ x = kk r.data.toList y) := by
  refine h.congr (fun _ => Iff.rfl) (fun x => ⟨?_, ?_⟩)
  · rintro (h | ⟨y, ⟨j, h1, h2, rfl⟩, rfl⟩)
    · exact Or.inl h
    · by_cases e : j = m
      · subst e; exact absurd h2 h47
      · exact Or.inr ⟨_, ⟨j, by omega, h2, rfl⟩, rfl⟩
  · rintro (h | ⟨y, ⟨j, h1, h2, rfl⟩, rfl⟩)
    · exact Or.inl h
    · exact Or.inr ⟨_, ⟨j, by omega, h2, rfl⟩, rfl⟩
theorem take_extract (d : ByteArray) (m : Nat) : (d.extract 0 m).data.toList = d.data.toList.take m := by rw [Lib.extract_data]; simp
theorem modelL_yes {w : World} {r d q : ByteArray} {ds : List ByteArray} {B k n m : Nat} {tr : List UInt8 → Prop} (h47 : byt d m = 47) (hq : KeyIs q r (d.extract 0 m)) (h : MapC w B n tr (fun x => (alOf r (ds.take k) x ∨ ∃ y, ancL d m y ∧ x = kk r.data.toList y) ∨ x = q.data.toList)) : MapC w B n tr (fun x => alOf r (ds.take k) x ∨ ∃ y, ancL d (m + 1) y ∧ x = kk r.data.toList y) := by
  refine h.congr (fun _ => Iff.rfl) (fun x => ?_)
  rw [hq.1, take_extract]
  constructor
  · rintro (h | ⟨y, ⟨j, h1, h2, rfl⟩, rfl⟩)
    · exact Or.inl (Or.inl h)
    · by_cases e : j = m
      · subst e; exact Or.inr rfl
      · exact Or.inl (Or.inr ⟨_, ⟨j, by omega, h2, rfl⟩, rfl⟩)
  · rintro ((h | ⟨y, ⟨j, h1, h2, rfl⟩, rfl⟩) | rfl)
    · exact Or.inl h
    · exact Or.inr ⟨_, ⟨j, by omega, h2, rfl⟩, rfl⟩
    · exact Or.inr ⟨_, ⟨m, by omega, h47, rfl⟩, rfl⟩
theorem modelL_end {w : World} {r d : ByteArray} {ds : List ByteArray} {B k n : Nat} {tr : List UInt8 → Prop} (hk : k < ds.length) (hd : d = ds.getD k ByteArray.empty) (h : MapC w B n tr (fun x => alOf r (ds.take k) x ∨ ∃ y, ancL d d.size y ∧ x = kk r.data.toList y)) : MapC w B n tr (alOf r (ds.take (k + 1))) := by
  refine h.congr (fun _ => Iff.rfl) (fun x => ⟨?_, ?_⟩)
  · rintro ⟨z, hz, y, ⟨j, h1, h2, h3, rfl⟩, rfl⟩
    rcases (mem_take_succ hk z).1 hz with h | h
    · exact Or.inl ⟨z, h, _, ⟨j, h1, h2, h3, rfl⟩, rfl⟩
    · rw [← hd] at h; subst h; exact Or.inr ⟨_, ⟨j, h2, h3, rfl⟩, rfl⟩
  · rintro (⟨z, hz, y, hy, rfl⟩ | ⟨y, ⟨j, h1, h2, rfl⟩, rfl⟩)
    · exact ⟨z, (mem_take_succ hk z).2 (Or.inl hz), y, hy, rfl⟩
    · exact ⟨d, (mem_take_succ hk d).2 (Or.inr hd), _, ⟨j, Nat.zero_le _, h1, h2, rfl⟩, rfl⟩

theorem modelT_start {w : World} {r : ByteArray} {ds : List ByteArray} {B n : Nat} {al : List UInt8 → Prop} (h : MapC w B n (fun _ => False) al) : MapC w B n (trOf r (ds.take 0)) al :=
  h.congr (fun x => ⟨fun ⟨d, hd, _⟩ => by simp at hd, fun h => h.elim⟩) (fun _ => Iff.rfl)
theorem modelT_step {w : World} {r q d : ByteArray} {ds : List ByteArray} {B k n : Nat} {al : List UInt8 → Prop} (hk : k < ds.length) (hd : d = ds.getD k ByteArray.empty) (hq : KeyIs q r d) (h : MapC w B n (fun x => trOf r (ds.take k) x ∨ x = q.data.toList) al) : MapC w B n (trOf r (ds.take (k + 1))) al := by
  refine h.congr (fun x => ?_) (fun _ => Iff.rfl)
  rw [hq.1]
  constructor
  · rintro ⟨z, hz, rfl⟩
    rcases (mem_take_succ hk z).1 hz with h | h
    · exact Or.inl ⟨z, h, rfl⟩
    · rw [← hd] at h; subst h; exact Or.inr rfl
  · rintro (⟨z, hz, rfl⟩ | rfl)
    · exact ⟨z, (mem_take_succ hk z).2 (Or.inl hz), rfl⟩
    · exact ⟨d, (mem_take_succ hk d).2 (Or.inr hd), rfl⟩
theorem modelA_start {w : World} {r : ByteArray} {ds : List ByteArray} {B n : Nat} {tr : List UInt8 → Prop} (h : MapC w B n tr (fun _ => False)) : MapC w B n tr (alOf r (ds.take 0)) :=
  h.congr (fun _ => Iff.rfl) (fun x => ⟨fun ⟨d, hd, _⟩ => by simp at hd, fun h => h.elim⟩)

theorem Trym.info9 : (Trym.prog.info? 9).map (fun i => (i.zero, i.size, i.bytes)) = some (some (.string ⟨#[]⟩), 1, 16) := by kernel_rfl
theorem Trym.size9 : (Trym.prog.info? 9).map (·.size) = some 1 := by kernel_rfl

/-- From what a slice of strings that came in is known to be. -/
theorem ss_of_row {w : World} {a : Option Addr} {len cap : Nat} {ss : List ByteArray}
    (h : (a = none ∧ len = 0 ∧ cap = 0) ∨ ∃ x, a = some x ∧ len ≤ cap ∧ cap ≤ maxLen ∧ ss.length = cap ∧ (∀ i, i < ss.length → w.cell? (x.add i) = some (.string (ss.getD i ByteArray.empty)))) :
    ∃ ds, Ss w a len ds ∧ len ≤ 9223372036854775807 := by
  rcases h with ⟨rfl, rfl, rfl⟩ | ⟨x, rfl, hl, hm, hz, hcell⟩
  · exact ⟨[], ⟨rfl, fun h => by omega⟩, by omega⟩
  · refine ⟨ss.take len, ⟨by simp; omega, fun hp => ?_⟩, by unfold maxLen at hm; omega⟩
    obtain ⟨b, off, spot⟩ := x
    have hc := hcell 0 (by omega)
    have hspot : spot = none := by simpa [Addr.add] using World.cell?_spot hc
    subst hspot
    have hc' : ∀ i, i < len → w.cell? ⟨b, off + i, none⟩ = some (.string ((ss.take len).getD i ByteArray.empty)) := fun i hi => by
      have := hcell i (by omega)
      rw [show (ss.take len).getD i ByteArray.empty = ss.getD i ByteArray.empty by simp [List.getD, hi]]
      by_cases e : i = 0
      · subst e; simpa [Addr.add] using this
      · simpa [Addr.add, e] using this
    have hlt : b < w.heap.size := by
      by_cases hb : b < w.heap.size
      · exact hb
      · have h0 := hc' 0 hp
        simp [World.cell?, Array.getElem?_eq_none (Nat.le_of_not_lt hb)] at h0
    exact ⟨b, off, rfl, hlt, hc'⟩

/-- A row that the call itself has made, filled with strings. -/
theorem ss_of_block {w : World} {g : Nat} {ds : List ByteArray} {t : TypeId} (h : w.heap[g]? = some (.cells (ds.map Value.string).toArray t (0, 0))) : Ss w (some ⟨g, 0, none⟩) ds.length ds := by
  refine ⟨rfl, fun hp => ⟨g, 0, rfl, ?_, fun i hi => ?_⟩⟩
  · by_cases hb : g < w.heap.size
    · exact hb
    · rw [Array.getElem?_eq_none (Nat.le_of_not_lt hb)] at h; cases h
  · rw [Nat.zero_add, cell_of_row w g i _ t (0, 0) h]
    simp [List.getD, hi]

/-- The cells that a copy reads. -/
theorem src_cells {w : World} {x : Addr} {len : Nat} {ds : List ByteArray} (h : Ss w (some x) len ds) : ∀ j v, (ds.map Value.string)[j]? = some v → w.cell? (x.add j) = some v := by
  intro j v hv
  have hj : j < ds.length := by
    by_cases hj : j < ds.length
    · exact hj
    · rw [List.getElem?_eq_none (by simp; omega)] at hv; cases hv
  obtain ⟨b, off, ha, _, hc⟩ := h.2 (by have := h.1; omega)
  cases ha
  have hv' : v = .string (ds.getD j ByteArray.empty) := by simp [hj] at hv; rw [← hv]; simp [List.getD, hj]
  have h1 := hc j (by have := h.1; omega)
  rw [hv']
  by_cases e : j = 0
  · subst e; simpa [Addr.add] using h1
  · simpa [Addr.add, e] using h1

/-- The block of a row that 'make' has just laid. -/
theorem made_block {w : World} {base g n : Nat} {e : TypeId} {xs : List Value} (h : w.ownsRow base e 1 (.slice (some ⟨g, 0, none⟩) n n) n xs) : ∃ cur : Array Value, w.heap[g]? = some (.cells cur e (0, 0)) ∧ cur.size = n := by
  rcases h.2 with ⟨h', _⟩ | ⟨g', cap', cur, h', _, hg, _, _, hs, _⟩
  · simp at h'
  · simp only [Value.slice.injEq, Option.some.injEq, Addr.mk.injEq, and_true, true_and] at h'
    obtain ⟨rfl, rfl⟩ := h'
    exact ⟨cur, hg, by omega⟩

theorem copied_block {w : World} {g len : Nat} {cur : Array Value} {t : TypeId} {ds : List ByteArray} (h : w.heap[g]? = some (.cells cur t (0, 0))) (hs : cur.size = len) :
    (w.setRow g (ds.map Value.string ++ cur.toList.drop len).toArray).heap[g]? = some (.cells (ds.map Value.string).toArray t (0, 0)) := by
  have e : ds.map Value.string ++ cur.toList.drop len = ds.map Value.string := by
    rw [List.drop_eq_nil_of_le (by simp [hs]), List.append_nil]
  rw [e]
  simp [World.setRow, Array.getElem?_modify, h]

theorem strs_oneCell (ds : List ByteArray) : ∀ v ∈ ds.map Value.string, v.oneCell' = true := by
  intro v hv
  obtain ⟨s, _, rfl⟩ := List.mem_map.1 hv
  rfl
end Go.Proofs.Qxb6605176aMods
