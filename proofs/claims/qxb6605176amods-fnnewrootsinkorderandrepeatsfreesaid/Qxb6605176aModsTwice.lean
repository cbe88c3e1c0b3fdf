/- The datasets reversed and then listed again. -/
import Derived.Test.Qxb6605176aModsModel
namespace Go.Proofs.Qxb6605176aMods
open Go.RowKit

theorem ss_own {w : World} {base g n cap : Nat} {ds : List ByteArray} (h : w.ownsRow base 9 1 (.slice (some ⟨g, 0, none⟩) n cap) n (ds.map Value.string)) (hl : ds.length = n) : Ss w (some ⟨g, 0, none⟩) n ds := by
  have hc : ∀ i, i < n → w.cell? ⟨g, 0 + i, none⟩ = some (.string (ds.getD i ByteArray.empty)) := fun i hi => by
    rw [Nat.zero_add, h.cellAt i (by omega)]
    simp [List.getD, show i < ds.length by omega]
  refine ⟨hl, fun hp => ⟨g, 0, rfl, ?_, hc⟩⟩
  by_cases hb : g < w.heap.size
  · exact hb
  · have h0 := hc 0 hp
    simp [World.cell?, Array.getElem?_eq_none (Nat.le_of_not_lt hb)] at h0

theorem rev_start {w : World} {base g len cap : Nat} {ds : List ByteArray} (hl : ds.length = len) (h : w.ownsRow base 9 1 (.slice (some ⟨g, 0, none⟩) 0 cap) 0 []) : w.ownsRow base 9 1 (.slice (some ⟨g, 0, none⟩) (len - len) cap) (len - len) ((ds.drop len).reverse.map Value.string) := by
  rw [Nat.sub_self, List.drop_eq_nil_of_le (by omega)]
  exact h

theorem at_is {ds : List ByteArray} {k : Nat} {d : ByteArray} (hk : k < ds.length) (hd : d = ds.getD k ByteArray.empty) : ds[k] = d := by rw [hd]; simp [List.getD, hk]

theorem rev_step {ds : List ByteArray} {k : Nat} {d : ByteArray} (hk : k < ds.length) (hd : d = ds.getD k ByteArray.empty) : (ds.drop (k + 1)).reverse.map Value.string ++ [.string d] = (ds.drop k).reverse.map Value.string := by
  have e : (ds.drop k).reverse = (ds.drop (k + 1)).reverse ++ [d] := by
    rw [List.drop_eq_getElem_cons hk, List.reverse_cons, at_is hk hd]
  rw [e, List.map_append]; rfl

theorem fwd_step {ds : List ByteArray} {k : Nat} {d : ByteArray} (hk : k < ds.length) (hd : d = ds.getD k ByteArray.empty) : (ds.reverse ++ ds.take k).map Value.string ++ [.string d] = (ds.reverse ++ ds.take (k + 1)).map Value.string := by
  have e : ds.reverse ++ ds.take (k + 1) = (ds.reverse ++ ds.take k) ++ [d] := by
    rw [List.take_succ_eq_append_getElem hk, at_is hk hd, List.append_assoc]
  rw [e]
  exact (List.map_append (l₁ := ds.reverse ++ ds.take k) (l₂ := [d])).symm

theorem mem_at {ds : List ByteArray} {k : Nat} {d : ByteArray} (hk : k < ds.length) (hd : d = ds.getD k ByteArray.empty) : d ∈ ds := by
  rw [hd]; simp [List.getD, hk]

theorem mem_twice {ds : List ByteArray} {d : ByteArray} : d ∈ ds.reverse ++ ds ↔ d ∈ ds := by simp
theorem tr_twice (r : ByteArray) (ds : List ByteArray) (x : List UInt8) : trOf r ds x ↔ trOf r (ds.reverse ++ ds) x :=
  ⟨fun ⟨d, hd, e⟩ => ⟨d, mem_twice.2 hd, e⟩, fun ⟨d, hd, e⟩ => ⟨d, mem_twice.1 hd, e⟩⟩
theorem al_twice (r : ByteArray) (ds : List ByteArray) (x : List UInt8) : alOf r ds x ↔ alOf r (ds.reverse ++ ds) x :=
  ⟨fun ⟨d, hd, e⟩ => ⟨d, mem_twice.2 hd, e⟩, fun ⟨d, hd, e⟩ => ⟨d, mem_twice.1 hd, e⟩⟩

theorem sizes_twice {ds : List ByteArray} {len n : Nat} (hn : n = ds.length + ds.length ∧ len = ds.length) (h : ∀ t, t < len → (ds.getD t ByteArray.empty).size ≤ 4096) : ∀ t, t < n → ((ds.reverse ++ ds).getD t ByteArray.empty).size ≤ 4096 := by
  obtain ⟨rfl, rfl⟩ := hn
  intro t ht
  have hm : (ds.reverse ++ ds).getD t ByteArray.empty ∈ ds := by
    refine mem_twice.1 ?_
    have ht' : t < (ds.reverse ++ ds).length := by simp; omega
    rw [List.getD_eq_getElem?_getD, List.getElem?_eq_getElem ht']
    exact List.getElem_mem ht'
  obtain ⟨i, hi, e⟩ := List.getElem_of_mem hm
  have := h i hi
  rw [← e]
  simpa [List.getD, hi] using this

theorem below3 {a w w1 w2 : World} (h : Below a.heap.size a w) (h1 : Below w.heap.size w w1) (h2 : Below w1.heap.size w1 w2) : Below a.heap.size a w2 :=
  (h.trans (h1.mono h.size)).trans (h2.mono (Nat.le_trans h.size h1.size))
end Go.Proofs.Qxb6605176aMods
