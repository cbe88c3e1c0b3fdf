/- Maps from strings to bools that the calls make, read through two sets of keys: those that answer true, those that are there beside. -/
import Derived.Test.Qxb6605176aModsProg
import Derived.WalkKit
import Derived.WalkSpells
import Derived.WalkLawsBesides
import Derived.Deep.QuietTactic
import Derived.BigQuiet
import Derived.Below
import Derived.WalkSmall
import Derived.Maps.OwnOps
import Derived.Maps.OwnSet
import Derived.Maps.Views
import Derived.Maps.Ext
import Derived.Deep.RegionHeld3
namespace Go.Proofs.Qxb6605176aMods
open Go.RowKit

/-- The map's datum D answers true just at the keys of 'tr', false just at those of 'al' that are not in 'tr', and holds no other key. -/
def Reads (D : DataW Unit) (tr al : List UInt8 → Prop) : Prop :=
  (∀ x, tr x → Maps.has D (.string x) = true ∧ ∀ z, D.atKey (.string x) z = .lit (.bool true)) ∧
  (∀ x, ¬ tr x → al x → Maps.has D (.string x) = true ∧ ∀ z, D.atKey (.string x) z = .lit (.bool false)) ∧
  (∀ x, ¬ tr x → ¬ al x → Maps.has D (.string x) = false) ∧
  (∀ k, (∀ x, k ≠ .string x) → Maps.has D k = false)

theorem Reads.empty : Reads (.map []) (fun _ => False) (fun _ => False) :=
  ⟨fun _ h => h.elim, fun _ _ h => h.elim, fun _ _ _ => rfl, fun _ _ => rfl⟩

theorem Reads.congr {D : DataW Unit} {tr al tr' al' : List UInt8 → Prop} (h : Reads D tr al) (h1 : ∀ x, tr' x ↔ tr x) (h2 : ∀ x, al' x ↔ al x) : Reads D tr' al' := by
  have e1 : tr' = tr := funext fun x => propext (h1 x)
  have e2 : al' = al := funext fun x => propext (h2 x)
  rw [e1, e2]; exact h

theorem str_ne {x y : List UInt8} (h : x ≠ y) : Lit.string x ≠ Lit.string y := fun e => h (by simpa using e)

theorem Reads.put_true {D : DataW Unit} {tr al : List UInt8 → Prop} (h : Reads D tr al) (hD : Maps.IsMap D) (y : List UInt8) : Reads (D.put (.string y) (.lit (.bool true))) (fun x => tr x ∨ x = y) al := by
  refine ⟨fun x hx => ?_, fun x hx ha => ?_, fun x hx ha => ?_, fun k hk => ?_⟩
  · by_cases e : x = y
    · subst e
      exact ⟨Maps.has_put_same hD (k := Lit.string x) (by trivial) _, fun z => Maps.atKey_put_same (k := Lit.string x) hD (by trivial) _ z⟩
    · rw [Maps.has_put_other (str_ne e)]
      have hx' : tr x := hx.resolve_right e
      exact ⟨(h.1 x hx').1, fun z => by rw [Maps.atKey_put_other (str_ne e)]; exact (h.1 x hx').2 z⟩
  · have e : x ≠ y := fun e => hx (Or.inr e)
    have hn : ¬ tr x := fun t => hx (Or.inl t)
    rw [Maps.has_put_other (str_ne e)]
    exact ⟨(h.2.1 x hn ha).1, fun z => by rw [Maps.atKey_put_other (str_ne e)]; exact (h.2.1 x hn ha).2 z⟩
  · have e : x ≠ y := fun e => hx (Or.inr e)
    rw [Maps.has_put_other (str_ne e)]
    exact h.2.2.1 x (fun t => hx (Or.inl t)) ha
  · rw [Maps.has_put_other (hk y)]
    exact h.2.2.2 k hk

theorem Reads.put_false {D : DataW Unit} {tr al : List UInt8 → Prop} (h : Reads D tr al) (hD : Maps.IsMap D) (y : List UInt8) (hy : ¬ tr y) : Reads (D.put (.string y) (.lit (.bool false))) tr (fun x => al x ∨ x = y) := by
  refine ⟨fun x hx => ?_, fun x hx ha => ?_, fun x hx ha => ?_, fun k hk => ?_⟩
  · have e : x ≠ y := fun e => hy (e ▸ hx)
    rw [Maps.has_put_other (str_ne e)]
    exact ⟨(h.1 x hx).1, fun z => by rw [Maps.atKey_put_other (str_ne e)]; exact (h.1 x hx).2 z⟩
  · by_cases e : x = y
    · subst e
      exact ⟨Maps.has_put_same hD (k := Lit.string x) (by trivial) _, fun z => Maps.atKey_put_same (k := Lit.string x) hD (by trivial) _ z⟩
    · have ha' : al x := ha.resolve_right e
      rw [Maps.has_put_other (str_ne e)]
      exact ⟨(h.2.1 x hx ha').1, fun z => by rw [Maps.atKey_put_other (str_ne e)]; exact (h.2.1 x hx ha').2 z⟩
  · have e : x ≠ y := fun e => ha (Or.inr e)
    rw [Maps.has_put_other (str_ne e)]
    exact h.2.2.1 x hx (fun t => ha (Or.inl t))
  · rw [Maps.has_put_other (hk y)]
    exact h.2.2.2 k hk

theorem Reads.skip {D : DataW Unit} {tr al : List UInt8 → Prop} (h : Reads D tr al) (y : List UInt8) (hy : tr y ∨ al y) : Reads D tr (fun x => al x ∨ x = y) := by
  refine ⟨h.1, fun x hx ha => ?_, fun x hx ha => h.2.2.1 x hx (fun t => ha (Or.inl t)), h.2.2.2⟩
  rcases ha with ha | rfl
  · exact h.2.1 x hx ha
  · exact h.2.1 x hx (hy.resolve_left hx)

theorem Reads.same {D E : DataW Unit} {tr al : List UInt8 → Prop} (h : Reads D tr al) (g : Reads E tr al) (c : Maps.Canon D) (c' : Maps.Canon E) : D = E := by
  have cases : ∀ k : Lit, (∃ x, k = .string x) ∨ ∀ x, k ≠ .string x := fun k => by
    cases k <;> first | exact Or.inl ⟨_, rfl⟩ | exact Or.inr (fun x e => by cases e)
  refine Maps.ext c c' (fun k => ?_) (fun k z hk => ?_)
  · rcases cases k with ⟨x, rfl⟩ | hn
    · by_cases t : tr x
      · rw [(h.1 x t).1, (g.1 x t).1]
      · by_cases a : al x
        · rw [(h.2.1 x t a).1, (g.2.1 x t a).1]
        · rw [h.2.2.1 x t a, g.2.2.1 x t a]
    · rw [h.2.2.2 k hn, g.2.2.2 k hn]
  · rcases cases k with ⟨x, rfl⟩ | hn
    · by_cases t : tr x
      · rw [(h.1 x t).2 z, (g.1 x t).2 z]
      · by_cases a : al x
        · rw [(h.2.1 x t a).2 z, (g.2.1 x t a).2 z]
        · rw [h.2.2.1 x t a] at hk; cases hk
    · rw [h.2.2.2 k hn] at hk; cases hk

theorem klaw : Maps.Keyed Trym.prog 9 := Maps.string_keyed Trym.underlying9
theorem zero4 (w : World) : (zeroValue 4).run Trym.prog w = .ok (.bool false) w := by kernel_rfl

/-- Block B is a map of at most n entries that answers by 'tr', 'al'. -/
def MapC (w : World) (B n : Nat) (tr al : List UInt8 → Prop) : Prop := ∃ D : DataW Unit, w.ownsMap Trym.prog 9 (plainElem Trym.prog 4) B n D ∧ Reads D tr al

theorem MapC.made (w : World) : MapC (w.alloc (.map #[] 0)) w.heap.size 0 (fun _ => False) (fun _ => False) := ⟨_, World.ownsMap_made _ _ _ _, Reads.empty⟩
theorem MapC.lt {w : World} {B n : Nat} {tr al : List UInt8 → Prop} (h : MapC w B n tr al) : B < w.heap.size := by obtain ⟨D, h, _⟩ := h; exact h.lt
theorem MapC.kept {w w' : World} {B n : Nat} {tr al : List UInt8 → Prop} (h : MapC w B n tr al) (hb : w'.heap[B]? = w.heap[B]?) : MapC w' B n tr al := by
  obtain ⟨D, ⟨es, cl, hh, r⟩, hr⟩ := h
  exact ⟨D, ⟨es, cl, by rw [hb]; exact hh, r⟩, hr⟩
theorem MapC.below {w w' : World} {B n : Nat} {tr al : List UInt8 → Prop} (h : MapC w B n tr al) (hb : Below w.heap.size w w') : MapC w' B n tr al := h.kept (hb.block B h.lt)
theorem MapC.grown {w w' : World} {B n : Nat} {tr al : List UInt8 → Prop} {row : Option Nat} (h : MapC w B n tr al) (hg : w.grownBy w' row) (hne : some B ≠ row) : MapC w' B n tr al := by
  obtain ⟨D, h, hr⟩ := h
  exact ⟨D, h.kept hg hne, hr⟩
theorem MapC.mono {w : World} {B n m : Nat} {tr al : List UInt8 → Prop} (h : MapC w B n tr al) (hm : n ≤ m) : MapC w B m tr al := by
  obtain ⟨D, h, hr⟩ := h
  exact ⟨D, h.mono hm, hr⟩
theorem MapC.congr {w : World} {B n : Nat} {tr al tr' al' : List UInt8 → Prop} (h : MapC w B n tr al) (h1 : ∀ x, tr' x ↔ tr x) (h2 : ∀ x, al' x ↔ al x) : MapC w B n tr' al' := by
  obtain ⟨D, h, hr⟩ := h
  exact ⟨D, h, hr.congr h1 h2⟩
theorem MapC.skip {w : World} {B n : Nat} {tr al : List UInt8 → Prop} (h : MapC w B n tr al) (y : List UInt8) (hy : tr y ∨ al y) : MapC w B n tr (fun x => al x ∨ x = y) := by
  obtain ⟨D, h, hr⟩ := h
  exact ⟨D, h, hr.skip y hy⟩

/-- 'm[k] = true'. -/
theorem MapC.put_true {w : World} {B n : Nat} {tr al : List UInt8 → Prop} (h : MapC w B n tr al) (hn : n < 1000000000) (s : ByteArray) (hs : s.size ≤ maxLen) :
    ∃ w1, (Instr.mapUpdate 32 (.map (some B)) (.string s) (.bool true)).run Trym.prog w = .ok () w1 ∧ MapC w1 B (n + 1) (fun x => tr x ∨ x = s.data.toList) al ∧ w.grownBy w1 (some B) := by
  obtain ⟨D, h, hr⟩ := h
  obtain ⟨w1, hrun, ho, hg⟩ := h.update klaw Trym.underlying32 (by unfold maxLen; omega) (WideMaps.keyOf_string_mk Trym.underlying9 hs) (plainElem_bool Trym.underlying4 true)
  exact ⟨w1, hrun, ⟨_, ho, hr.put_true h.isMap _⟩, hg⟩

/-- 'm[k] = false' at a key that is not there. -/
theorem MapC.put_false {w : World} {B n : Nat} {tr al : List UInt8 → Prop} (h : MapC w B n tr al) (hn : n < 1000000000) (s : ByteArray) (hs : s.size ≤ maxLen) (hy : ¬ tr s.data.toList) :
    ∃ w1, (Instr.mapUpdate 32 (.map (some B)) (.string s) (.bool false)).run Trym.prog w = .ok () w1 ∧ MapC w1 B (n + 1) tr (fun x => al x ∨ x = s.data.toList) ∧ w.grownBy w1 (some B) := by
  obtain ⟨D, h, hr⟩ := h
  obtain ⟨w1, hrun, ho, hg⟩ := h.update klaw Trym.underlying32 (by unfold maxLen; omega) (WideMaps.keyOf_string_mk Trym.underlying9 hs) (plainElem_bool Trym.underlying4 false)
  exact ⟨w1, hrun, ⟨_, ho, hr.put_false h.isMap _ hy⟩, hg⟩

/-- What a look-up at a key answers, and whether it is there: by the two sets alone. -/
def looks (tr al : List UInt8 → Prop) (x : List UInt8) (b h : Bool) : Prop := (b = true ↔ tr x) ∧ (h = true ↔ tr x ∨ al x)

theorem looks.same {tr al : List UInt8 → Prop} {x : List UInt8} {b h b' h' : Bool} (p : looks tr al x b h) (q : looks tr al x b' h') : b = b' ∧ h = h' :=
  ⟨Bool.eq_iff_iff.2 (p.1.trans q.1.symm), Bool.eq_iff_iff.2 (p.2.trans q.2.symm)⟩

theorem bool_of_elem {v : Value} {d : DataW Unit} {ps : List MemPlace} (h : plainElem Trym.prog 4 v = some (d, ps)) : ∃ b, v = .bool b ∧ d = .lit (.bool b) := by
  unfold plainElem at h
  rw [Trym.underlying4] at h
  cases v <;> simp at h
  exact ⟨_, rfl, h.1.symm⟩

theorem MapC.look {w : World} {B n : Nat} {tr al : List UInt8 → Prop} (h : MapC w B n tr al) (s : ByteArray) (hs : s.size ≤ maxLen) :
    ∃ b k, looks tr al s.data.toList b k ∧ (Instr.lookup 32 (.map (some B)) (.string s) true).run Trym.prog w = .ok (.tuple #[.bool b, .bool k]) w := by
  obtain ⟨D, h, hr⟩ := h
  obtain ⟨v, ps, hrun, hv⟩ := h.look_ok klaw Trym.underlying32 (zero4 w) (zd := .lit (.bool false)) (zp := []) (plainElem_bool Trym.underlying4 false) (WideMaps.keyOf_string_mk Trym.underlying9 hs)
  obtain ⟨b, rfl, hb⟩ := bool_of_elem hv
  refine ⟨b, _, ?_, hrun⟩
  by_cases t : tr s.data.toList
  · have e := (hr.1 _ t).2 (.lit (.bool false))
    rw [e] at hb
    have : b = true := by simpa using hb.symm
    exact ⟨by simp [this, t], by rw [(hr.1 _ t).1]; simp [t]⟩
  · by_cases a : al s.data.toList
    · have e := (hr.2.1 _ t a).2 (.lit (.bool false))
      rw [e] at hb
      have : b = false := by simpa using hb.symm
      exact ⟨by simp [this, t], by rw [(hr.2.1 _ t a).1]; simp [a]⟩
    · have e := Maps.atKey_of_not_has (hr.2.2.1 _ t a) (.lit (.bool false))
      rw [e] at hb
      have : b = false := by simpa using hb.symm
      exact ⟨by simp [this, t], by rw [hr.2.2.1 _ t a]; simp [t, a]⟩

/-- 'len(m)': two maps with the same sets are of one size. -/
theorem MapC.len {w : World} {B n : Nat} {tr al : List UInt8 → Prop} (h : MapC w B n tr al) : ∃ N : Nat, (∀ ty, (Builtin.len_ #[32] ty #[.map (some B)]).run Trym.prog w = .ok (.int .i64 N) w) ∧ ∃ D : DataW Unit, N = Maps.size D ∧ Reads D tr al ∧ Maps.Canon D := by
  obtain ⟨D, h, hr⟩ := h
  exact ⟨Maps.size D, fun ty => h.len Trym.underlying32 ty, D, rfl, hr, h.canon klaw⟩
theorem len_same {tr al : List UInt8 → Prop} {N M : Nat} (h : ∃ D : DataW Unit, N = Maps.size D ∧ Reads D tr al ∧ Maps.Canon D) (g : ∃ D : DataW Unit, M = Maps.size D ∧ Reads D tr al ∧ Maps.Canon D) : N = M := by
  obtain ⟨D, rfl, r, c⟩ := h
  obtain ⟨E, rfl, r', c'⟩ := g
  rw [r.same r' c c']
end Go.Proofs.Qxb6605176aMods
