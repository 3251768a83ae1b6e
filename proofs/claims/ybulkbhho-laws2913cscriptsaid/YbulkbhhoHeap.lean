/-
  The blocks that the call itself makes, by tags: every tag's value owns its row; no two tags share a block.
-/
import Derived.Test.YbulkbhhoProg
import Derived.WalkKit
import Derived.OpenShut
import Derived.Maps.OwnSet
import Derived.Maps.AppendAt
import Derived.Deep.QuietTactic
import Derived.BigQuiet
namespace Go.Proofs.Ybulkbhho
open Go.RowKit Go.Maps

abbrev Tag := Nat × Nat
/-- The type that a block of that kind bears. -/
def ety : Nat → TypeId
  | 0 => 39
  | 1 => 49
  | 2 => 9
  | 3 => 3
  | 4 => 31
  | 5 => 41
  | 6 => 46
  | 7 => 33
  | 10 => 51
  | 11 => 46
  | 12 => 3
  | 13 => 40
  | _ => 3

def upd {α : Type} (f : Tag → α) (t : Tag) (v : α) : Tag → α := fun s => if s = t then v else f s
theorem upd_same {α : Type} (f : Tag → α) (t : Tag) (v : α) : upd f t v t = v := by simp [upd]
theorem upd_other {α : Type} (f : Tag → α) {s t : Tag} (v : α) (h : s ≠ t) : upd f t v s = f s := by simp [upd, h]

structure Heap (w : World) (base : Nat) (M : Option Nat) (V : Tag → Value) (X : Tag → List Value) : Prop where
  row : ∀ t, w.ownsRow base (ety t.1) 1 (V t) (X t).length (X t)
  apart : ∀ s t b, (V s).ownBlock = some b → (V t).ownBlock = some b → s = t
  off : ∀ b, M = some b → b < w.heap.size ∧ ∀ t, (V t).ownBlock ≠ some b
  ge : base ≤ w.heap.size

variable {w : World} {base : Nat} {M : Option Nat} {V : Tag → Value} {X : Tag → List Value}

theorem Heap.shape (h : Heap w base M V X) (t : Tag) : ∃ a cap, V t = .slice a (X t).length cap ∧ (a = none → (X t).length = 0 ∧ cap = 0) ∧ ∀ x, a = some x → ∃ g, x = ⟨g, 0, none⟩ := by
  rcases (h.row t).2 with ⟨h1, h2⟩ | ⟨g, cap, cur, h1, _⟩
  · exact ⟨none, 0, by rw [h1, h2], fun _ => ⟨h2, rfl⟩, fun x hx => by cases hx⟩
  · exact ⟨some ⟨g, 0, none⟩, cap, h1, (fun hx => by cases hx), fun x hx => by cases hx; exact ⟨g, rfl⟩⟩

/-- Its shape where it holds something. -/
theorem Heap.form (h : Heap w base M V X) (t : Tag) (hn : 0 < (X t).length) : ∃ g cap, V t = .slice (some ⟨g, 0, none⟩) (X t).length cap ∧ base ≤ g ∧ g < w.heap.size := by
  rcases (h.row t).2 with ⟨_, h2⟩ | ⟨g, cap, cur, h1, hb, hg, _⟩
  · omega
  · exact ⟨g, cap, h1, hb, (Array.getElem?_eq_some_iff.1 hg).1⟩

theorem Heap.cell (h : Heap w base M V X) {t : Tag} {g n cap : Nat} (hV : V t = .slice (some ⟨g, 0, none⟩) n cap) {j : Nat} {v : Value} (hj : (X t)[j]? = some v) : w.cell? ⟨g, j, none⟩ = some v := by
  have hr := h.row t
  have hl : (X t).length = n := by
    rcases hr.2 with ⟨h1, _⟩ | ⟨_, _, _, h1, _⟩
    · rw [hV] at h1; simp at h1
    · rw [hV] at h1; simp at h1; exact h1.2.1.symm
  rw [hl, hV] at hr
  obtain ⟨hlt, _⟩ := List.getElem?_eq_some_iff.1 hj
  rw [hr.cellAt j (by omega), hj]
theorem Heap.frozen (h : Heap w base M V X) {t : Tag} {g n cap : Nat} (hV : V t = .slice (some ⟨g, 0, none⟩) n cap) (j : Nat) : w.frozen? ⟨g, j, none⟩ = false := by
  have hr := h.row t
  have hl : (X t).length = n := by
    rcases hr.2 with ⟨h1, _⟩ | ⟨_, _, _, h1, _⟩
    · rw [hV] at h1; simp at h1
    · rw [hV] at h1; simp at h1; exact h1.2.1.symm
  rw [hl, hV] at hr
  exact hr.frozenAt j

theorem Heap.len (h : Heap w base M V X) {t : Tag} {a : Option Addr} {n cap : Nat} (hV : V t = .slice a n cap) : (X t).length = n := by
  rcases (h.row t).2 with ⟨h1, h2⟩ | ⟨_, _, _, h1, _⟩
  · rw [hV] at h1; simp at h1; rw [h2, h1.2.1]
  · rw [hV] at h1; simp at h1; exact h1.2.1.symm

theorem Heap.alloc (h : Heap w base M V X) (O : Obj) : Heap (w.alloc O) base M V X :=
  ⟨fun t => (h.row t).alloc O, h.apart, fun b hb => ⟨by have := (h.off b hb).1; simp; omega, (h.off b hb).2⟩, by have := h.ge; simp; omega⟩
theorem Heap.drewN (h : Heap w base M V X) (n : Nat) : Heap (w.drewN n) base M V X := ⟨h.row, h.apart, h.off, h.ge⟩
theorem Heap.drew (h : Heap w base M V X) : Heap w.drew base M V X := ⟨h.row, h.apart, h.off, h.ge⟩

/-- One tag's row is written, or moves to a new block. -/
theorem Heap.put (h : Heap w base M V X) {w1 : World} (t : Tag) {row : Option Nat} (hg : w.grownBy w1 row) (hrow : row = none ∨ row = (V t).ownBlock) {v : Value} {n : Nat} {xs : List Value}
    (ho : w1.ownsRow base (ety t.1) 1 v n xs) (hlies : ∀ b, v.ownBlock = some b → (V t).ownBlock = some b ∨ w.heap.size ≤ b) : Heap w1 base M (upd V t v) (upd X t xs) := by
  have hn : n = xs.length := by have := ho.1; omega
  refine ⟨fun s => ?_, fun s s' b h1 h2 => ?_, fun b hb => ⟨?_, fun s => ?_⟩, Nat.le_trans h.ge hg.size⟩
  · by_cases hs : s = t
    · subst hs; rw [upd_same, upd_same, ← hn]; exact ho
    · rw [upd_other _ _ hs, upd_other _ _ hs]
      refine (h.row s).kept hg ?_
      rcases hrow with hr | hr
      · subst hr
        cases hq : (V s).ownBlock with
        | none => exact .inl rfl
        | some b => right; intro e; cases e
      · cases hq : (V s).ownBlock with
        | none => exact .inl rfl
        | some b => right; intro e; exact hs (h.apart s t b hq (by rw [← hr, ← e]))
  · by_cases hs : s = t
    · by_cases hs' : s' = t
      · rw [hs, hs']
      · subst hs
        rw [upd_same] at h1
        rw [upd_other _ _ hs'] at h2
        rcases hlies b h1 with h3 | h3
        · exact h.apart _ _ b h3 h2
        · have := ((h.row s').lt b h2).2; omega
    · by_cases hs' : s' = t
      · subst hs'
        rw [upd_same] at h2
        rw [upd_other _ _ hs] at h1
        rcases hlies b h2 with h3 | h3
        · exact h.apart _ _ b h1 h3
        · have := ((h.row s).lt b h1).2; omega
      · rw [upd_other _ _ hs] at h1
        rw [upd_other _ _ hs'] at h2
        exact h.apart _ _ b h1 h2
  · exact Nat.lt_of_lt_of_le (h.off b hb).1 hg.size
  · by_cases hs : s = t
    · subst hs
      rw [upd_same]
      intro e
      rcases hlies b e with h3 | h3
      · exact (h.off b hb).2 s h3
      · have := (h.off b hb).1; omega
    · rw [upd_other _ _ hs]; exact (h.off b hb).2 s

/-- A store into a tag's row. -/
theorem Heap.store (h : Heap w base M V X) {t : Tag} {g n cap : Nat} (hV : V t = .slice (some ⟨g, 0, none⟩) n cap) (j : Nat) (u : Value) : Heap (w.setCell ⟨g, j, none⟩ u) base M V (upd X t ((X t).set j u)) := by
  have hl := h.len hV
  have hr := h.row t
  rw [hl, hV] at hr
  have hs := hr.stored j u
  have := h.put t hs.2 (.inr (by rw [hV]; rfl)) hs.1 (fun b hb => .inl (by rw [hV]; exact hb))
  have e : upd V t (.slice (some ⟨g, 0, none⟩) n cap) = V := by
    funext s
    by_cases hs : s = t
    · subst hs; rw [upd_same, hV]
    · rw [upd_other _ _ hs]
  rw [e] at this
  exact this

/-- A new block of known cells becomes the tag's. -/
theorem Heap.new (h : Heap w base M V X) (t : Tag) (cs : Array Value) (k : Nat) (hk : cs.size = k) (hm : k ≤ 4096) : Heap (w.alloc (.cells cs (ety t.1))) base M (upd V t (.slice (some ⟨w.heap.size, 0, none⟩) k k)) (upd X t cs.toList) := by
  have ho := World.ownsRow_lit (e := ety t.1) (size := 1) w cs k h.ge (by unfold maxLen; omega) (by omega)
  exact h.put t (World.grownBy_alloc w _ none) (.inl rfl) ho (fun b hb => .inr (by cases hb; exact Nat.le_refl _))

/-- The map's block is written. -/
theorem Heap.mapped {b : Nat} (h : Heap w base (some b) V X) {w1 : World} (hg : w.grownBy w1 (some b)) : Heap w1 base (some b) V X :=
  ⟨fun t => (h.row t).kept hg (.inr ((h.off b rfl).2 t)), h.apart, fun b' hb => ⟨Nat.lt_of_lt_of_le (h.off b' hb).1 hg.size, (h.off b' hb).2⟩, Nat.le_trans h.ge hg.size⟩
/-- A new map. -/
theorem Heap.mapNew (h : Heap w base M V X) : Heap (w.alloc (.map #[] 0)) base (some w.heap.size) V X :=
  ⟨fun t => (h.row t).alloc _, h.apart, fun b hb => ⟨by cases hb; simp, fun t e => by cases hb; have := ((h.row t).lt _ e).2; omega⟩, by have := h.ge; simp; omega⟩

theorem Heap.ne (h : Heap w base M V X) {s t : Tag} (hst : s ≠ t) : (V s).ownBlock = none ∨ (V s).ownBlock ≠ (V t).ownBlock := by
  cases hq : (V s).ownBlock with
  | none => exact .inl rfl
  | some b => right; intro e; exact hst (h.apart s t b hq e.symm)
end Go.Proofs.Ybulkbhho
