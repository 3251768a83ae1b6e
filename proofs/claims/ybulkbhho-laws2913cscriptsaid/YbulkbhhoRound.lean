/-
  One choice more: what its two drawn statements do.
-/
import Derived.Test.YbulkbhhoBig
namespace Go.Proofs.Ybulkbhho
open Go.RowKit Go.Maps Go.WideMaps

variable {w : World} {base B : Nat} {M : Option Nat} {V : Tag → Value} {X : Tag → List Value} {m : Nat} {hd : Nat → ByteArray} {ln : Nat → Int} {al al2 : Nat → List Value} {ll ll2 : Nat → List Int} {pb : Nat → Nat}

theorem step_of (hd : Nat → ByteArray) (ln : Nat → Int) (s : ByteArray) (m : Nat) (line : Int) : ∃ k m' hd' ln', (fnd hd s m = some k ∧ m' = m ∧ hd' = hd ∧ ln' = ln) ∨ (fnd hd s m = none ∧ k = m ∧ m' = m + 1 ∧ hd' = updN hd m s ∧ ln' = updN ln m line) := by
  cases h : fnd hd s m with
  | some k => exact ⟨k, m, hd, ln, .inl ⟨rfl, rfl, rfl, rfl⟩⟩
  | none => exact ⟨m, m + 1, _, _, .inr ⟨rfl, rfl, rfl, rfl, rfl⟩⟩
theorem alts_row {w : World} {a : Option Addr} {n : Nat} {A : Nat → Value} (h : Alts w a n A) {xs : List Value} (hl : xs.length = n) (hx : ∀ t, t < n → xs[t]? = some (A t)) : ∀ u ∈ xs, AltOk w u := by
  intro u hu
  obtain ⟨i, hi, rfl⟩ := List.mem_iff_getElem.1 hu
  rcases h with h | ⟨b, off, _, _, hc⟩
  · omega
  · have h1 := hx i (by omega)
    rw [List.getElem?_eq_getElem hi] at h1
    have h2 := Option.some.inj h1
    rw [h2]
    exact (hc i (by omega)).2

/-- 'alts[k] = append(alts[k], x)'. -/
theorem AG.altStep (h : AG w base B M V X m hd ln al ll pb) (hM : Mod V X m hd ln al2 ll2) {k : Nat} (hk : k < m) {g4 d : Nat} (hV4 : V (4, 0) = .slice (some ⟨g4, 0, none⟩) m d) {O : Obj} {x : Value} {w1 : World} {g cp n : Nat}
    (hg : (w.alloc O).grownBy w1 (V (13, k)).ownBlock) (ho : w1.ownsRow base 40 1 (.slice (some ⟨g, 0, none⟩) n cp) n (X (13, k) ++ [x])) (hat : (V (13, k)).ownBlock = some g ∨ g = w.heap.size + 1) :
    w1.cell? ⟨g4, k, none⟩ = some (V (13, k)) ∧ w1.frozen? ⟨g4, k, none⟩ = false ∧
    ∃ V' X', AG (w1.setCell ⟨g4, k, none⟩ (.slice (some ⟨g, 0, none⟩) n cp)) base B M V' X' m hd ln al ll pb ∧ Mod V' X' m hd ln (updN al2 k (al2 k ++ [x])) ll2 ∧ (∀ t : Tag, t.1 ≠ 13 → t.1 ≠ 14 → V' t = V t) ∧ X' (7, 0) = X (7, 0) ∧
      Below base w (w1.setCell ⟨g4, k, none⟩ (.slice (some ⟨g, 0, none⟩) n cp)) := by
  obtain ⟨hA, hb⟩ := h.appended (13, k) (by simp [ofGram]) (v := .slice (some ⟨g, 0, none⟩) n cp) hg ho (by
    rcases hat with hq | hq
    · exact .inl hq.symm
    · right; rw [hq]; rfl)
  have hV4' : upd V (13, k) (.slice (some ⟨g, 0, none⟩) n cp) (4, 0) = .slice (some ⟨g4, 0, none⟩) m d := (upd_other _ _ (by simp)).trans hV4
  have hX4 : upd X (13, k) (X (13, k) ++ [x]) (4, 0) = X (4, 0) := upd_other _ _ (by simp)
  refine ⟨hA.heap.cell hV4' (by rw [hX4, hM.aX]; simp [hk]), hA.heap.frozen hV4' k, _, _, hA.store (t := (4, 0)) (by simp [ofGram]) hV4' k _, hM.alt hk _ x, fun t h1 _ => upd_other _ _ (by intro e; subst e; simp at h1), ?_, hb.setCell ?_ _⟩
  · rw [upd_other _ _ (by simp), upd_other _ _ (by simp)]
  · exact ((h.heap.row (4, 0)).lt g4 (by rw [hV4]; rfl)).1
/-- 'altLines[k] = append(altLines[k], x)'. -/
theorem AG.lineStep (h : AG w base B M V X m hd ln al ll pb) (hM : Mod V X m hd ln al2 ll2) {k : Nat} (hk : k < m) {g4 d : Nat} (hV4 : V (5, 0) = .slice (some ⟨g4, 0, none⟩) m d) {O : Obj} {x : Int} {w1 : World} {g cp n : Nat}
    (hg : (w.alloc O).grownBy w1 (V (14, k)).ownBlock) (ho : w1.ownsRow base 3 1 (.slice (some ⟨g, 0, none⟩) n cp) n (X (14, k) ++ [.int .i64 x])) (hat : (V (14, k)).ownBlock = some g ∨ g = w.heap.size + 1) :
    w1.cell? ⟨g4, k, none⟩ = some (V (14, k)) ∧ w1.frozen? ⟨g4, k, none⟩ = false ∧
    ∃ V' X', AG (w1.setCell ⟨g4, k, none⟩ (.slice (some ⟨g, 0, none⟩) n cp)) base B M V' X' m hd ln al ll pb ∧ Mod V' X' m hd ln al2 (updN ll2 k (ll2 k ++ [x])) ∧ (∀ t : Tag, t.1 ≠ 13 → t.1 ≠ 14 → V' t = V t) ∧ X' (7, 0) = X (7, 0) ∧
      Below base w (w1.setCell ⟨g4, k, none⟩ (.slice (some ⟨g, 0, none⟩) n cp)) := by
  obtain ⟨hA, hb⟩ := h.appended (14, k) (by simp [ofGram]) (v := .slice (some ⟨g, 0, none⟩) n cp) hg ho (by
    rcases hat with hq | hq
    · exact .inl hq.symm
    · right; rw [hq]; rfl)
  have hV4' : upd V (14, k) (.slice (some ⟨g, 0, none⟩) n cp) (5, 0) = .slice (some ⟨g4, 0, none⟩) m d := (upd_other _ _ (by simp)).trans hV4
  have hX4 : upd X (14, k) (X (14, k) ++ [.int .i64 x]) (5, 0) = X (5, 0) := upd_other _ _ (by simp)
  refine ⟨hA.heap.cell hV4' (by rw [hX4, hM.lX]; simp [hk]), hA.heap.frozen hV4' k, _, _, hA.store (t := (5, 0)) (by simp [ofGram]) hV4' k _, hM.line hk _ x, fun t _ h1 => upd_other _ _ (by intro e; subst e; simp at h1), ?_, hb.setCell ?_ _⟩
  · rw [upd_other _ _ (by simp), upd_other _ _ (by simp)]
  · exact ((h.heap.row (5, 0)).lt g4 (by rw [hV4]; rfl)).1
end Go.Proofs.Ybulkbhho
