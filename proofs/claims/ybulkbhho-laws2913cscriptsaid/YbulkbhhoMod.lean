/-
  What the law's own steps do to its model, beside the grammar.
-/
import Derived.Test.YbulkbhhoSmall
namespace Go.Proofs.Ybulkbhho
open Go.RowKit Go.Maps Go.WideMaps

/-- The grammar's own kinds of tags. -/
def ofGram (n : Nat) : Prop := n = 0 ∨ n = 1 ∨ n = 10 ∨ n = 11 ∨ n = 12

variable {w : World} {base B : Nat} {M : Option Nat} {V V1 : Tag → Value} {X X1 : Tag → List Value} {m : Nat} {hd : Nat → ByteArray} {ln : Nat → Int} {al : Nat → List Value} {ll : Nat → List Int} {pb : Nat → Nat}

theorem Gram.congr (h : Gram B M V X m hd ln al ll pb) (hs : ∀ t : Tag, ofGram t.1 → V1 t = V t ∧ X1 t = X t) : Gram B M V1 X1 m hd ln al ll pb := by
  have s0 := hs (0, 0) (by simp [ofGram])
  have s1 := hs (1, 0) (by simp [ofGram])
  have s10 := fun i => hs (10, i) (by simp [ofGram])
  have s11 := fun i => hs (11, i) (by simp [ofGram])
  have s12 := fun i => hs (12, i) (by simp [ofGram])
  refine ⟨?_, ?_, ?_, ?_, ?_, ?_, ?_, ?_⟩
  · rw [s0.1]; exact h.gV
  · rw [s0.2, s1.1]; exact h.gX
  · rw [s1.2]; exact h.rX
  · intro i hi; rw [(s10 i).1]; exact h.bV i hi
  · intro i hi; rw [(s10 i).2, (s11 i).1, (s12 i).1]; exact h.bX i hi
  · intro i; rw [(s11 i).2]; exact h.aX i
  · intro i; rw [(s12 i).2]; exact h.lX i
  · intro i hi; rw [(s11 i).1, (s12 i).1]; exact h.nil i hi

theorem AG.put (h : AG w base B M V X m hd ln al ll pb) {w1 : World} (t : Tag) (ht : ¬ ofGram t.1) {row : Option Nat} (hg : w.grownBy w1 row) (hrow : row = none ∨ row = (V t).ownBlock) {v : Value} {n : Nat} {xs : List Value}
    (ho : w1.ownsRow base (ety t.1) 1 v n xs) (hlies : ∀ b, v.ownBlock = some b → (V t).ownBlock = some b ∨ w.heap.size ≤ b) : AG w1 base B M (upd V t v) (upd X t xs) m hd ln al ll pb := by
  refine ⟨h.heap.put t hg hrow ho hlies, h.gram.congr fun s hs => ?_, ?_⟩
  · have hst : s ≠ t := by intro e; subst e; exact ht hs
    exact ⟨upd_other _ _ hst, upd_other _ _ hst⟩
  · rcases h.keys with hk | ⟨mb, e1, e2, e3⟩
    · exact .inl hk
    · refine .inr ⟨mb, e1, e2, e3.kept hg ?_⟩
      have hoff := (h.heap.off mb e1).2 t
      rcases hrow with hr | hr
      · rw [hr]; simp
      · rw [hr]; exact fun e => hoff e.symm
theorem AG.store (h : AG w base B M V X m hd ln al ll pb) {t : Tag} (ht : ¬ ofGram t.1) {g n cap : Nat} (hV : V t = .slice (some ⟨g, 0, none⟩) n cap) (j : Nat) (u : Value) : AG (w.setCell ⟨g, j, none⟩ u) base B M V (upd X t ((X t).set j u)) m hd ln al ll pb := by
  refine ⟨h.heap.store hV j u, h.gram.congr fun s hs => ?_, ?_⟩
  · have hst : s ≠ t := by intro e; subst e; exact ht hs
    exact ⟨rfl, upd_other _ _ hst⟩
  · rcases h.keys with hk | ⟨mb, e1, e2, e3⟩
    · exact .inl hk
    · refine .inr ⟨mb, e1, e2, e3.setCell ?_ _⟩
      intro e
      exact (h.heap.off mb e1).2 t (by rw [hV, e]; rfl)
theorem AG.new (h : AG w base B M V X m hd ln al ll pb) (t : Tag) (ht : ¬ ofGram t.1) (cs : Array Value) (k : Nat) (hk : cs.size = k) (hm : k ≤ 4096) :
    AG (w.alloc (.cells cs (ety t.1))) base B M (upd V t (.slice (some ⟨w.heap.size, 0, none⟩) k k)) (upd X t cs.toList) m hd ln al ll pb := by
  have ho := World.ownsRow_lit (e := ety t.1) (size := 1) w cs k h.heap.ge (by unfold maxLen; omega) (by omega)
  exact h.put t ht (World.grownBy_alloc w _ none) (.inl rfl) ho (fun b hb => .inr (by cases hb; exact Nat.le_refl _))
theorem AG.drewN (h : AG w base B M V X m hd ln al ll pb) (n : Nat) : AG (w.drewN n) base B M V X m hd ln al ll pb := ⟨h.heap.drewN n, h.gram, h.keys⟩
theorem AG.drew (h : AG w base B M V X m hd ln al ll pb) : AG w.drew base B M V X m hd ln al ll pb := ⟨h.heap.drew, h.gram, h.keys⟩
/-- An append by its law, in one word: the value lies where it lay, or in a new block. -/
theorem AG.appended (h : AG w base B M V X m hd ln al ll pb) (t : Tag) (ht : ¬ ofGram t.1) {O : Obj} {w1 : World} {v : Value} {n : Nat} {xs : List Value} (hg : (w.alloc O).grownBy w1 (V t).ownBlock) (ho : w1.ownsRow base (ety t.1) 1 v n xs)
    (hat : v.ownBlock = (V t).ownBlock ∨ v.ownBlock = some (w.heap.size + 1)) : AG w1 base B M (upd V t v) (upd X t xs) m hd ln al ll pb ∧ Below base w w1 := by
  have hge := h.heap.ge
  refine ⟨(h.alloc O).put t ht hg (.inr rfl) ho (fun b hb => ?_), ((Below.refl base w).alloc hge O).grown hg (by simp; omega) (fun j hj => ((h.heap.row t).lt j hj).1)⟩
  rcases hat with hq | hq
  · left; rw [← hq]; exact hb
  · right; rw [hq] at hb; cases hb; simp

/-! ### The model -/
theorem Mod.congr (h : Mod V X m hd ln al ll) (hs : ∀ t : Tag, (t.1 = 2 ∨ t.1 = 3 ∨ t.1 = 4 ∨ t.1 = 5 ∨ t.1 = 13 ∨ t.1 = 14) → V1 t = V t ∧ X1 t = X t) : Mod V1 X1 m hd ln al ll := by
  have s2 := hs (2, 0) (by simp)
  have s3 := hs (3, 0) (by simp)
  have s4 := hs (4, 0) (by simp)
  have s5 := hs (5, 0) (by simp)
  have s13 := fun i => hs (13, i) (by simp)
  have s14 := fun i => hs (14, i) (by simp)
  refine ⟨?_, ?_, ?_, ?_, ?_, ?_, ?_⟩
  · rw [s2.2]; exact h.hX
  · rw [s3.2]; exact h.nX
  · rw [s4.2, h.aX]; exact List.map_congr_left fun i _ => ((s13 i).1).symm
  · rw [s5.2, h.lX]; exact List.map_congr_left fun i _ => ((s14 i).1).symm
  · intro i; rw [(s13 i).2]; exact h.a2 i
  · intro i; rw [(s14 i).2]; exact h.l2 i
  · intro i hi; rw [(s13 i).1, (s14 i).1]; exact h.nil i hi
theorem Mod.keep (h : Mod V X m hd ln al ll) (hk : Keep V X V1 X1) : Mod V1 X1 m hd ln al ll :=
  h.congr fun t ht => hk t (by omega) (by omega) (by omega) (by omega) (by omega)

/-- A new head: four appends. -/
theorem Mod.added (h : Mod V X m hd ln al ll) (s : ByteArray) (line : Int) (v2 v3 v4 v5 : Value) :
    Mod (upd (upd (upd (upd V (2, 0) v2) (3, 0) v3) (4, 0) v4) (5, 0) v5)
      (upd (upd (upd (upd X (2, 0) (X (2, 0) ++ [.string s])) (3, 0) (X (3, 0) ++ [.int .i64 line])) (4, 0) (X (4, 0) ++ [.slice none 0 0])) (5, 0) (X (5, 0) ++ [.slice none 0 0]))
      (m + 1) (updN hd m s) (updN ln m line) al ll := by
  have o13 : ∀ i, upd (upd (upd (upd V (2, 0) v2) (3, 0) v3) (4, 0) v4) (5, 0) v5 (13, i) = V (13, i) := fun i => by simp [upd]
  have o14 : ∀ i, upd (upd (upd (upd V (2, 0) v2) (3, 0) v3) (4, 0) v4) (5, 0) v5 (14, i) = V (14, i) := fun i => by simp [upd]
  refine ⟨?_, ?_, ?_, ?_, ?_, ?_, ?_⟩
  · rw [upd_other _ _ (by simp), upd_other _ _ (by simp), upd_other _ _ (by simp), upd_same, h.hX, List.range_succ, List.map_append]
    congr 1
    · refine List.map_congr_left fun i hi => ?_
      rw [updN_other _ _ (by have := List.mem_range.1 hi; omega)]
    · simp [updN]
  · rw [upd_other _ _ (by simp), upd_other _ _ (by simp), upd_same, h.nX, List.range_succ, List.map_append]
    congr 1
    · refine List.map_congr_left fun i hi => ?_
      rw [updN_other _ _ (by have := List.mem_range.1 hi; omega)]
    · simp [updN]
  · rw [upd_other _ _ (by simp), upd_same, h.aX, List.range_succ, List.map_append]
    congr 1
    simp only [List.map_cons, List.map_nil]
    rw [o13, (h.nil m (Nat.le_refl _)).1]
  · rw [upd_same, h.lX, List.range_succ, List.map_append]
    congr 1
    simp only [List.map_cons, List.map_nil]
    rw [o14, (h.nil m (Nat.le_refl _)).2]
  · intro i; simp only [upd]; simpa using h.a2 i
  · intro i; simp only [upd]; simpa using h.l2 i
  · intro i hi; rw [o13, o14]; exact h.nil i (by omega)

theorem set_map_range {α : Type} (f : Nat → α) (m k : Nat) (v : α) : ((List.range m).map f).set k v = (List.range m).map fun i => if i = k then v else f i := by
  apply List.ext_getElem?
  intro i
  rw [List.getElem?_set]
  by_cases h : k = i
  · subst h
    by_cases hk : k < m
    · simp [hk]
    · simp [hk]
  · have h' : ¬ i = k := fun e => h e.symm
    by_cases hi : i < m
    · simp [h, hi, h']
    · simp [h, hi]

/-- 'alts[k] = append(alts[k], x)'. -/
theorem Mod.alt (h : Mod V X m hd ln al ll) {k : Nat} (hk : k < m) (v x : Value) :
    Mod (upd V (13, k) v) (upd (upd X (13, k) (X (13, k) ++ [x])) (4, 0) ((upd X (13, k) (X (13, k) ++ [x]) (4, 0)).set k v)) m hd ln (updN al k (al k ++ [x])) ll := by
  have e4 : upd X (13, k) (X (13, k) ++ [x]) (4, 0) = X (4, 0) := upd_other _ _ (by simp)
  refine ⟨?_, ?_, ?_, ?_, ?_, ?_, ?_⟩
  · rw [upd_other _ _ (by simp), upd_other _ _ (by simp)]; exact h.hX
  · rw [upd_other _ _ (by simp), upd_other _ _ (by simp)]; exact h.nX
  · rw [upd_same, e4, h.aX, set_map_range]
    refine List.map_congr_left fun i _ => ?_
    by_cases hi : i = k
    · subst hi; simp [upd]
    · simp [upd, hi]
  · rw [upd_other _ _ (by simp), upd_other _ _ (by simp), h.lX]
    exact List.map_congr_left fun i _ => by simp [upd]
  · intro i
    rw [upd_other _ _ (by simp)]
    by_cases hi : i = k
    · subst hi; rw [upd_same, updN_same, h.a2]
    · rw [upd_other _ _ (by simp [hi]), updN_other _ _ hi]; exact h.a2 i
  · intro i
    rw [upd_other _ _ (by simp), upd_other _ _ (by simp)]; exact h.l2 i
  · intro i hi
    have hik : i ≠ k := by omega
    rw [upd_other _ _ (by simp [hik]), upd_other _ _ (by simp)]; exact h.nil i hi
/-- 'altLines[k] = append(altLines[k], line)'. -/
theorem Mod.line (h : Mod V X m hd ln al ll) {k : Nat} (hk : k < m) (v : Value) (x : Int) :
    Mod (upd V (14, k) v) (upd (upd X (14, k) (X (14, k) ++ [.int .i64 x])) (5, 0) ((upd X (14, k) (X (14, k) ++ [.int .i64 x]) (5, 0)).set k v)) m hd ln al (updN ll k (ll k ++ [x])) := by
  have e5 : upd X (14, k) (X (14, k) ++ [.int .i64 x]) (5, 0) = X (5, 0) := upd_other _ _ (by simp)
  refine ⟨?_, ?_, ?_, ?_, ?_, ?_, ?_⟩
  · rw [upd_other _ _ (by simp), upd_other _ _ (by simp)]; exact h.hX
  · rw [upd_other _ _ (by simp), upd_other _ _ (by simp)]; exact h.nX
  · rw [upd_other _ _ (by simp), upd_other _ _ (by simp), h.aX]
    exact List.map_congr_left fun i _ => by simp [upd]
  · rw [upd_same, e5, h.lX, set_map_range]
    refine List.map_congr_left fun i _ => ?_
    by_cases hi : i = k
    · subst hi; simp [upd]
    · simp [upd, hi]
  · intro i
    rw [upd_other _ _ (by simp), upd_other _ _ (by simp)]; exact h.a2 i
  · intro i
    rw [upd_other _ _ (by simp)]
    by_cases hi : i = k
    · subst hi; rw [upd_same, updN_same, h.l2]; simp
    · rw [upd_other _ _ (by simp [hi]), updN_other _ _ hi]; exact h.l2 i
  · intro i hi
    have hik : i ≠ k := by omega
    have a1 : upd V (14, k) v (13, i) = V (13, i) := upd_other _ _ (by simp)
    rw [a1, upd_other _ _ (by simp [hik])]; exact h.nil i hi

theorem Keys.len {M : Option Nat} (h : Keys w base M m hd) (hD : Distinct hd m) (ty : TypeId) : (Builtin.len_ #[36] ty #[.map M]).run Yba.prog w = .ok (.int .i64 m) w := by
  rcases h with ⟨rfl, rfl⟩ | ⟨mb, rfl, _, hown⟩
  · exact Maps.len_nil Yba.underlying36 ty
  · rw [hown.len Yba.underlying36 ty, dat_size hD]

theorem Distinct.add (hD : Distinct hd m) {s : ByteArray} (hf : fnd hd s m = none) : Distinct (updN hd m s) (m + 1) := by
  have hno := fnd_none hf
  intro i j hi hj hs
  by_cases h1 : i = m
  · by_cases h2 : j = m
    · omega
    · rw [h1, updN_same, updN_other _ _ h2] at hs
      have := hno j (by omega)
      have e : same (hd j) s = true := by unfold same at *; rw [beq_iff_eq] at *; exact hs.symm
      rw [e] at this; cases this
  · by_cases h2 : j = m
    · rw [h2, updN_same, updN_other _ _ h1] at hs
      have := hno i (by omega)
      rw [hs] at this; cases this
    · rw [updN_other _ _ h1, updN_other _ _ h2] at hs
      exact hD i j (by omega) (by omega) hs
end Go.Proofs.Ybulkbhho
