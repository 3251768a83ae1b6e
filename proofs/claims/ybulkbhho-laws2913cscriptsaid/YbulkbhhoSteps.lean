/-
  What each step of Grammar.Add does to the grammar in memory.
-/
import Derived.Test.YbulkbhhoGram
namespace Go.Proofs.Ybulkbhho
open Go.RowKit Go.Maps Go.WideMaps

structure AG (w : World) (base B : Nat) (M : Option Nat) (V : Tag → Value) (X : Tag → List Value) (m : Nat) (hd : Nat → ByteArray) (ln : Nat → Int) (al : Nat → List Value) (ll : Nat → List Int) (pb : Nat → Nat) : Prop where
  heap : Heap w base M V X
  gram : Gram B M V X m hd ln al ll pb
  keys : Keys w base M m hd

/-- The tags that Add leaves alone. -/
def Keep (V : Tag → Value) (X : Tag → List Value) (V' : Tag → Value) (X' : Tag → List Value) : Prop :=
  ∀ t : Tag, t.1 ≠ 0 → t.1 ≠ 1 → t.1 ≠ 10 → t.1 ≠ 11 → t.1 ≠ 12 → V' t = V t ∧ X' t = X t
theorem Keep.refl (V : Tag → Value) (X : Tag → List Value) : Keep V X V X := fun _ _ _ _ _ _ => ⟨rfl, rfl⟩
theorem Keep.trans {V V' V'' : Tag → Value} {X X' X'' : Tag → List Value} (h : Keep V X V' X') (k : Keep V' X' V'' X'') : Keep V X V'' X'' :=
  fun t a b c d e => ⟨(k t a b c d e).1.trans (h t a b c d e).1, (k t a b c d e).2.trans (h t a b c d e).2⟩
theorem Keep.updV {V : Tag → Value} {X : Tag → List Value} (t : Tag) (v : Value) (xs : List Value) (ht : t.1 = 0 ∨ t.1 = 1 ∨ t.1 = 10 ∨ t.1 = 11 ∨ t.1 = 12) : Keep V X (upd V t v) (upd X t xs) := by
  intro s a b c d e
  have hst : s ≠ t := by intro h; subst h; rcases ht with h | h | h | h | h <;> contradiction
  exact ⟨upd_other _ _ hst, upd_other _ _ hst⟩
theorem Keep.updX {V : Tag → Value} {X : Tag → List Value} (t : Tag) (xs : List Value) (ht : t.1 = 0 ∨ t.1 = 1 ∨ t.1 = 10 ∨ t.1 = 11 ∨ t.1 = 12) : Keep V X V (upd X t xs) := by
  intro s a b c d e
  have hst : s ≠ t := by intro h; subst h; rcases ht with h | h | h | h | h <;> contradiction
  exact ⟨rfl, upd_other _ _ hst⟩

variable {w : World} {base B : Nat} {M : Option Nat} {V : Tag → Value} {X : Tag → List Value} {m : Nat} {hd : Nat → ByteArray} {ln : Nat → Int} {al : Nat → List Value} {ll : Nat → List Int} {pb : Nat → Nat}

theorem AG.baseB (h : AG w base B M V X m hd ln al ll pb) : base ≤ B ∧ B < w.heap.size := (h.heap.row (0, 0)).lt B (by rw [h.gram.gV]; rfl)
theorem AG.basepb (h : AG w base B M V X m hd ln al ll pb) {k : Nat} (hk : k < m) : base ≤ pb k ∧ pb k < w.heap.size := (h.heap.row (10, k)).lt (pb k) (by rw [h.gram.bV k hk]; rfl)

/-- g's cells. -/
theorem AG.gcells (h : AG w base B M V X m hd ln al ll pb) :
    w.cell? ⟨B, 0, none⟩ = some (V (1, 0)) ∧ w.cell? ⟨B, 1, none⟩ = some (.map M) ∧ w.cell? ⟨B, 2, none⟩ = some (.pointer none) ∧ w.frozen? ⟨B, 0, none⟩ = false ∧ w.frozen? ⟨B, 1, none⟩ = false :=
  ⟨h.heap.cell h.gram.gV (by rw [h.gram.gX]; rfl), h.heap.cell h.gram.gV (by rw [h.gram.gX]; rfl), h.heap.cell h.gram.gV (by rw [h.gram.gX]; rfl), h.heap.frozen h.gram.gV 0, h.heap.frozen h.gram.gV 1⟩
/-- A rule's cells. -/
theorem AG.rcells (h : AG w base B M V X m hd ln al ll pb) {k : Nat} (hk : k < m) :
    w.cell? ⟨pb k, 0, none⟩ = some (.string (hd k)) ∧ w.cell? ⟨pb k, 1, none⟩ = some (V (11, k)) ∧ w.cell? ⟨pb k, 2, none⟩ = some (.int .i64 (ln k)) ∧ w.cell? ⟨pb k, 3, none⟩ = some (V (12, k)) ∧ w.frozen? ⟨pb k, 1, none⟩ = false ∧ w.frozen? ⟨pb k, 3, none⟩ = false :=
  ⟨h.heap.cell (h.gram.bV k hk) (by rw [h.gram.bX k hk]; rfl), h.heap.cell (h.gram.bV k hk) (by rw [h.gram.bX k hk]; rfl), h.heap.cell (h.gram.bV k hk) (by rw [h.gram.bX k hk]; rfl), h.heap.cell (h.gram.bV k hk) (by rw [h.gram.bX k hk]; rfl),
    h.heap.frozen (h.gram.bV k hk) 1, h.heap.frozen (h.gram.bV k hk) 3⟩
/-- The rules' slice. -/
theorem AG.rules (h : AG w base B M V X m hd ln al ll pb) : ∃ a cap, V (1, 0) = .slice a m cap ∧ ∀ k, k < m → ∃ g, a = some ⟨g, 0, none⟩ ∧ w.cell? ⟨g, k, none⟩ = some (.pointer (some ⟨pb k, 0, none⟩)) := by
  have hl : (X (1, 0)).length = m := by rw [h.gram.rX]; simp
  obtain ⟨a, cap, hV, hn, hs⟩ := h.heap.shape (1, 0)
  rw [hl] at hV hn
  refine ⟨a, cap, hV, fun k hk => ?_⟩
  cases a with
  | none => have := hn rfl; omega
  | some x =>
    obtain ⟨g, rfl⟩ := hs x rfl
    exact ⟨g, rfl, h.heap.cell hV (by rw [h.gram.rX]; simp [hk])⟩

theorem AG.alloc (h : AG w base B M V X m hd ln al ll pb) (O : Obj) : AG (w.alloc O) base B M V X m hd ln al ll pb := by
  refine ⟨h.heap.alloc O, h.gram, ?_⟩
  rcases h.keys with hk | ⟨mb, h1, h2, h3⟩
  · exact .inl hk
  · exact .inr ⟨mb, h1, h2, h3.alloc O⟩

/-- 'g.byHead = make(map[string]int)'. -/
theorem AG.mapMade (h : AG w base B none V X m hd ln al ll pb) :
    AG ((w.alloc (.map #[] 0)).setCell ⟨B, 1, none⟩ (.map (some w.heap.size))) base B (some w.heap.size) V (upd X (0, 0) [V (1, 0), .map (some w.heap.size), .pointer none]) m hd ln al ll pb := by
  have hB := h.baseB
  have hm : m = 0 := by
    rcases h.keys with ⟨_, h1⟩ | ⟨mb, h1, _⟩
    · exact h1
    · cases h1
  have hh := (h.heap.mapNew).store h.gram.gV 1 (.map (some w.heap.size))
  rw [h.gram.gX] at hh
  refine ⟨hh, ⟨h.gram.gV, by simp [upd], by simp [upd, h.gram.rX], h.gram.bV, fun i hi => by simp [upd, h.gram.bX i hi], fun i => by simp [upd, h.gram.aX], fun i => by simp [upd, h.gram.lX], h.gram.nil⟩, ?_⟩
  refine .inr ⟨w.heap.size, rfl, h.heap.ge, ?_⟩
  subst hm
  exact (World.ownsMap_made w _ _ _).setCell (by simp; omega) _

/-- 'g.rules = append(g.rules, &Rule{..}); g.byHead[head] = n'. -/
theorem AG.ruleMade {mb : Nat} (h : AG w base B (some mb) V X m hd ln al ll pb) {s : ByteArray} {line : Int} (hs : s.size ≤ maxLen) (hm : m ≤ 4096) {W3 : World} {v : Value} {n : Nat}
    (hg : ((w.alloc (.cells #[.string s, .slice none 0 0, .int .i64 line, .slice none 0 0] 51)).alloc (.cells #[.pointer (some ⟨w.heap.size, 0, none⟩)] 49)).grownBy W3 (V (1, 0)).ownBlock)
    (ho : W3.ownsRow base 49 1 v n (X (1, 0) ++ [.pointer (some ⟨w.heap.size, 0, none⟩)])) (hat : v.ownBlock = (V (1, 0)).ownBlock ∨ v.ownBlock = some (w.heap.size + 1 + 1)) :
    W3.cell? ⟨B, 0, none⟩ = some (V (1, 0)) ∧ W3.cell? ⟨B, 1, none⟩ = some (.map (some mb)) ∧ W3.frozen? ⟨B, 0, none⟩ = false ∧ (W3.setCell ⟨B, 0, none⟩ v).cell? ⟨B, 1, none⟩ = some (.map (some mb)) ∧
    ∃ W5, (Instr.mapUpdate 36 (.map (some mb)) (.string s) (.int .i64 m)).run Yba.prog (W3.setCell ⟨B, 0, none⟩ v) = .ok () W5 ∧
      ∃ V' X', AG W5 base B (some mb) V' X' (m + 1) (updN hd m s) (updN ln m line) al ll (updN pb m w.heap.size) ∧ Keep V X V' X' ∧ Below base w W5 := by
  have hB := h.baseB
  have h1 := h.heap.new (10, m) #[.string s, .slice none 0 0, .int .i64 line, .slice none 0 0] 4 rfl (by omega)
  have h2 := h1.alloc (.cells #[.pointer (some ⟨w.heap.size, 0, none⟩)] 49)
  have e1 : upd V (10, m) (.slice (some ⟨w.heap.size, 0, none⟩) 4 4) (1, 0) = V (1, 0) := upd_other _ _ (by simp)
  have h3 := h2.put (1, 0) hg (.inr (by rw [e1])) ho (fun b hb => by
    rcases hat with hq | hq
    · left; rw [e1, ← hq]; exact hb
    · right; rw [hq] at hb; cases hb; simp)
  have gV3 : upd (upd V (10, m) (.slice (some ⟨w.heap.size, 0, none⟩) 4 4)) (1, 0) v (0, 0) = .slice (some ⟨B, 0, none⟩) 3 3 := by rw [upd_other _ _ (by simp), upd_other _ _ (by simp)]; exact h.gram.gV
  have gX3 : upd (upd X (10, m) [.string s, .slice none 0 0, .int .i64 line, .slice none 0 0]) (1, 0) (X (1, 0) ++ [.pointer (some ⟨w.heap.size, 0, none⟩)]) (0, 0) = [V (1, 0), .map (some mb), .pointer none] := by
    rw [upd_other _ _ (by simp), upd_other _ _ (by simp)]; exact h.gram.gX
  have h4 := h3.store gV3 0 v
  have c40 : W3.cell? ⟨B, 0, none⟩ = some (V (1, 0)) := h3.cell gV3 (by rw [show (_ : List Value) = _ from gX3]; rfl)
  have c41 : W3.cell? ⟨B, 1, none⟩ = some (.map (some mb)) := h3.cell gV3 (by rw [show (_ : List Value) = _ from gX3]; rfl)
  have c51 : (W3.setCell ⟨B, 0, none⟩ v).cell? ⟨B, 1, none⟩ = some (.map (some mb)) := h4.cell gV3 (by rw [upd_same, show (_ : List Value) = _ from gX3]; rfl)
  obtain ⟨mb', hmb, hbm, hown⟩ : ∃ mb', some mb = some mb' ∧ base ≤ mb' ∧ w.ownsMap Yba.prog 9 (plainElem Yba.prog 3) mb' m (dat hd m) := by
    rcases h.keys with ⟨hk, _⟩ | hk
    · cases hk
    · exact hk
  cases hmb
  have hmoff := h.heap.off mb rfl
  have hBm : mb ≠ B := by intro e; subst e; exact hmoff.2 (0, 0) (by rw [h.gram.gV]; rfl)
  have hown4 : (W3.setCell ⟨B, 0, none⟩ v).ownsMap Yba.prog 9 (plainElem Yba.prog 3) mb m (dat hd m) :=
    (((hown.alloc _).alloc _).kept hg (fun e => hmoff.2 (1, 0) e.symm)).setCell hBm _
  obtain ⟨W5, hrun, hown5, hg5⟩ := hown4.update law9 Yba.underlying36 (by unfold maxLen; omega) (keyOf_string_mk Yba.underlying9 hs) (plainElem_int Yba.underlying3 (show (Lit.int .i64 ((m : Nat) : Int)).wf = true from WalkArith.wf_i64 (by omega)))
  refine ⟨c40, c41, h3.frozen gV3 0, c51, W5, hrun, _, _, ⟨h4.mapped hg5, ⟨?_, ?_, ?_, ?_, ?_, ?_, ?_, ?_⟩, ?_⟩, ?_, ?_⟩
  · exact gV3
  · rw [upd_same, show (_ : List Value) = _ from gX3, upd_same]; rfl
  · rw [upd_other _ _ (by simp), upd_same, h.gram.rX, List.range_succ, List.map_append]
    congr 1
    · refine List.map_congr_left fun i hi => ?_
      rw [updN_other _ _ (by have := List.mem_range.1 hi; omega)]
    · simp [updN]
  · intro i hi
    rw [upd_other _ _ (by simp)]
    by_cases hmi : i = m
    · subst hmi; rw [upd_same, updN_same]
    · rw [upd_other _ _ (by simp [hmi]), updN_other _ _ hmi]; exact h.gram.bV i (by omega)
  · intro i hi
    have a1 : upd (upd V (10, m) (.slice (some ⟨w.heap.size, 0, none⟩) 4 4)) (1, 0) v (11, i) = V (11, i) := by rw [upd_other _ _ (by simp), upd_other _ _ (by simp)]
    have a2 : upd (upd V (10, m) (.slice (some ⟨w.heap.size, 0, none⟩) 4 4)) (1, 0) v (12, i) = V (12, i) := by rw [upd_other _ _ (by simp), upd_other _ _ (by simp)]
    rw [a1, a2, upd_other _ _ (by simp), upd_other _ _ (by simp)]
    by_cases hmi : i = m
    · subst hmi
      rw [upd_same, updN_same, updN_same, (h.gram.nil i (Nat.le_refl _)).1, (h.gram.nil i (Nat.le_refl _)).2]
    · rw [upd_other _ _ (by simp [hmi]), updN_other _ _ hmi, updN_other _ _ hmi]; exact h.gram.bX i (by omega)
  · intro i
    rw [upd_other _ _ (by simp), upd_other _ _ (by simp), upd_other _ _ (by simp)]; exact h.gram.aX i
  · intro i
    rw [upd_other _ _ (by simp), upd_other _ _ (by simp), upd_other _ _ (by simp)]; exact h.gram.lX i
  · intro i hi
    rw [upd_other _ _ (by simp), upd_other _ _ (by simp), upd_other _ _ (by simp), upd_other _ _ (by simp)]; exact h.gram.nil i (by omega)
  · refine .inr ⟨mb, rfl, hbm, ?_⟩
    have e : dat (updN hd m s) (m + 1) = (dat hd m).put (key s) (.lit (.int .i64 m)) := by
      show (dat (updN hd m s) m).put (key (updN hd m s m)) (.lit (.int .i64 m)) = _
      rw [updN_same, dat_congr (hd' := hd) (fun i hi => updN_other _ _ (by omega))]
    rw [e]
    exact hown5
  · exact ((Keep.updV (10, m) _ _ (by simp)).trans (Keep.updV (1, 0) _ _ (by simp))).trans (Keep.updX (0, 0) _ (by simp))
  · have hge := h.heap.ge
    have b1 : Below base w W3 := (((Below.refl base w).alloc hge _).alloc (by simp; omega) _).grown hg (by simp; omega) (fun j hj => ((h.heap.row (1, 0)).lt j hj).1)
    have b2 : Below base w (W3.setCell ⟨B, 0, none⟩ v) := b1.setCell hB.1 _
    exact b2.grown hg5 (Nat.le_trans hge b2.size) (fun j hj => by cases hj; exact hbm)

/-- 'r.Alts = append(r.Alts, alts...)'. -/
theorem AG.altsMade (h : AG w base B M V X m hd ln al ll pb) {k : Nat} (hk : k < m) {W1 : World} {v : Value} {n : Nat} {vs : List Value}
    (hg : w.grownBy W1 (V (11, k)).ownBlock) (ho : W1.ownsRow base 46 1 v n (X (11, k) ++ vs)) (hat : v.ownBlock = (V (11, k)).ownBlock ∨ v.ownBlock = some w.heap.size) :
    W1.cell? ⟨pb k, 1, none⟩ = some (V (11, k)) ∧ W1.frozen? ⟨pb k, 1, none⟩ = false ∧
    ∃ V' X', AG (W1.setCell ⟨pb k, 1, none⟩ v) base B M V' X' m hd ln (updN al k (al k ++ vs)) ll pb ∧ Keep V X V' X' ∧ Below base w (W1.setCell ⟨pb k, 1, none⟩ v) := by
  have hp := h.basepb hk
  have h1 := h.heap.put (11, k) hg (.inr rfl) ho (fun b hb => by
    rcases hat with hq | hq
    · left; rw [← hq]; exact hb
    · right; rw [hq] at hb; cases hb; exact Nat.le_refl _)
  have bV1 : upd V (11, k) v (10, k) = .slice (some ⟨pb k, 0, none⟩) 4 4 := by rw [upd_other _ _ (by simp)]; exact h.gram.bV k hk
  have bX1 : upd X (11, k) (X (11, k) ++ vs) (10, k) = [.string (hd k), V (11, k), .int .i64 (ln k), V (12, k)] := by rw [upd_other _ _ (by simp)]; exact h.gram.bX k hk
  have h2 := h1.store bV1 1 v
  refine ⟨h1.cell bV1 (by rw [bX1]; rfl), h1.frozen bV1 1, _, _, ⟨h2, ⟨?_, ?_, ?_, ?_, ?_, ?_, ?_, ?_⟩, ?_⟩, ?_, ?_⟩
  · rw [upd_other _ _ (by simp)]; exact h.gram.gV
  · rw [upd_other _ _ (by simp), upd_other _ _ (by simp), upd_other _ _ (by simp)]; exact h.gram.gX
  · rw [upd_other _ _ (by simp), upd_other _ _ (by simp)]; exact h.gram.rX
  · intro i hi; rw [upd_other _ _ (by simp)]; exact h.gram.bV i hi
  · intro i hi
    have a2 : upd V (11, k) v (12, i) = V (12, i) := upd_other _ _ (by simp)
    rw [a2]
    by_cases hik : i = k
    · subst hik
      rw [upd_same, bX1, upd_same]
      rfl
    · rw [upd_other (s := (10, i)) (t := (10, k)) _ _ (by simp [hik]), upd_other (s := (10, i)) (t := (11, k)) _ _ (by simp), upd_other (s := (11, i)) (t := (11, k)) _ _ (by simp [hik])]
      exact h.gram.bX i hi
  · intro i
    rw [upd_other _ _ (by simp)]
    by_cases hik : i = k
    · subst hik; rw [upd_same, updN_same, h.gram.aX]
    · rw [upd_other _ _ (by simp [hik]), updN_other _ _ hik]; exact h.gram.aX i
  · intro i
    rw [upd_other _ _ (by simp), upd_other _ _ (by simp)]; exact h.gram.lX i
  · intro i hi
    have hik : i ≠ k := by omega
    rw [upd_other _ _ (by simp [hik]), upd_other _ _ (by simp)]; exact h.gram.nil i hi
  · rcases h.keys with hk' | ⟨mb, e1, e2, e3⟩
    · exact .inl hk'
    · have hoff := h.heap.off mb e1
      refine .inr ⟨mb, e1, e2, (e3.kept hg (fun e => hoff.2 (11, k) e.symm)).setCell ?_ _⟩
      intro e
      exact hoff.2 (10, k) (by rw [h.gram.bV k hk, e]; rfl)
  · exact (Keep.updV (11, k) _ _ (by simp)).trans (Keep.updX (10, k) _ (by simp))
  · exact ((Below.refl base w).grown hg h.heap.ge (fun j hj => ((h.heap.row (11, k)).lt j hj).1)).setCell hp.1 _

/-- 'r.AltLines = append(r.AltLines, line)'. -/
theorem AG.lineMade (h : AG w base B M V X m hd ln al ll pb) {k : Nat} (hk : k < m) {W1 : World} {v : Value} {n : Nat} {line : Int} {O : Obj}
    (hg : (w.alloc O).grownBy W1 (V (12, k)).ownBlock) (ho : W1.ownsRow base 3 1 v n (X (12, k) ++ [.int .i64 line])) (hat : v.ownBlock = (V (12, k)).ownBlock ∨ v.ownBlock = some (w.heap.size + 1)) :
    W1.cell? ⟨pb k, 3, none⟩ = some (V (12, k)) ∧ W1.frozen? ⟨pb k, 3, none⟩ = false ∧
    ∃ V' X', AG (W1.setCell ⟨pb k, 3, none⟩ v) base B M V' X' m hd ln al (updN ll k (ll k ++ [line])) pb ∧ Keep V X V' X' ∧ Below base w (W1.setCell ⟨pb k, 3, none⟩ v) := by
  have hp := h.basepb hk
  have h1 := (h.heap.alloc O).put (12, k) hg (.inr rfl) ho (fun b hb => by
    rcases hat with hq | hq
    · left; rw [← hq]; exact hb
    · right; rw [hq] at hb; cases hb; simp)
  have bV1 : upd V (12, k) v (10, k) = .slice (some ⟨pb k, 0, none⟩) 4 4 := by rw [upd_other _ _ (by simp)]; exact h.gram.bV k hk
  have bX1 : upd X (12, k) (X (12, k) ++ [.int .i64 line]) (10, k) = [.string (hd k), V (11, k), .int .i64 (ln k), V (12, k)] := by rw [upd_other _ _ (by simp)]; exact h.gram.bX k hk
  have h2 := h1.store bV1 3 v
  refine ⟨h1.cell bV1 (by rw [bX1]; rfl), h1.frozen bV1 3, _, _, ⟨h2, ⟨?_, ?_, ?_, ?_, ?_, ?_, ?_, ?_⟩, ?_⟩, ?_, ?_⟩
  · rw [upd_other _ _ (by simp)]; exact h.gram.gV
  · rw [upd_other _ _ (by simp), upd_other _ _ (by simp), upd_other _ _ (by simp)]; exact h.gram.gX
  · rw [upd_other _ _ (by simp), upd_other _ _ (by simp)]; exact h.gram.rX
  · intro i hi; rw [upd_other _ _ (by simp)]; exact h.gram.bV i hi
  · intro i hi
    have a2 : upd V (12, k) v (11, i) = V (11, i) := upd_other _ _ (by simp)
    rw [a2]
    by_cases hik : i = k
    · subst hik
      rw [upd_same, bX1, upd_same]
      rfl
    · rw [upd_other (s := (10, i)) (t := (10, k)) _ _ (by simp [hik]), upd_other (s := (10, i)) (t := (12, k)) _ _ (by simp), upd_other (s := (12, i)) (t := (12, k)) _ _ (by simp [hik])]
      exact h.gram.bX i hi
  · intro i
    rw [upd_other _ _ (by simp), upd_other _ _ (by simp)]; exact h.gram.aX i
  · intro i
    rw [upd_other _ _ (by simp)]
    by_cases hik : i = k
    · subst hik; rw [upd_same, updN_same, h.gram.lX]; simp
    · rw [upd_other _ _ (by simp [hik]), updN_other _ _ hik]; exact h.gram.lX i
  · intro i hi
    have hik : i ≠ k := by omega
    have a2 : upd V (12, k) v (11, i) = V (11, i) := upd_other _ _ (by simp)
    rw [a2, upd_other _ _ (by simp [hik])]; exact h.gram.nil i hi
  · rcases h.keys with hk' | ⟨mb, e1, e2, e3⟩
    · exact .inl hk'
    · have hoff := h.heap.off mb e1
      refine .inr ⟨mb, e1, e2, ((e3.alloc O).kept hg (fun e => hoff.2 (12, k) e.symm)).setCell ?_ _⟩
      intro e
      exact hoff.2 (10, k) (by rw [h.gram.bV k hk, e]; rfl)
  · exact (Keep.updV (12, k) _ _ (by simp)).trans (Keep.updX (10, k) _ (by simp))
  · have hge := h.heap.ge
    exact (((Below.refl base w).alloc hge O).grown hg (by simp; omega) (fun j hj => ((h.heap.row (12, k)).lt j hj).1)).setCell hp.1 _
end Go.Proofs.Ybulkbhho
