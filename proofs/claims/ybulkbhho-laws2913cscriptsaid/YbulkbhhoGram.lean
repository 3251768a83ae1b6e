/-
  The grammar in memory (Gram, Keys), the law's own model beside it (Mod), and what they say of one list of rules.
-/
import Derived.Test.YbulkbhhoHeap
namespace Go.Proofs.Ybulkbhho
open Go.RowKit Go.Maps Go.WideMaps

def updN {α : Type} (f : Nat → α) (k : Nat) (v : α) : Nat → α := fun i => if i = k then v else f i
theorem updN_same {α : Type} (f : Nat → α) (k : Nat) (v : α) : updN f k v k = v := by simp [updN]
theorem updN_other {α : Type} (f : Nat → α) {i k : Nat} (v : α) (h : i ≠ k) : updN f k v i = f i := by simp [updN, h]

/-! ### The heads and the map -/
def same (a b : ByteArray) : Bool := a.toList == b.toList
theorem same_true {a b : ByteArray} (h : same a b = true) : a.data.toList = b.data.toList := by
  unfold same at h
  rw [ByteArray.toList_eq, ByteArray.toList_eq] at h
  simpa using h
theorem same_false {a b : ByteArray} (h : same a b = false) : a.data.toList ≠ b.data.toList := by
  unfold same at h
  rw [ByteArray.toList_eq, ByteArray.toList_eq] at h
  simpa using h
theorem same_refl (a : ByteArray) : same a a = true := by simp [same]

def key (s : ByteArray) : Lit := .string s.data.toList
theorem key_lit (s : ByteArray) : WideAt.IsKeyLit (key s) := trivial
/-- Where a head stands among the first m. -/
def fnd (hd : Nat → ByteArray) (s : ByteArray) : Nat → Option Nat
  | 0 => none
  | k + 1 => if same (hd k) s then some k else fnd hd s k
def dat (hd : Nat → ByteArray) : Nat → DataW Unit
  | 0 => .map []
  | k + 1 => (dat hd k).put (key (hd k)) (.lit (.int .i64 k))
def num : Option Nat → Int
  | none => 0
  | some k => k

theorem dat_isMap (hd : Nat → ByteArray) : ∀ k, IsMap (dat hd k)
  | 0 => isMap_empty
  | k + 1 => (dat_isMap hd k).put _ _
theorem dat_tidy (hd : Nat → ByteArray) : ∀ k, Tidy (dat hd k)
  | 0 => tidy_empty
  | k + 1 => (dat_tidy hd k).put (key_lit _) _
theorem dat_has (hd : Nat → ByteArray) (q : ByteArray) : ∀ k, Maps.has (dat hd k) (key q) = (fnd hd q k).isSome
  | 0 => rfl
  | k + 1 => by
    unfold dat fnd
    cases h : same (hd k) q with
    | true =>
      have e : key (hd k) = key q := by unfold key; rw [same_true h]
      rw [e, has_put_same (dat_isMap hd k) (key_lit q)]
      simp
    | false =>
      have e : key q ≠ key (hd k) := by unfold key; intro e; injection e with e; exact same_false h e.symm
      rw [has_put_other e, dat_has hd q k]
      simp
theorem dat_at (hd : Nat → ByteArray) (q : ByteArray) : ∀ k, (dat hd k).atKey (key q) (.lit (.int .i64 0)) = .lit (.int .i64 (num (fnd hd q k)))
  | 0 => rfl
  | k + 1 => by
    unfold dat fnd
    cases h : same (hd k) q with
    | true =>
      have e : key (hd k) = key q := by unfold key; rw [same_true h]
      rw [e, atKey_put_same (dat_isMap hd k) (key_lit q)]
      simp [num]
    | false =>
      have e : key q ≠ key (hd k) := by unfold key; intro e; injection e with e; exact same_false h e.symm
      rw [atKey_put_other e, dat_at hd q k]
      simp
theorem dat_congr {hd hd' : Nat → ByteArray} : ∀ {m : Nat}, (∀ i, i < m → hd i = hd' i) → dat hd m = dat hd' m
  | 0, _ => rfl
  | m + 1, h => by
    unfold dat
    rw [dat_congr (fun i hi => h i (by omega)), h m (by omega)]
theorem fnd_congr {hd hd' : Nat → ByteArray} (q : ByteArray) : ∀ {m : Nat}, (∀ i, i < m → hd i = hd' i) → fnd hd q m = fnd hd' q m
  | 0, _ => rfl
  | m + 1, h => by
    unfold fnd
    rw [fnd_congr q (fun i hi => h i (by omega)), h m (by omega)]
theorem fnd_some {hd : Nat → ByteArray} {q : ByteArray} : ∀ {m k : Nat}, fnd hd q m = some k → k < m ∧ same (hd k) q = true
  | 0, k, h => by cases h
  | m + 1, k, h => by
    unfold fnd at h
    cases hs : same (hd m) q with
    | true => rw [hs] at h; simp at h; subst h; exact ⟨by omega, hs⟩
    | false => rw [hs] at h; simp at h; have := fnd_some h; exact ⟨by omega, this.2⟩
theorem fnd_none {hd : Nat → ByteArray} {q : ByteArray} : ∀ {m : Nat}, fnd hd q m = none → ∀ i, i < m → same (hd i) q = false
  | 0, _, i, hi => by omega
  | m + 1, h, i, hi => by
    unfold fnd at h
    cases hs : same (hd m) q with
    | true => rw [hs] at h; simp at h
    | false =>
      rw [hs] at h; simp at h
      by_cases him : i = m
      · subst him; exact hs
      · exact fnd_none h i (by omega)
/-- No head stands twice. -/
def Distinct (hd : Nat → ByteArray) (m : Nat) : Prop := ∀ i j, i < m → j < m → same (hd i) (hd j) = true → i = j
theorem fnd_of {hd : Nat → ByteArray} {q : ByteArray} : ∀ {m k : Nat}, Distinct hd m → k < m → same (hd k) q = true → fnd hd q m = some k
  | 0, k, _, hk, _ => by omega
  | m + 1, k, hD, hk, hs => by
    unfold fnd
    cases h : same (hd m) q with
    | true =>
      have : same (hd k) (hd m) = true := by
        have e1 := same_true hs
        have e2 := same_true h
        unfold same
        rw [ByteArray.toList_eq, ByteArray.toList_eq, e1, e2]
        simp
      have := hD k m hk (by omega) this
      simp [this]
    | false =>
      have hkm : k ≠ m := by intro e; subst e; rw [hs] at h; cases h
      simp
      exact fnd_of (fun i j hi hj => hD i j (by omega) (by omega)) (by omega) hs
theorem dat_size {hd : Nat → ByteArray} : ∀ {m : Nat}, Distinct hd m → Maps.size (dat hd m) = m
  | 0, _ => rfl
  | m + 1, hD => by
    have ih := dat_size (m := m) (fun i j hi hj => hD i j (by omega) (by omega))
    unfold dat
    rw [size_put (dat_tidy hd m)]
    have hh : Maps.has (dat hd m) (key (hd m)) = false := by
      rw [dat_has]
      cases hf : fnd hd (hd m) m with
      | none => rfl
      | some k =>
        have := fnd_some hf
        have := hD k m (by omega) (by omega) this.2
        omega
    rw [hh, ih]
    simp

/-! ### The grammar -/
structure Gram (B : Nat) (M : Option Nat) (V : Tag → Value) (X : Tag → List Value) (m : Nat) (hd : Nat → ByteArray) (ln : Nat → Int) (al : Nat → List Value) (ll : Nat → List Int) (pb : Nat → Nat) : Prop where
  gV : V (0, 0) = .slice (some ⟨B, 0, none⟩) 3 3
  gX : X (0, 0) = [V (1, 0), .map M, .pointer none]
  rX : X (1, 0) = (List.range m).map fun i => .pointer (some ⟨pb i, 0, none⟩)
  bV : ∀ i, i < m → V (10, i) = .slice (some ⟨pb i, 0, none⟩) 4 4
  bX : ∀ i, i < m → X (10, i) = [.string (hd i), V (11, i), .int .i64 (ln i), V (12, i)]
  aX : ∀ i, X (11, i) = al i
  lX : ∀ i, X (12, i) = (ll i).map (Value.int .i64)
  nil : ∀ i, m ≤ i → V (11, i) = .slice none 0 0 ∧ V (12, i) = .slice none 0 0

structure Mod (V : Tag → Value) (X : Tag → List Value) (m : Nat) (hd : Nat → ByteArray) (ln : Nat → Int) (al : Nat → List Value) (ll : Nat → List Int) : Prop where
  hX : X (2, 0) = (List.range m).map fun i => .string (hd i)
  nX : X (3, 0) = (List.range m).map fun i => .int .i64 (ln i)
  aX : X (4, 0) = (List.range m).map fun i => V (13, i)
  lX : X (5, 0) = (List.range m).map fun i => V (14, i)
  a2 : ∀ i, X (13, i) = al i
  l2 : ∀ i, X (14, i) = (ll i).map (Value.int .i64)
  nil : ∀ i, m ≤ i → V (13, i) = .slice none 0 0 ∧ V (14, i) = .slice none 0 0

/-- The map holds each head's place. -/
def Keys (w : World) (base : Nat) (M : Option Nat) (m : Nat) (hd : Nat → ByteArray) : Prop :=
  (M = none ∧ m = 0) ∨ ∃ mb, M = some mb ∧ base ≤ mb ∧ w.ownsMap Yba.prog 9 (plainElem Yba.prog 3) mb m (dat hd m)

theorem law9 : Keyed Yba.prog 9 := string_keyed Yba.underlying9
theorem zero3 (w : World) : (zeroValue 3).run Yba.prog w = .ok (.int .i64 0) w := by kernel_rfl

/-- 'n, ok := g.byHead[q]'. -/
theorem Keys.look {w : World} {base : Nat} {M : Option Nat} {m : Nat} {hd : Nat → ByteArray} (h : Keys w base M m hd) (q : ByteArray) (hq : q.size ≤ maxLen) :
    (Instr.lookup 36 (.map M) (.string q) true).run Yba.prog w = .ok (.tuple #[.int .i64 (num (fnd hd q m)), .bool (fnd hd q m).isSome]) w := by
  rcases h with ⟨rfl, rfl⟩ | ⟨mb, rfl, _, hown⟩
  · have := Maps.look_nil (w := w) true law9 Yba.underlying36 (zero3 w) (keyOf_string_mk Yba.underlying9 hq)
    simpa [fnd, num] using this
  · obtain ⟨v, ps, h1, h2⟩ := hown.look_ok law9 Yba.underlying36 (zero3 w) (plainElem_int Yba.underlying3 (by decide)) (keyOf_string_mk Yba.underlying9 hq)
    obtain ⟨c', rfl, h3, _⟩ := plainElem_int_inv Yba.underlying3 h2
    have e1 := congrArg Prod.fst h3
    have e2 : (DataW.lit (H := Unit) (.int .i64 (num (fnd hd q m)))) = .lit (.int .i64 c') := (dat_at hd q m).symm.trans e1
    simp at e2
    rw [h1, ← e2]
    have e3 : Maps.has (dat hd m) (.string q.data.toList) = (fnd hd q m).isSome := dat_has hd q m
    rw [e3]
end Go.Proofs.Ybulkbhho
