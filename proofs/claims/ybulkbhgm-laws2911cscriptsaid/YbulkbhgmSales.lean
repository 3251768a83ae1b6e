/-
  Plain lists of sales, and the window in memory.
-/
import Derived.Test.YbulkbhgmProg
import Derived.WalkKit
import Derived.OpenShut
import Derived.Deep.QuietTactic
import Derived.BigQuiet
namespace Go.Proofs.Ybulkbhgm
open Go.RowKit

/-- What is left of a list of sales (date, shares) when those of its head that lie before st are dropped. -/
def rest (st : Int) : List (Int × Int) → List (Int × Int)
  | [] => []
  | x :: r => if x.1 < st then rest st r else x :: r
/-- The total behind the same drop. -/
def less (st : Int) : List (Int × Int) → Int → Int
  | [], t => t
  | x :: r, t => if x.1 < st then less st r (wrap64 (t - x.2)) else t

theorem rest_hit {st : Int} {l : List (Int × Int)} {j : Nat} {x : Int × Int} (h : l[j]? = some x) (hx : x.1 < st) : rest st (l.drop (j + 1)) = rest st (l.drop j) := by
  obtain ⟨hj, rfl⟩ := List.getElem?_eq_some_iff.1 h
  conv => rhs; rw [List.drop_eq_getElem_cons hj]
  simp [rest, hx]
theorem less_hit {st : Int} {l : List (Int × Int)} {j : Nat} {x : Int × Int} (h : l[j]? = some x) (hx : x.1 < st) (t : Int) : less st (l.drop (j + 1)) (wrap64 (t - x.2)) = less st (l.drop j) t := by
  obtain ⟨hj, rfl⟩ := List.getElem?_eq_some_iff.1 h
  conv => rhs; rw [List.drop_eq_getElem_cons hj]
  simp [less, hx]
theorem rest_miss {st : Int} {l : List (Int × Int)} {j : Nat} {x : Int × Int} (h : l[j]? = some x) (hx : ¬ x.1 < st) : rest st (l.drop j) = l.drop j := by
  obtain ⟨hj, rfl⟩ := List.getElem?_eq_some_iff.1 h
  rw [List.drop_eq_getElem_cons hj]
  simp [rest, hx]
theorem less_miss {st : Int} {l : List (Int × Int)} {j : Nat} {x : Int × Int} (h : l[j]? = some x) (hx : ¬ x.1 < st) (t : Int) : less st (l.drop j) t = t := by
  obtain ⟨hj, rfl⟩ := List.getElem?_eq_some_iff.1 h
  rw [List.drop_eq_getElem_cons hj]
  simp [less, hx]
theorem rest_end {st : Int} {l : List (Int × Int)} {j : Nat} (h : l.length ≤ j) : rest st (l.drop j) = l.drop j := by
  rw [List.drop_of_length_le h]; rfl
theorem less_end {st : Int} {l : List (Int × Int)} {j : Nat} (h : l.length ≤ j) (t : Int) : less st (l.drop j) t = t := by
  rw [List.drop_of_length_le h]; rfl

/-- The cells of a list of sales. -/
def flat : List (Int × Int) → List Value
  | [] => []
  | x :: r => .int .i32 x.1 :: .int .i64 x.2 :: flat r
theorem flat_length : ∀ X : List (Int × Int), (flat X).length = X.length * 2
  | [] => rfl
  | x :: r => by simp [flat, flat_length r]; omega
theorem flat_append : ∀ X Y : List (Int × Int), flat (X ++ Y) = flat X ++ flat Y
  | [], _ => rfl
  | x :: r, Y => by simp [flat, flat_append r Y]
theorem flat_drop : ∀ (X : List (Int × Int)) (f : Nat), (flat X).drop (f * 2) = flat (X.drop f)
  | X, 0 => by simp
  | [], f + 1 => by simp [flat]
  | x :: r, f + 1 => by
    have : (f + 1) * 2 = f * 2 + 1 + 1 := by omega
    rw [this]
    simp [flat, flat_drop r f]
theorem flat_get {X : List (Int × Int)} {j : Nat} {x : Int × Int} (h : X[j]? = some x) : (flat X)[j * 2]? = some (.int .i32 x.1) ∧ (flat X)[j * 2 + 1]? = some (.int .i64 x.2) := by
  induction X generalizing j with
  | nil => simp at h
  | cons y r ih =>
    match j with
    | 0 => simp at h; subst h; simp [flat]
    | j + 1 =>
      have e : (j + 1) * 2 = j * 2 + 1 + 1 := by omega
      rw [e]
      simpa [flat] using ih (j := j) (by simpa using h)

theorem own_cells {w : World} {base g n cap : Nat} {X : List (Int × Int)} (h : w.ownsRow base 65 2 (.slice (some ⟨g, 0, none⟩) n cap) n (flat X)) {j : Nat} {x : Int × Int} (hx : X[j]? = some x) (hj : j < n) :
    w.cell? ⟨g, j * 2, none⟩ = some (.int .i32 x.1) ∧ w.cell? ⟨g, j * 2 + 1, none⟩ = some (.int .i64 x.2) := by
  rw [h.cellAt (j * 2) (by omega), h.cellAt (j * 2 + 1) (by omega)]
  exact flat_get hx

/-- The window at block B: its sales are the slice '.slice a n cap', which owns the cells of X; first is f; shares is s. -/
structure Win (w : World) (B base : Nat) (a : Option Addr) (n cap : Nat) (X : List (Int × Int)) (f : Nat) (s : Int) : Prop where
  blk : w.heap[B]? = some (.cells #[.slice a n cap, .int .i64 f, .int .i64 s] 60 (0, 0))
  own : w.ownsRow base 65 2 (.slice a n cap) n (flat X)
  len : X.length = n
  fst : f ≤ n
  lt : B < base

theorem Win.at {w : World} {B base n cap f : Nat} {a : Option Addr} {X : List (Int × Int)} {s : Int} (h : Win w B base a n cap X f s) (hn : 0 < n) : ∃ g, a = some ⟨g, 0, none⟩ ∧ base ≤ g := by
  rcases h.own.2 with ⟨h', _⟩ | ⟨g, cap', cur, h', hb, _⟩
  · simp at h'; omega
  · simp at h'; exact ⟨g, h'.1, hb⟩

theorem cells_of_blk {w : World} {B : Nat} {v0 v1 v2 : Value} (h : w.heap[B]? = some (.cells #[v0, v1, v2] 60 (0, 0))) :
    w.cell? ⟨B, 0, none⟩ = some v0 ∧ w.cell? ⟨B, 1, none⟩ = some v1 ∧ w.cell? ⟨B, 2, none⟩ = some v2 ∧ w.frozen? ⟨B, 0, none⟩ = false ∧ w.frozen? ⟨B, 1, none⟩ = false ∧ w.frozen? ⟨B, 2, none⟩ = false := by
  refine ⟨?_, ?_, ?_, ?_, ?_, ?_⟩ <;> first | (rw [cell_of_row w B _ _ 60 (0, 0) h]; rfl) | exact frozen_of_row w B _ _ 60 h

theorem grownBy_trans {w w1 w2 : World} {row : Option Nat} (h : w.grownBy w1 row) (k : w1.grownBy w2 row) : w.grownBy w2 row :=
  ⟨k.os.trans h.os, k.tape.trans h.tape, k.output.trans h.output, Nat.le_trans h.size k.size, fun j hj hr => (k.block j (Nat.lt_of_lt_of_le hj h.size) hr).trans (h.block j hj hr)⟩
theorem grownBy_setCell (w : World) (B i : Nat) (v : Value) : w.grownBy (w.setCell ⟨B, i, none⟩ v) (some B) :=
  ⟨rfl, rfl, rfl, by simp [World.setCell], fun k _ hr => heap_setCell_other w _ k v (fun e => hr (by simp [e]))⟩
theorem grownBy_drewN (w : World) (m : Nat) (row : Option Nat) : w.grownBy (w.drewN m) row := ⟨rfl, rfl, rfl, Nat.le_refl _, fun _ _ _ => rfl⟩

theorem Win.set12 {w : World} {B base n cap f : Nat} {a : Option Addr} {X : List (Int × Int)} {s : Int} (h : Win w B base a n cap X f s) (m f2 : Nat) (s2 : Int) (hf : f2 ≤ n) {v1 : Value} (e : v1 = .int .i64 f2) :
    Win (((w.drewN m).setCell ⟨B, 2, none⟩ (.int .i64 s2)).setCell ⟨B, 1, none⟩ v1) B base a n cap X f2 s2 := by
  subst e
  refine ⟨?_, ?_, h.len, hf, h.lt⟩
  · rw [heap_setCell_same _ _ _ _ _ _ (heap_setCell_same (w.drewN m) _ _ _ _ _ h.blk)]; rfl
  · exact ownsRow_setCell_below (ownsRow_setCell_below (w := w.drewN m) h.own h.lt _) h.lt _
theorem Win.drewN {w : World} {B base n cap f : Nat} {a : Option Addr} {X : List (Int × Int)} {s : Int} (h : Win w B base a n cap X f s) (m : Nat) : Win (w.drewN m) B base a n cap X f s := ⟨h.blk, h.own, h.len, h.fst, h.lt⟩
theorem Win.ne {w : World} {B base n cap f : Nat} {a : Option Addr} {X : List (Int × Int)} {s : Int} (h : Win w B base a n cap X f s) : some B ≠ (Value.slice a n cap).ownBlock := by
  intro e
  have := (h.own.lt B e.symm).1
  have := h.lt
  omega

/-- What a call on the window at block B may have turned: block B, the block ob of its sales; they now lie in ob'. -/
structure Moved (w w' : World) (B : Nat) (ob ob' : Option Nat) : Prop where
  os : w'.os = w.os
  tape : w'.tape = w.tape
  output : w'.output = w.output
  size : w.heap.size ≤ w'.heap.size
  block : ∀ k, k < w.heap.size → k ≠ B → some k ≠ ob → w'.heap[k]? = w.heap[k]?
  lies : ∀ g, ob' = some g → ob = some g ∨ w.heap.size ≤ g

/-- The block of the window behind an append's growth. -/
theorem blk_grown {W w1 : World} {B : Nat} {o O : Obj} {row : Option Nat} (h : W.heap[B]? = some o) (hg : (W.alloc O).grownBy w1 row) (hr : some B ≠ row) : w1.heap[B]? = some o := by
  have hB : B < W.heap.size := by
    obtain ⟨hlt, _⟩ := Array.getElem?_eq_some_iff.1 h
    exact hlt
  rw [hg.block B (by simp; omega) hr, Below.heap_alloc _ _ _ hB, h]
/-- The window behind the two stores that end an add. -/
theorem Win.mk02 {w1 : World} {B base n cap f : Nat} {a : Option Addr} {v0 : Value} {s s' : Int} {X : List (Int × Int)} (hb : w1.heap[B]? = some (.cells #[v0, .int .i64 f, .int .i64 s] 60 (0, 0)))
    (ho : w1.ownsRow base 65 2 (.slice a n cap) n (flat X)) (hl : X.length = n) (hf : f ≤ n) (hB : B < base) :
    Win ((w1.setCell ⟨B, 0, none⟩ (.slice a n cap)).setCell ⟨B, 2, none⟩ (.int .i64 s')) B base a n cap X f s' := by
  refine ⟨?_, ?_, hl, hf, hB⟩
  · rw [heap_setCell_same _ _ _ _ _ _ (heap_setCell_same w1 _ _ _ _ _ hb)]; rfl
  · exact ownsRow_setCell_below (ownsRow_setCell_below ho hB _) hB _
theorem Moved.mk02' {w W w1 : World} {B : Nat} {O : Obj} {row ob : Option Nat} {g : Nat} (h0 : Moved w W B ob row) (hg : (W.alloc O).grownBy w1 row) (hat : row = some g ∨ W.heap.size ≤ g) (v0 v2 : Value) :
    Moved w ((w1.setCell ⟨B, 0, none⟩ v0).setCell ⟨B, 2, none⟩ v2) B ob (some g) := by
  refine ⟨hg.os.trans h0.os, hg.tape.trans h0.tape, hg.output.trans h0.output, ?_, fun k hk hB hr => ?_, fun j hj => ?_⟩
  · have := hg.size
    have := h0.size
    simp [World.setCell] at *
    omega
  · have h1 := h0.size
    rw [heap_setCell_other _ _ _ _ (by simpa using hB), heap_setCell_other _ _ _ _ (by simpa using hB), hg.block k (by simp; omega) (fun e => ?_), Below.heap_alloc _ _ _ (by omega), h0.block k hk hB hr]
    rcases h0.lies k e.symm with h | h
    · exact hr h.symm
    · omega
  · cases hj
    rcases hat with h | h
    · exact h0.lies g h
    · exact .inr (by have := h0.size; omega)
theorem Moved.mk02 {w W w1 : World} {B : Nat} {O : Obj} {row ob : Option Nat} {g : Nat} (h0 : Moved w W B ob row) (hg : (W.alloc O).grownBy w1 row) (hat : row = some g ∨ g = W.heap.size + 1) (v0 v2 : Value) :
    Moved w ((w1.setCell ⟨B, 0, none⟩ v0).setCell ⟨B, 2, none⟩ v2) B ob (some g) :=
  h0.mk02' hg (by rcases hat with h | h; exact .inl h; exact .inr (by omega)) v0 v2
theorem ownsRow_base {w : World} {b b' : Nat} {e : TypeId} {size : Nat} {v : Value} {n : Nat} {xs : List Value} (h : w.ownsRow b e size v n xs) (hb : b' ≤ b) : w.ownsRow b' e size v n xs := by
  refine ⟨h.1, ?_⟩
  rcases h.2 with h1 | ⟨g, cap, cur, h1, h2, h3⟩
  · exact .inl h1
  · exact .inr ⟨g, cap, cur, h1, Nat.le_trans hb h2, h3⟩
theorem Win.mk01 {W : World} {B base n cap f : Nat} {a : Option Addr} {v0 v1 : Value} {s : Int} {X : List (Int × Int)} (hb : W.heap[B]? = some (.cells #[v0, v1, .int .i64 s] 60 (0, 0)))
    (ho : W.ownsRow base 65 2 (.slice a n cap) n (flat X)) (hl : X.length = n) (hf : f ≤ n) (hB : B < base) (m : Nat) {u1 : Value} (e : u1 = .int .i64 f) :
    Win (((W.drewN m).setCell ⟨B, 0, none⟩ (.slice a n cap)).setCell ⟨B, 1, none⟩ u1) B base a n cap X f s := by
  subst e
  refine ⟨?_, ?_, hl, hf, hB⟩
  · rw [heap_setCell_same _ _ _ _ _ _ (heap_setCell_same (W.drewN m) _ _ _ _ _ hb)]; rfl
  · exact ownsRow_setCell_below (ownsRow_setCell_below (w := W.drewN m) ho hB _) hB _
theorem Moved.set01 {w W : World} {B : Nat} {ob ob' : Option Nat} (h : Moved w W B ob ob') (m : Nat) (v0 v1 : Value) : Moved w (((W.drewN m).setCell ⟨B, 0, none⟩ v0).setCell ⟨B, 1, none⟩ v1) B ob ob' := by
  refine ⟨h.os, h.tape, h.output, ?_, fun k hk hB hr => ?_, h.lies⟩
  · have := h.size
    simp [World.setCell]
    omega
  · rw [heap_setCell_other _ _ _ _ (by simpa using hB), heap_setCell_other _ _ _ _ (by simpa using hB)]
    exact h.block k hk hB hr
theorem flat_snoc (X : List (Int × Int)) (d sh : Int) : flat X ++ [.int .i32 d, .int .i64 sh] = flat (X ++ [(d, sh)]) := by rw [flat_append]; rfl

theorem grownBy_set12 (w : World) (B m : Nat) (v2 v1 : Value) : w.grownBy (((w.drewN m).setCell ⟨B, 2, none⟩ v2).setCell ⟨B, 1, none⟩ v1) (some B) :=
  grownBy_trans (grownBy_trans (grownBy_drewN w m _) (grownBy_setCell _ _ _ _)) (grownBy_setCell _ _ _ _)

theorem Yba.info65 : (Yba.prog.info? 65).map (fun i => (i.zero, i.size, i.bytes)) = some (some (.agg #[.int .i32 0, .int .i64 0]), 2, 16) := by kernel_rfl
theorem Yba.size65 : (Yba.prog.info? 65).map (·.size) = some 2 := by kernel_rfl
end Go.Proofs.Ybulkbhgm
