/-
  What holds of the window and of the model at the head of every round of LawS2911CScript, and what each step does to it.
-/
import Derived.Test.YbulkbhgmAdd
namespace Go.Proofs.Ybulkbhgm
open Go.RowKit

structure Lock (w wr : World) (B k : Nat) (a am : Option Addr) (n cap nm capm f h : Nat) (X L : List (Int × Int)) (s : Int) : Prop where
  win : Win wr B (B + 1) a n cap X f s
  mdl : wr.ownsRow (B + 1) 65 2 (.slice am nm capm) nm (flat L)
  len : L.length = nm
  hh : h ≤ nm
  eq : X.drop f = L.drop h
  nk : n ≤ k
  mnk : nm ≤ k
  apart : (Value.slice am nm capm).ownBlock = none ∨ (Value.slice am nm capm).ownBlock ≠ (Value.slice a n cap).ownBlock
  below : Below B w wr

variable {w wr : World} {B k : Nat} {a am : Option Addr} {n cap nm capm f h : Nat} {X L : List (Int × Int)} {s : Int}

theorem Win.alloc {base : Nat} (hW : Win wr B base a n cap X f s) (O : Obj) : Win (wr.alloc O) B base a n cap X f s := by
  have hB : B < wr.heap.size := (Array.getElem?_eq_some_iff.1 hW.blk).1
  exact ⟨(Below.heap_alloc _ _ _ hB).trans hW.blk, hW.own.alloc O, hW.len, hW.fst, hW.lt⟩

theorem Lock.size (i : Lock w wr B k a am n cap nm capm f h X L s) : B + 1 ≤ wr.heap.size := (Array.getElem?_eq_some_iff.1 i.win.blk).1

theorem Lock.bump (i : Lock w wr B k a am n cap nm capm f h X L s) : Lock w wr B (k + 1) a am n cap nm capm f h X L s :=
  ⟨i.win, i.mdl, i.len, i.hh, i.eq, Nat.le_succ_of_le i.nk, Nat.le_succ_of_le i.mnk, i.apart, i.below⟩

theorem Lock.drewN (i : Lock w wr B k a am n cap nm capm f h X L s) (m : Nat) : Lock w (wr.drewN m) B k a am n cap nm capm f h X L s :=
  ⟨i.win.drewN m, i.mdl, i.len, i.hh, i.eq, i.nk, i.mnk, i.apart, ⟨i.below.os, i.below.tape, i.below.output, i.below.size, i.below.block⟩⟩

theorem Lock.mdl_ne (i : Lock w wr B k a am n cap nm capm f h X L s) : (Value.slice am nm capm).ownBlock = none ∨ (Value.slice am nm capm).ownBlock ≠ some B := by
  right
  intro e
  have := (i.mdl.lt B e).1
  omega

/-- A block laid, then writes to block B alone. -/
theorem Lock.turned (i : Lock w wr B k a am n cap nm capm f h X L s) {O : Obj} {w2 : World} (hg : (wr.alloc O).grownBy w2 (some B)) {f' h' : Nat} {s' : Int} (hw : Win w2 B (B + 1) a n cap X f' s') (hh : h' ≤ nm) (he : X.drop f' = L.drop h') :
    Lock w w2 B k a am n cap nm capm f' h' X L s' :=
  ⟨hw, (i.mdl.alloc O).kept hg i.mdl_ne, i.len, hh, he, i.nk, i.mnk, i.apart,
    (i.below.alloc (by have := i.size; omega) O).grown hg (by have := i.size; simp; omega) (fun j hj => by cases hj; exact Nat.le_refl _)⟩

theorem Lock.laid (i : Lock w wr B k a am n cap nm capm f h X L s) (O : Obj) : Lock w (wr.alloc O) B k a am n cap nm capm f h X L s :=
  i.turned (World.grownBy.refl _ _) (i.win.alloc O) i.hh i.eq

/-- A drop on the window, and the law's own drop on the model. -/
theorem Lock.dropped (i : Lock w wr B k a am n cap nm capm f h X L s) {O : Obj} {w2 : World} (hg : (wr.alloc O).grownBy w2 (some B)) {f' h' : Nat} {st t : Int} (hw : Win w2 B (B + 1) a n cap X f' (less st (X.drop f) s)) (hd : X.drop f' = rest st (X.drop f))
    (hh : h' ≤ nm) (hre : rest st (L.drop h') = rest st (L.drop h)) (hle : less st (L.drop h') t = less st (L.drop h) s) (e1 : rest st (L.drop h') = L.drop h') (e2 : less st (L.drop h') t = t) :
    Lock w w2 B k a am n cap nm capm f' h' X L t := by
  have ht : less st (X.drop f) s = t := by rw [i.eq, ← hle, e2]
  rw [ht] at hw
  exact i.turned hg hw hh (by rw [hd, i.eq, ← hre, e1])

theorem own_moved {w1 w2 : World} {base : Nat} {ob ob' : Option Nat} {v : Value} {m : Nat} {xs : List Value} (ho : w1.ownsRow base 65 2 v m xs) (hm : Moved w1 w2 B ob ob') (hB : v.ownBlock ≠ some B) (hr : v.ownBlock = none ∨ v.ownBlock ≠ ob) : w2.ownsRow base 65 2 v m xs := by
  refine ⟨ho.1, ?_⟩
  rcases ho.2 with h1 | ⟨g, c, cur, h1, h2, h3, h4⟩
  · exact .inl h1
  · refine .inr ⟨g, c, cur, h1, h2, ?_, h4⟩
    have hv : v.ownBlock = some g := by rw [h1]; rfl
    rw [hm.block g (Array.getElem?_eq_some_iff.1 h3).1 (fun e => hB (by rw [hv, e])) (fun e => ?_), h3]
    rcases hr with h | h
    · rw [hv] at h; cases h
    · exact h (by rw [hv, e])

/-- An add to the window, then an append to the model. -/
theorem Lock.grown (i : Lock w wr B k a am n cap nm capm f h X L s) {w2 w3 : World} {O : Obj} {a' : Option Addr} {n' cap' f' g capm' : Nat} {X' : List (Int × Int)} {s' d sh : Int}
    (hw : Win w2 B (B + 1) a' n' cap' X' f' s') (hd : X'.drop f' = X.drop f ++ [(d, sh)]) (hn : n' ≤ n + 1) (hm : Moved wr w2 B (Value.slice a n cap).ownBlock (Value.slice a' n' cap').ownBlock)
    (ho : w3.ownsRow (B + 1) 65 2 (.slice (some ⟨g, 0, none⟩) (nm + 1) capm') (nm + 1) (flat (L ++ [(d, sh)]))) (hg : (w2.alloc O).grownBy w3 (Value.slice am nm capm).ownBlock) (hat : (Value.slice am nm capm).ownBlock = some g ∨ g = w2.heap.size + 1) :
    Lock w w3 B (k + 1) a' (some ⟨g, 0, none⟩) n' cap' (nm + 1) capm' f' h X' (L ++ [(d, sh)]) s' := by
  have hs := i.size
  have hs2 : B < w2.heap.size := (Array.getElem?_eq_some_iff.1 hw.blk).1
  have hap : (Value.slice a' n' cap').ownBlock = none ∨ (Value.slice a' n' cap').ownBlock ≠ (Value.slice am nm capm).ownBlock := by
    cases hq : (Value.slice a' n' cap').ownBlock with
    | none => exact .inl rfl
    | some g2 =>
      right
      intro e
      rcases hm.lies g2 hq with h1 | h1
      · rcases i.apart with h2 | h2
        · rw [h2] at e; cases e
        · exact h2 (by rw [← e, h1])
      · have := (i.mdl.lt g2 e.symm).2
        omega
  refine ⟨⟨?_, ?_, hw.len, hw.fst, hw.lt⟩, ho, by simp [i.len], by have := i.hh; omega, ?_, by have := i.nk; omega, by have := i.mnk; omega, ?_, ?_⟩
  · exact blk_grown hw.blk hg (fun e => by have := (i.mdl.lt B e.symm).1; omega)
  · exact (hw.own.alloc O).kept hg hap
  · rw [hd, List.drop_append_of_le_length (by rw [i.len]; exact i.hh), i.eq]
  · right
    intro e
    have hq : (Value.slice a' n' cap').ownBlock = some g := e.symm
    rcases hat with h1 | h1
    · rcases hap with h2 | h2
      · rw [hq] at h2; cases h2
      · exact h2 (by rw [hq, h1])
    · have := (hw.own.lt g hq).2
      omega
  · have hb2 : Below B w w2 := by
      refine i.below.trans ⟨hm.os, hm.tape, hm.output, hm.size, fun j hj => hm.block j (by omega) (by omega) (fun e => ?_)⟩
      have := (i.win.own.lt j e.symm).1
      omega
    refine (hb2.alloc (by omega) O).grown hg (by simp; omega) (fun j hj => ?_)
    have := (i.mdl.lt j hj).1
    omega
end Go.Proofs.Ybulkbhgm
