/-
  What holds at the head of every round of the law's main loop, and how a round opens.
-/
import Derived.Test.YbulkbhhoMod
namespace Go.Proofs.Ybulkbhho
open Go.RowKit Go.Maps Go.WideMaps

/-- What the walk is told of one step's choices. -/
def Alts (w : World) (a : Option Addr) (n : Nat) (A : Nat → Value) : Prop :=
  n = 0 ∨ ∃ b off, a = some ⟨b, off, none⟩ ∧ b < w.heap.size ∧ ∀ t, t < n → w.cell? ⟨b, off + t, none⟩ = some (A t) ∧ AltOk w (A t)
/-- What the walk is told of the script that came in. -/
def Ops (w : World) (a : Option Addr) (n : Nat) (P L : Nat → Int) (aa : Nat → Option Addr) (na ca : Nat → Nat) (A : Nat → Nat → Value) : Prop :=
  n = 0 ∨ ∃ b off, a = some ⟨b, off, none⟩ ∧ b < w.heap.size ∧ ∀ j, j < n → w.cell? ⟨b, off + j * 3, none⟩ = some (.int .u8 (P j)) ∧ w.cell? ⟨b, off + j * 3 + 1, none⟩ = some (.int .i64 (L j)) ∧ w.cell? ⟨b, off + j * 3 + 2, none⟩ = some (.slice (aa j) (na j) (ca j)) ∧
    0 ≤ P j ∧ P j ≤ 255 ∧ Alts w (aa j) (na j) (A j)

/-- At the head of every round. -/
structure Big (w wr : World) (B k : Nat) (M : Option Nat) (V : Tag → Value) (X : Tag → List Value) (m : Nat) (hd : Nat → ByteArray) (ln : Nat → Int) (al : Nat → List Value) (ll : Nat → List Int) (pb : Nat → Nat) : Prop where
  ag : AG wr B B M V X m hd ln al ll pb
  md : Mod V X m hd ln al ll
  dis : Distinct hd m
  mle : m ≤ k
  alen : ∀ i, (al i).length ≤ k * 1024
  llen : ∀ i, (ll i).length = (al i).length
  ok : ∀ i v, v ∈ al i → AltOk w v
  bel : Below B w wr
  sz : ∀ i, i < m → (hd i).size ≤ maxLen

theorem Yba.info9 : (Yba.prog.info? 9).map (fun i => (i.zero, i.size, i.bytes)) = some (some (.string ⟨#[]⟩), 1, 16) := by kernel_rfl
theorem Yba.info31 : (Yba.prog.info? 31).map (fun i => (i.zero, i.size, i.bytes)) = some (some (.slice none 0 0), 1, 24) := by kernel_rfl
theorem Yba.info40 : (Yba.prog.info? 40).map (fun i => (i.zero, i.size, i.bytes)) = some (some (.slice none 0 0), 1, 24) := by kernel_rfl
theorem Yba.info41 : (Yba.prog.info? 41).map (fun i => (i.zero, i.size, i.bytes)) = some (some (.slice none 0 0), 1, 24) := by kernel_rfl

theorem fnd_no {hd : Nat → ByteArray} {q : ByteArray} : ∀ {m : Nat}, (∀ i, i < m → same (hd i) q = false) → fnd hd q m = none
  | 0, _ => rfl
  | m + 1, h => by
    unfold fnd
    rw [h m (by omega), fnd_no (fun i hi => h i (by omega))]
    simp

/-- The empty grammar beside the empty model. -/
theorem big_start (w : World) : ∃ M V X pb, V (2, 0) = .slice none 0 0 ∧ V (3, 0) = .slice none 0 0 ∧ V (4, 0) = .slice none 0 0 ∧ V (5, 0) = .slice none 0 0 ∧
    Big w (w.alloc (.cells #[.slice none 0 0, .map none, .pointer none] 39)) w.heap.size 0 M V X 0 (fun _ => ⟨#[]⟩) (fun _ => 0) (fun _ => []) (fun _ => []) pb := by
  have h0 : Heap w w.heap.size none (fun _ => .slice none 0 0) (fun _ => []) := ⟨fun _ => World.ownsRow_nil _ _ _ _, (fun _ _ _ h => by cases h), (fun _ h => by cases h), Nat.le_refl _⟩
  have h1 := h0.new (0, 0) #[.slice none 0 0, .map none, .pointer none] 3 rfl (by omega)
  refine ⟨none, _, _, fun _ => 0, by simp [upd], by simp [upd], by simp [upd], by simp [upd], ⟨⟨h1, ⟨by simp [upd], by simp [upd], by simp [upd], (fun i hi => by omega), (fun i hi => by omega), (fun i => by simp [upd]), (fun i => by simp [upd]), (fun i _ => by simp [upd])⟩, .inl ⟨rfl, rfl⟩⟩,
    ⟨by simp [upd], by simp [upd], by simp [upd], by simp [upd], (fun i => by simp [upd]), (fun i => by simp [upd]), (fun i _ => by simp [upd])⟩, (fun i j hi => by omega), Nat.le_refl _, (fun i => by simp), (fun i => rfl), (fun i v hv => by cases hv), (Below.refl _ _).alloc (Nat.le_refl _) _, (fun i hi => by omega)⟩⟩

/-- The step is laid in a block of its own; the slice of its choices is made. -/
theorem Big.opened {w wr w1 : World} {B q : Nat} {M : Option Nat} {V : Tag → Value} {X : Tag → List Value} {m : Nat} {hd : Nat → ByteArray} {ln : Nat → Int} {al : Nat → List Value} {ll : Nat → List Int} {pb : Nat → Nat}
    (hB : Big w wr B q M V X m hd ln al ll pb) (p l : Int) (a : Option Addr) (n c : Nat) (xs : List Value) (hg : (wr.alloc (.cells #[.int .u8 p, .int .i64 l, .slice a n c] 33)).grownBy w1 none) (ho : w1.ownsRow B 46 1 (.slice (some ⟨wr.heap.size + 1, 0, none⟩) n n) n xs) :
    ∃ V2 X2, AG w1 B B M V2 X2 m hd ln al ll pb ∧ V2 (7, 0) = .slice (some ⟨wr.heap.size, 0, none⟩) 3 3 ∧ X2 (7, 0) = [.int .u8 p, .int .i64 l, .slice a n c] ∧ V2 (6, 0) = .slice (some ⟨wr.heap.size + 1, 0, none⟩) n n ∧ (X2 (6, 0)).length = n ∧
      (∀ t : Tag, t.1 ≠ 6 → t.1 ≠ 7 → V2 t = V t ∧ X2 t = X t) ∧ Below B w w1 := by
  have h1 := hB.ag.new (7, 0) (by simp [ofGram]) #[.int .u8 p, .int .i64 l, .slice a n c] 3 rfl (by omega)
  have h2 := h1.put (6, 0) (by simp [ofGram]) hg (.inl rfl) ho (fun b hb => .inr (by cases hb; simp))
  have hge := hB.ag.heap.ge
  refine ⟨_, _, h2, by simp [upd], by simp [upd], by simp [upd], ?_, fun t h6 h7 => ?_, (hB.bel.alloc hge _).grown hg (by simp; omega) (fun j hj => by cases hj)⟩
  · rw [upd_same]; have := ho.1; omega
  · have e6 : t ≠ (6, 0) := by intro e; subst e; simp at h6
    have e7 : t ≠ (7, 0) := by intro e; subst e; simp at h7
    exact ⟨by rw [upd_other _ _ e6, upd_other _ _ e7], by rw [upd_other _ _ e6, upd_other _ _ e7]⟩
end Go.Proofs.Ybulkbhho
