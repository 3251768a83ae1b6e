import Derived.Test.YbulkbhgmProg
import Derived.WalkKit
import Derived.OpenShut
import Derived.Deep.QuietTactic
import Derived.BigQuiet
import Derived.Deep.OwnRows
namespace Go.Proofs.Ybulkbhgm
open Go.RowKit

theorem Yba.info72 : (Yba.prog.info? 72).map (fun i => (i.zero, i.size, i.bytes)) = some (some (.agg #[.string ByteArray.empty, .int .i64 0, .slice none 0 0, .slice none 0 0]), 4, 72) := by kernel_rfl

/-- What the walk is told of a []string that came in. -/
def Strs (w : World) (a : Option Addr) (n : Nat) (S : Nat → ByteArray) : Prop := n = 0 ∨ ∃ b off, a = some ⟨b, off, none⟩ ∧ ∀ j, j < n → w.cell? ⟨b, off + j, none⟩ = some (.string (S j))

/-- The cells of the first k holders. -/
def Filled (k : Nat) (S : Nat → ByteArray) (F : Nat → Value) : Prop :=
  ∀ j, j < k → F (j * 4) = .string (S j) ∧ F (j * 4 + 1) = .int .i64 j ∧ F (j * 4 + 2) = .slice none 0 0 ∧ F (j * 4 + 3) = .slice none 0 0

/-- A case at block b whose holders lie in block g. -/
def Built (w : World) (b g n : Nat) (S : Nat → ByteArray) : Prop :=
  w.cell? ⟨b, 7, none⟩ = some (.slice (some ⟨g, 0, none⟩) n n) ∧ ∃ F, w.rowIs g 72 (n * 4) F ∧ Filled n S F

theorem rowIs_of_owns {w : World} {base g n cap : Nat} {xs : List Value} (h : w.ownsRow base 72 4 (.slice (some ⟨g, 0, none⟩) n cap) n xs) (hc : cap = n) : ∃ F, w.rowIs g 72 (n * 4) F := by
  subst hc
  rcases h.2 with ⟨h', _⟩ | ⟨g', cap', cur, h', _, hg, _, _, hs, _⟩
  · simp at h'
  · simp only [Value.slice.injEq, Option.some.injEq, Addr.mk.injEq, and_true, true_and] at h'
    obtain ⟨rfl, rfl⟩ := h'
    exact ⟨fun i => cur[i]?.getD (.bool false), cur, hg, hs, fun i hi => by
      have hi' : i < cur.size := by omega
      simp [Array.getElem?_eq_getElem hi']⟩

theorem Filled.step {k : Nat} {S : Nat → ByteArray} {F : Nat → Value} (h : Filled k S F) {v3 v2 v1 v0 : Value} (e0 : v0 = .string (S k)) (e1 : v1 = .int .i64 k) (e2 : v2 = .slice none 0 0) (e3 : v3 = .slice none 0 0) :
    Filled (k + 1) S (fun j => if j = k * 4 + 3 then v3 else if j = k * 4 + 2 then v2 else if j = k * 4 + 1 then v1 else if j = k * 4 then v0 else F j) := by
  intro j hj
  subst e0 e1 e2 e3
  by_cases hjk : j = k
  · subst hjk
    refine ⟨?_, ?_, ?_, ?_⟩ <;> dsimp only
    · rw [if_neg (by omega), if_neg (by omega), if_neg (by omega), if_pos rfl]
    · rw [if_neg (by omega), if_neg (by omega), if_pos rfl]
    · rw [if_neg (by omega), if_pos rfl]
    · rw [if_pos rfl]
  · have := h j (by omega)
    refine ⟨?_, ?_, ?_, ?_⟩ <;> (dsimp only; rw [if_neg (by omega), if_neg (by omega), if_neg (by omega), if_neg (by omega)])
    · exact this.1
    · exact this.2.1
    · exact this.2.2.1
    · exact this.2.2.2

set_option maxRecDepth 100000 in
set_option maxHeartbeats 400000 in
theorem build_any (a : Option Addr) (n cap : Nat) (S : Nat → ByteArray) (w : World) (hn : n ≤ 1024) (hs : Strs w a n S) :
    Calls Yba.prog 8 #[.slice a n cap] w fun e w' => ∃ b g, e = .returned (.pointer (some ⟨b, 0, none⟩)) ∧ Built w' b g n S ∧ Below w.heap.size w w' := by
  obtain ⟨i0, hi, hz0, hz1, hz2⟩ := info_parts Yba.info72
  go_enter Yba.func8, Yba.ntmps8
  go_wp2_with (at_make; refine wpList_make_full _ rfl _ _ 37 rfl w.heap.size 72 i0 _ 4 Yba.underlying37 hi hz0 hz1 .i64 .i64 _ _ n rfl rfl rfl rfl (by rw [hz2]; omega) (by unfold maxLen; omega) (Nat.le_refl _) ?_; intro w1 hown hg1)
  go_loopw [4] (fun i wr => ∃ k : Nat, k ≤ n ∧ i = .int .i64 k ∧ ∃ F, wr.rowIs w.heap.size 72 (n * 4) F ∧ Filled k S F ∧ Below w.heap.size w wr) (fun i _ => n - (intOf i).toNat)
  case atStart =>
    obtain ⟨F, hF⟩ := rowIs_of_owns hown rfl
    exact ⟨0, Nat.zero_le _, rfl, F, hF, fun j hj => by omega, (Below.refl _ _).grown hg1 (Nat.le_refl _) (fun j hj => by cases hj)⟩
  case round =>
    obtain ⟨k, hk, rfl, F, hrow, hfil, hnx⟩ := hrel
    clear hown hg1 hi hz0 hz1 hz2
    by_cases hlt : k < n
    · rcases hs with h | ⟨b, off, ha, hc⟩
      · omega
      subst ha
      have hb : b < w.heap.size := Go.block_lt_of_cell (hc k hlt)
      have c0 : wr.cell? ⟨b, off + k, none⟩ = some (.string (S k)) := (hnx.cell hb).trans (hc k hlt)
      have r0 := hrow.cell (i := k * 4) (by omega)
      have r1 := hrow.cell (i := k * 4 + 1) (by omega)
      have r2 := hrow.cell (i := k * 4 + 2) (by omega)
      have r3 := hrow.cell (i := k * 4 + 3) (by omega)
      have f0 := hrow.frozen (k * 4)
      have f1 := hrow.frozen (k * 4 + 1)
      have f2 := hrow.frozen (k * 4 + 2)
      have f3 := hrow.frozen (k * 4 + 3)
      go_wp2
      go_roundw
      case rel => 
        exact ⟨k + 1, by omega, by go_num, _, (((hrow.set (k * 4) _).set (k * 4 + 1) _).set (k * 4 + 2) _).set (k * 4 + 3) _, hfil.step rfl rfl rfl rfl, (((hnx.setCell (Nat.le_refl _) _).setCell (Nat.le_refl _) _).setCell (Nat.le_refl _) _).setCell (Nat.le_refl _) _⟩
      case measure => simp [intOf]; omega
    · go_wp2
      go_ret
      have : k = n := by omega
      subst this
      refine ⟨wr.heap.size, w.heap.size, rfl, ⟨?_, F, hrow.alloc _, hfil⟩, hnx.alloc hnx.size _⟩
      rw [World.cell?_alloc_at _ _ _ _ rfl]; rfl

theorem neq70 (w : World) : (binOp .neq 70 (.slice none 0 0) (.slice none 0 0)).run Yba.prog w = .ok (.bool false) w := by kernel_rfl
theorem neq22 (w : World) : (binOp .neq 22 (.slice none 0 0) (.slice none 0 0)).run Yba.prog w = .ok (.bool false) w := by kernel_rfl

/-- What FindHolder answers: the first holder of that id, or 0 and false. -/
def Hit (n : Nat) (S : Nat → ByteArray) (p : ByteArray) (i : Int) (ok : Bool) : Prop :=
  (ok = true ∧ ∃ k : Nat, k < n ∧ i = (k : Int) ∧ ((S k).toList == p.toList) = true ∧ ∀ j, j < k → ((S j).toList == p.toList) = false) ∨
  (ok = false ∧ i = 0 ∧ ∀ j, j < n → ((S j).toList == p.toList) = false)

theorem Built.below {w w' : World} {b g n : Nat} {S : Nat → ByteArray} (h : Built w b g n S) (hb : Below w.heap.size w w') : Built w' b g n S := by
  obtain ⟨h7, F, hF, hfil⟩ := h
  exact ⟨(hb.cell (p := ⟨b, 7, none⟩) (block_lt_of_cell h7)).trans h7, F, hF.of_block (hb.block _ hF.lt), hfil⟩

set_option maxRecDepth 100000 in
set_option maxHeartbeats 400000 in
theorem find_any (b g n : Nat) (S : Nat → ByteArray) (p : ByteArray) (w : World) (hn : n ≤ 1024) (hB : Built w b g n S) :
    Calls Yba.prog 9 #[.pointer (some ⟨b, 0, none⟩), .string p] w fun e w' => ∃ i ok, e = .returned (.tuple #[.int .i64 i, .bool ok]) ∧ Hit n S p i ok ∧ Below w.heap.size w w' := by
  obtain ⟨h7, F, hrow, hfil⟩ := hB
  go_enter Yba.func9, Yba.ntmps9
  go_wp2
  go_loopw [6, 7, 13] (fun _ _ i wr => ∃ k : Nat, k ≤ n ∧ i = .int .i64 k ∧ (∀ j, j < k → ((S j).toList == p.toList) = false) ∧ Below w.heap.size w wr) (fun _ _ i _ => n - (intOf i).toNat)
  case atStart => exact ⟨0, Nat.zero_le _, rfl, fun j hj => by omega, Below.refl _ _⟩
  case round =>
    obtain ⟨k, hk, rfl, hno, hnx⟩ := hrel
    by_cases hlt : k < n
    · have hg := hrow.lt
      have hf := hfil k hlt
      have c0 : wr.cell? ⟨g, k * 4, none⟩ = some (.string (S k)) := by rw [hnx.cell hg, hrow.cell (by omega), hf.1]
      have c1 : wr.cell? ⟨g, k * 4 + 1, none⟩ = some (.int .i64 k) := by rw [hnx.cell hg, hrow.cell (by omega), hf.2.1]
      have c2 : wr.cell? ⟨g, k * 4 + 2, none⟩ = some (.slice none 0 0) := by rw [hnx.cell hg, hrow.cell (by omega), hf.2.2.1]
      have c3 : wr.cell? ⟨g, k * 4 + 3, none⟩ = some (.slice none 0 0) := by rw [hnx.cell hg, hrow.cell (by omega), hf.2.2.2]
      clear hf
      have HN : Hid (∀ j, j < k → ((S j).toList == p.toList) = false) := hno
      clear hno
      go_wp2
      · have hhit : ((S k).toList == p.toList) = true := by assumption
        go_ret2
        exact ⟨_, _, rfl, .inl ⟨rfl, k, hlt, rfl, hhit, HN.out⟩, hnx.alloc hnx.size _⟩
      · have hmiss : ((S k).toList == p.toList) = false := by assumption
        go_roundw
        case rel =>
          refine ⟨k + 1, by omega, by go_num, fun j hj => ?_, hnx.alloc hnx.size _⟩
          by_cases hjk : j = k
          · subst hjk; exact hmiss
          · exact HN.out j (by omega)
        case measure => simp [intOf]; omega
    · have : k = n := by omega
      subst this
      go_wp2
      go_ret2
      exact ⟨_, _, rfl, .inr ⟨rfl, rfl, hno⟩, hnx⟩

set_option maxRecDepth 100000 in
set_option maxHeartbeats 400000 in
theorem kept_any (a : Option Addr) (b g n cap : Nat) (S : Nat → ByteArray) (w : World) (hn : n ≤ 1024) (hB : Built w b g n S) (hs : Strs w a n S) :
    Calls Yba.prog 10 #[.pointer (some ⟨b, 0, none⟩), .slice a n cap] w fun e w' => e = .returned (.bool true) ∧ Below w.heap.size w w' := by
  obtain ⟨h7, F, hrow, hfil⟩ := hB
  have q70 := neq70
  have q22 := neq22
  go_enter Yba.func10, Yba.ntmps10
  go_wp2
  go_loopw [5] (fun i wr => ∃ k : Nat, k ≤ n ∧ i = .int .i64 k ∧ ∃ m, wr = w.drewN m) (fun i _ => n - (intOf i).toNat)
  case atStart => exact ⟨0, Nat.zero_le _, rfl, 0, rfl⟩
  case round =>
    obtain ⟨k, hk, rfl, m, rfl⟩ := hrel
    by_cases hlt : k < n
    · rcases hs with h | ⟨b', off, ha, hc⟩
      · omega
      subst ha
      have hf := hfil k hlt
      have ci := hc k hlt
      have c0 : w.cell? ⟨g, k * 4, none⟩ = some (.string (S k)) := by rw [hrow.cell (by omega), hf.1]
      have c1 : w.cell? ⟨g, k * 4 + 1, none⟩ = some (.int .i64 k) := by rw [hrow.cell (by omega), hf.2.1]
      have c2 : w.cell? ⟨g, k * 4 + 2, none⟩ = some (.slice none 0 0) := by rw [hrow.cell (by omega), hf.2.2.1]
      have c3 : w.cell? ⟨g, k * 4 + 3, none⟩ = some (.slice none 0 0) := by rw [hrow.cell (by omega), hf.2.2.2]
      clear hf
      have i1 : (0 : Int) ≤ (k : Int) := by omega
      have i2 : (k : Int) < (n : Int) := by omega
      go_wp2
      go_quiet (fail)
      go_wp2
      go_roundw
      case rel => exact ⟨k + 1, by omega, by go_num, m + nq, rfl⟩
      case measure => simp [intOf]; omega
    · go_wp2
      go_ret
      exact ⟨rfl, rfl, rfl, rfl, Nat.le_refl _, fun _ _ => rfl⟩

theorem Strs.below {w w' : World} {a : Option Addr} {n : Nat} {S : Nat → ByteArray} (h : Strs w a n S) (hb : Below w.heap.size w w') : Strs w' a n S := by
  rcases h with h | ⟨b, off, ha, hc⟩
  · exact .inl h
  · exact .inr ⟨b, off, ha, fun j hj => (hb.cell (p := ⟨b, off + j, none⟩) (block_lt_of_cell (hc j hj))).trans (hc j hj)⟩

theorem Below.andThen {w w1 w2 : World} (h : Below w.heap.size w w1) (k : Below w1.heap.size w1 w2) : Below w.heap.size w w2 := h.trans (k.mono h.size)

end Go.Proofs.Ybulkbhgm
