/-
  Contracts of configure and of the two instances of newReceive, at timeout options.
-/
import Derived.Test.YbulkbhswFmtProg
import Derived.WalkKit
import Derived.OpenShut
import Derived.Deep.QuietTactic
import Derived.BigQuiet
import Derived.WalkSpells
import Derived.Deep.AppendLies
namespace Go.Proofs.YbulkbhswFmt
open Go.RowKit

/-- The timeout that the first k options give. -/
def last (C : Nat → Int) : Nat → Int
  | 0 => 1000000000
  | k + 1 => C k
/-- The options in memory. -/
def Opts (w : World) (a : Option Addr) (n : Nat) (C : Nat → Int) : Prop :=
  n = 0 ∨ ∃ g, a = some ⟨g, 0, none⟩ ∧ ∀ j, j < n → w.cell? ⟨g, j * 2, none⟩ = some (.int .i64 1) ∧ w.cell? ⟨g, j * 2 + 1, none⟩ = some (.int .i64 (C j))
theorem Opts.below {w w' : World} {a : Option Addr} {n : Nat} {C : Nat → Int} (h : Opts w a n C) (hb : Below w.heap.size w w') : Opts w' a n C := by
  rcases h with h | ⟨g, ha, hc⟩
  · exact .inl h
  · refine .inr ⟨g, ha, fun j hj => ?_⟩
    have hg : g < w.heap.size := block_lt_of_cell (hc j hj).1
    exact ⟨(hb.cell (p := ⟨g, j * 2, none⟩) hg).trans (hc j hj).1, (hb.cell (p := ⟨g, j * 2 + 1, none⟩) hg).trans (hc j hj).2⟩

theorem two_cells {w : World} {B : Nat} {t : TypeId} {v0 v1 : Value} (h : w.heap[B]? = some (.cells #[v0, v1] t (0, 0))) :
    w.cell? ⟨B, 0, none⟩ = some v0 ∧ w.cell? ⟨B, 1, none⟩ = some v1 ∧ w.frozen? ⟨B, 0, none⟩ = false ∧ w.frozen? ⟨B, 1, none⟩ = false ∧ B < w.heap.size := by
  refine ⟨?_, ?_, frozen_of_row w B _ _ t h, frozen_of_row w B _ _ t h, (Array.getElem?_eq_some_iff.1 h).1⟩ <;> (rw [cell_of_row w B _ _ t (0, 0) h]; rfl)

theorem Ybaf.size47 : (Ybaf.prog.info? 47).map (·.size) = some 2 := by kernel_rfl
theorem Ybaf.size34 : (Ybaf.prog.info? 34).map (·.size) = some 2 := by kernel_rfl
theorem Ybaf.size37 : (Ybaf.prog.info? 37).map (·.size) = some 2 := by kernel_rfl

set_option maxRecDepth 100000 in
set_option maxHeartbeats 400000 in
theorem configure_any (nm : ByteArray) (a : Option Addr) (n cap : Nat) (C : Nat → Int) (w : World) (hn : n ≤ 1024) (hs : Opts w a n C) :
    Calls Ybaf.prog 9 #[.string nm, .agg #[.int .i64 1000000000, .int .i64 0], .int .i64 1, .bool false, .slice a n cap] w fun e w' => e = .returned (.agg #[.int .i64 (last C n), .int .i64 0]) ∧ Below w.heap.size w w' := by
  go_enter Ybaf.func9, Ybaf.ntmps9
  go_wp2
  go_loopw [11, 12, 15] (fun _ _ i wr => ∃ k : Nat, k ≤ n ∧ i = .int .i64 k ∧ wr.heap[w.heap.size]? = some (.cells #[.int .i64 (last C k), .int .i64 0] 47 (0, 0)) ∧ wr.heap[w.heap.size + 1]? = some (.cells #[.int .i64 0, .int .i64 0] 47 (0, 0)) ∧ Below w.heap.size w wr) (fun _ _ i _ => n - (intOf i).toNat)
  case atStart =>
    refine ⟨0, Nat.zero_le _, rfl, ?_, ?_, ((Below.refl _ _).alloc (Nat.le_refl _) _).alloc (by simp) _⟩
    · exact heap_alloc2_old w _ _
    · exact heap_alloc2_new w _ _
  case round =>
    obtain ⟨k, hk, rfl, hB, hB1, hnx⟩ := hrel
    obtain ⟨c0, c1, z0, z1, hlt0⟩ := two_cells hB
    obtain ⟨d0, d1, y0, y1, hlt1⟩ := two_cells hB1
    by_cases hlt : k < n
    · rcases id hs with h | ⟨g, ha, hc⟩
      · omega
      subst ha
      have hg : g < w.heap.size := block_lt_of_cell (hc k hlt).1
      have o0 := (hnx.cell (p := ⟨g, k * 2, none⟩) hg).trans (hc k hlt).1
      have o1 := (hnx.cell (p := ⟨g, k * 2 + 1, none⟩) hg).trans (hc k hlt).2
      clear hc
      go_wp2
      go_roundw
      case rel =>
        refine ⟨k + 1, by omega, by go_num, ?_, ?_, (hnx.setCell (Nat.le_refl _) _).alloc (by have := hnx.size; simp [World.setCell]; omega) _⟩
        · rw [Below.heap_alloc _ _ _ (by simp [World.setCell]; exact hlt0), heap_setCell_same _ _ _ _ _ _ hB]; rfl
        · rw [Below.heap_alloc _ _ _ (by simp [World.setCell]; exact hlt1), heap_setCell_other _ _ _ _ (by simp)]; exact hB1
      case measure => simp [intOf]; omega
    · have : k = n := by omega
      subst this
      go_wp2
      have hres := heap_setCell_same _ _ 1 _ _ (.int .i64 0) (heap_setCell_same wr _ 0 _ _ (.int .i64 (last C k)) hB1)
      refine bodyPost_ret (v := .agg #[.int .i64 (last C k), .int .i64 0]) (results_cell_row Ybaf.results9 _ _ _ _ _ _ _ rfl hres Ybaf.underlying47 rfl Ybaf.size47) rfl ⟨rfl, ?_⟩
      exact (hnx.setCell (by simp) _).setCell (by simp) _

set_option maxRecDepth 100000 in
set_option maxHeartbeats 400000 in
theorem receive5_any (nm : ByteArray) (p : Addr) (a : Option Addr) (n cap : Nat) (C : Nat → Int) (w : World) (hn : n ≤ 1024) (hs : Opts w a n C) :
    Calls Ybaf.prog 5 #[.string nm, .iface 28 (.pointer (some p)), .slice a n cap] w fun e w' => e = .returned (.agg #[.iface 28 (.pointer (some p)), .int .i64 (last C n)]) ∧ Below w.heap.size w w' := by
  go_enter Ybaf.func5, Ybaf.ntmps5
  go_wp2_with fail
  refine (configure_any nm a n cap C _ hn (by exact hs.below ((Below.refl _ _).alloc (Nat.le_refl _) _))).mono ?_
  rintro e w1 ⟨rfl, hb⟩
  have hB1 : w1.heap[w.heap.size]? = some (.cells #[.nilIface, .int .i64 0] 34 (0, 0)) := by rw [hb.block _ (by simp)]; exact Go.heap_alloc_new w _
  obtain ⟨c0, c1, z0, z1, hlt⟩ := two_cells hB1
  have hbw : Below w.heap.size w w1 := ((Below.refl _ _).alloc (Nat.le_refl _) _).trans (hb.mono (by simp))
  clear hb
  go_wp2
  have hres := heap_setCell_same _ _ 1 _ _ (.int .i64 (last C n)) (heap_setCell_same w1 _ 0 _ _ (.iface 28 (.pointer (some p))) hB1)
  refine bodyPost_ret (v := .agg #[.iface 28 (.pointer (some p)), .int .i64 (last C n)]) (results_cell_row Ybaf.results5 _ _ _ _ _ _ _ rfl ((Below.heap_alloc _ _ _ (by simp [World.setCell]; exact hlt)).trans hres) Ybaf.underlying34 rfl Ybaf.size34) rfl ⟨rfl, ?_⟩
  exact ((hbw.setCell (Nat.le_refl _) _).setCell (Nat.le_refl _) _).alloc (by have := hbw.size; simp [World.setCell]; omega) _

set_option maxRecDepth 100000 in
set_option maxHeartbeats 400000 in
theorem receive6_any (nm : ByteArray) (p : Addr) (a : Option Addr) (n cap : Nat) (C : Nat → Int) (w : World) (hn : n ≤ 1024) (hs : Opts w a n C) :
    Calls Ybaf.prog 6 #[.string nm, .iface 28 (.pointer (some p)), .slice a n cap] w fun e w' => e = .returned (.agg #[.iface 28 (.pointer (some p)), .int .i64 (last C n)]) ∧ Below w.heap.size w w' := by
  go_enter Ybaf.func6, Ybaf.ntmps6
  go_wp2_with fail
  refine (configure_any nm a n cap C _ hn (by exact hs.below ((Below.refl _ _).alloc (Nat.le_refl _) _))).mono ?_
  rintro e w1 ⟨rfl, hb⟩
  have hB1 : w1.heap[w.heap.size]? = some (.cells #[.nilIface, .int .i64 0] 37 (0, 0)) := by rw [hb.block _ (by simp)]; exact Go.heap_alloc_new w _
  obtain ⟨c0, c1, z0, z1, hlt⟩ := two_cells hB1
  have hbw : Below w.heap.size w w1 := ((Below.refl _ _).alloc (Nat.le_refl _) _).trans (hb.mono (by simp))
  clear hb
  go_wp2
  have hres := heap_setCell_same _ _ 1 _ _ (.int .i64 (last C n)) (heap_setCell_same w1 _ 0 _ _ (.iface 28 (.pointer (some p))) hB1)
  refine bodyPost_ret (v := .agg #[.iface 28 (.pointer (some p)), .int .i64 (last C n)]) (results_cell_row Ybaf.results6 _ _ _ _ _ _ _ rfl ((Below.heap_alloc _ _ _ (by simp [World.setCell]; exact hlt)).trans hres) Ybaf.underlying37 rfl Ybaf.size37) rfl ⟨rfl, ?_⟩
  exact ((hbw.setCell (Nat.le_refl _) _).setCell (Nat.le_refl _) _).alloc (by have := hbw.size; simp [World.setCell]; omega) _

end Go.Proofs.YbulkbhswFmt
