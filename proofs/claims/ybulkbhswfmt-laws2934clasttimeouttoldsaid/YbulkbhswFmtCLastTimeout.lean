/-
  LawS2934CLastTimeout: the walk over the contracts of YbulkbhswFmtWait, the row's step at whatever fmt answers (no way of this law comes to fmt), and the told and tied card.
-/
import Derived.Test.YbulkbhswFmtRows
import Derived.Test.YbulkbhswFmtTie
import Derived.Test.YbulkbhswFmtCards
import Derived.Test.YbulkbhswFmtWait
import Derived.LaidEql
import Derived.ProofKit
import Derived.ChangeOld
import Derived.ChangeVars
import Derived.Below
import Derived.WalkSmall
import Derived.Stop.JoinedAt
import Derived.Stop.JoinedTold
import Derived.Stop.LaidErr
import Derived.SevenTiedAt
namespace Go.Proofs.YbulkbhswFmt.CLastTimeout
open Go.ChangeShapes Go.WideShapes Go.ChangeAt Go.RowKit Go.Kit
open Go.Extern.Stop Go.Stop Go.Extern

theorem info27 : (Ybaf.prog.info? 27).map (fun i => (i.zero, i.size, i.bytes)) = some (some (.agg #[.int .i64 0, .int .i64 0]), 2, 16) := by kernel_rfl

theorem neq32 (w : World) (p : Addr) : (binOp .neq 32 (.iface 28 (.pointer (some p))) (.iface 28 (.pointer (some p)))).run Ybaf.prog w = .ok (.bool false) w := by
  have h28 : ((Ybaf.prog.info? 28).map fun i => i.comparable) = some true := by kernel_rfl
  have h30 : (Ybaf.prog.info? 30).isSome = true := by kernel_rfl
  cases hq : Ybaf.prog.info? 28 with
  | none => simp [hq] at h28
  | some i =>
    cases hr : Ybaf.prog.info? 30 with
    | none => simp [hr] at h30
    | some j =>
      have hc : i.comparable = true := by simpa [hq] using h28
      simp only [binOp]
      simp [Op.equal, Op.maxDepth, run_equalIn_iface_ptr_same w 9998 p Ybaf.underlying32 Ybaf.underlying28 hq hc hr]

/-- What the walk is told of the numbers that came in. -/
def Ints (w : World) (a : Option Addr) (n : Nat) (C : Nat → Int) : Prop := n = 0 ∨ ∃ b off, a = some ⟨b, off, none⟩ ∧ ∀ j, j < n → w.cell? ⟨b, off + j, none⟩ = some (.int .i64 (C j))

/-- The cells of the first k options. -/
def flat (C : Nat → Int) : Nat → List Value
  | 0 => []
  | k + 1 => flat C k ++ [.int .i64 1, .int .i64 (C k)]
theorem flat_length (C : Nat → Int) : ∀ k, (flat C k).length = k * 2
  | 0 => rfl
  | k + 1 => by simp [flat, flat_length C k]; omega
theorem flat_get (C : Nat → Int) : ∀ k j, j < k → (flat C k)[j * 2]? = some (.int .i64 1) ∧ (flat C k)[j * 2 + 1]? = some (.int .i64 (C j))
  | 0, j, h => by omega
  | k + 1, j, h => by
    unfold flat
    by_cases hj : j < k
    · have := flat_get C k j hj
      rw [List.getElem?_append_left (by rw [flat_length]; omega), List.getElem?_append_left (by rw [flat_length]; omega)]
      exact this
    · have hjk : j = k := by omega
      subst hjk
      rw [List.getElem?_append_right (by rw [flat_length]; omega), List.getElem?_append_right (by rw [flat_length]; omega), flat_length]
      simp
theorem opts_of {w : World} {base : Nat} {a : Option Addr} {n cap : Nat} {C : Nat → Int} (h : w.ownsRow base 27 2 (.slice a n cap) n (flat C n)) : Opts w a n C := by
  by_cases hn : n = 0
  · exact .inl hn
  · obtain ⟨g, cap', hv, _, _⟩ := h.form (by omega)
    simp only [Value.slice.injEq, true_and] at hv
    obtain ⟨rfl, rfl⟩ := hv
    refine .inr ⟨g, rfl, fun j hj => ?_⟩
    rw [h.cellAt (j * 2) (by omega), h.cellAt (j * 2 + 1) (by omega)]
    exact flat_get C n j hj

theorem two_oneCell (d : Int) : ∀ u ∈ [Value.int .i64 1, Value.int .i64 d], u.oneCell' = true := by
  intro u hu
  simp at hu
  rcases hu with rfl | rfl <;> rfl

set_option maxRecDepth 100000 in
set_option maxHeartbeats 800000 in
theorem law_any (a : Option Addr) (n cap : Nat) (only : Bool) (C : Nat → Int) (w : World) (hnil : a = none → n = 0) (hs : Ints w a n C) :
    Calls Ybaf.prog 3 #[.slice a n cap, .bool only] w fun e w' => e = .returned (.bool true) ∧ Below w.heap.size w w' := by
  by_cases hn : n ≤ 1024
  · have hn' : ¬ (1024 : Int) < (n : Int) := by omega
    obtain ⟨i0, hi, hz0, hz1, hz2⟩ := info_parts info27
    have q32 := neq32
    have qS : ∀ (w : World) (x : Addr) (n c : Nat), (binOp .neq 22 (.slice (some x) n c) (.slice none 0 0)).run Ybaf.prog w = .ok (.bool true) w := fun w x n c => by
      have := run_neq_slice_nil_any (P := Ybaf.prog) w 22 2 (some x) n c 0 0 Ybaf.underlying22
      simpa using this
    have qN : ∀ (w : World) (n c : Nat), (binOp .neq 22 (.slice none n c) (.slice none 0 0)).run Ybaf.prog w = .ok (.bool false) w := fun w n c => by
      have := run_neq_slice_nil_any (P := Ybaf.prog) w 22 2 none n c 0 0 Ybaf.underlying22
      simpa using this
    cases a with
    | none =>
      have h0 : Hid (n = 0) := hnil rfl
      clear hnil
      go_enter Ybaf.func3, Ybaf.ntmps3
      go_wp2
      have hown0 : w.ownsRow w.heap.size 27 2 (.slice none 0 0) 0 (flat C 0) := World.ownsRow_nil _ _ _ _
      have hbel0 : Below w.heap.size w w := Below.refl _ _
      go_loopw [5, 7, 27] (fun v _ i wr => ∃ (k : Nat) (ao : Option Addr) (co : Nat), k ≤ n ∧ i = .int .i64 k ∧ v = .slice ao k co ∧ wr.ownsRow w.heap.size 27 2 (.slice ao k co) k (flat C k) ∧ Below w.heap.size w wr) (fun _ _ i _ => n - (intOf i).toNat)
      case atStart => exact ⟨0, _, _, Nat.zero_le _, rfl, rfl, hown0, hbel0⟩
      case round =>
        obtain ⟨k, ao, co, hk, rfl, rfl, hown, hnx⟩ := hrel
        clear hown0 hbel0
        by_cases hlt : k < n
        · have := h0.out
          omega
        · have hkn : k = n := by omega
          subst hkn
          have hopt := opts_of hown
          clear hown
          go_wp2
          go_loop [8, 9] (fun v i => ∃ j : Nat, j ≤ k ∧ i = .int .i64 j ∧ v = .int .i64 (last C j)) (fun _ i => k - (intOf i).toNat)
          case atStart => exact ⟨0, Nat.zero_le _, rfl, rfl⟩
          case round =>
            obtain ⟨j, hj, rfl, rfl⟩ := hrel
            by_cases hltj : j < k
            · have := h0.out
              omega
            · have hjk : j = k := by omega
              subst hjk
              cases only
              · go_wp2_with fail
                refine (receive6_any _ _ ao j co C _ hn (by exact hopt.below ((Below.refl _ _).alloc (Nat.le_refl _) _))).mono ?_
                rintro e w3 ⟨rfl, hb3⟩
                have hsm : w3.cell? ⟨wr.heap.size, 0, none⟩ = some (.int .i64 0) := by
                  rw [hb3.cell (by simp), World.cell?_alloc_at _ _ _ _ rfl]; rfl
                have hso : wr.heap.size < w3.heap.size := by have := hb3.size; simp at this; omega
                have hnx3 : Below w.heap.size w w3 := (hnx.alloc hnx.size _).trans (hb3.mono (by have := hnx.size; simp; omega))
                have hopt3 := (hopt.below ((Below.refl _ _).alloc (Nat.le_refl _) (.cells #[.int .i64 0] 30))).below hb3
                clear hb3 hopt
                go_wp2
                go_loopw [16] (fun i wq => ∃ t : Nat, t ≤ j ∧ i = .int .i64 t ∧ ∃ m, wq = (w3.alloc (.cells #[.iface 28 (.pointer (some ⟨wr.heap.size, 0, none⟩)), .int .i64 (last C j)] 37)).drewN m) (fun i _ => j - (intOf i).toNat)
                case atStart => exact ⟨0, Nat.zero_le _, rfl, 0, rfl⟩
                case round =>
                  obtain ⟨t, ht, rfl, m, rfl⟩ := hrel
                  by_cases hltt : t < j
                  · have := h0.out
                    omega
                  · go_wp2
                    go_ret
                    exact ⟨rfl, ⟨hnx3.os, hnx3.tape, hnx3.output, by have := hnx3.size; simp; omega, fun q hq => by rw [← hnx3.block q hq]; exact Below.heap_alloc _ _ _ (by have := hnx3.size; omega)⟩⟩
              · go_wp2_with fail
                refine (receive5_any _ _ ao j co C _ hn (by exact hopt.below ((Below.refl _ _).alloc (Nat.le_refl _) _))).mono ?_
                rintro e w3 ⟨rfl, hb3⟩
                have hsm : w3.cell? ⟨wr.heap.size, 0, none⟩ = some (.int .i64 0) := by
                  rw [hb3.cell (by simp), World.cell?_alloc_at _ _ _ _ rfl]; rfl
                have hso : wr.heap.size < w3.heap.size := by have := hb3.size; simp at this; omega
                have hnx3 : Below w.heap.size w w3 := (hnx.alloc hnx.size _).trans (hb3.mono (by have := hnx.size; simp; omega))
                have hopt3 := (hopt.below ((Below.refl _ _).alloc (Nat.le_refl _) (.cells #[.int .i64 0] 30))).below hb3
                clear hb3 hopt
                go_wp2
                go_loopw [16] (fun i wq => ∃ t : Nat, t ≤ j ∧ i = .int .i64 t ∧ ∃ m, wq = (w3.alloc (.cells #[.iface 28 (.pointer (some ⟨wr.heap.size, 0, none⟩)), .int .i64 (last C j)] 34)).drewN m) (fun i _ => j - (intOf i).toNat)
                case atStart => exact ⟨0, Nat.zero_le _, rfl, 0, rfl⟩
                case round =>
                  obtain ⟨t, ht, rfl, m, rfl⟩ := hrel
                  by_cases hltt : t < j
                  · have := h0.out
                    omega
                  · go_wp2
                    go_ret
                    exact ⟨rfl, ⟨hnx3.os, hnx3.tape, hnx3.output, by have := hnx3.size; simp; omega, fun q hq => by rw [← hnx3.block q hq]; exact Below.heap_alloc _ _ _ (by have := hnx3.size; omega)⟩⟩
    | some x =>
      go_enter Ybaf.func3, Ybaf.ntmps3
      go_wp2_with (at_make; refine wpList_make_own _ rfl _ _ 23 rfl w.heap.size 27 i0 _ 2 Ybaf.underlying23 hi hz0 hz1 .i64 .i64 _ n rfl rfl rfl (by rw [hz2]; omega) (by unfold maxLen; omega) (Nat.le_refl _) ?_; intro w1 hown0 hg1)
      have hbel0 : Below w.heap.size w w1 := (Below.refl _ _).grown hg1 (Nat.le_refl _) (fun j hj => by cases hj)
      clear hg1
      go_loopw [5, 7, 27] (fun v _ i wr => ∃ (k : Nat) (ao : Option Addr) (co : Nat), k ≤ n ∧ i = .int .i64 k ∧ v = .slice ao k co ∧ wr.ownsRow w.heap.size 27 2 (.slice ao k co) k (flat C k) ∧ Below w.heap.size w wr) (fun _ _ i _ => n - (intOf i).toNat)
      case atStart => exact ⟨0, _, _, Nat.zero_le _, rfl, rfl, hown0, hbel0⟩
      case round =>
        obtain ⟨k, ao, co, hk, rfl, rfl, hown, hnx⟩ := hrel
        clear hown0 hbel0
        by_cases hlt : k < n
        · rcases id hs with h | ⟨b, off, ha, hc⟩
          · omega
          cases ha
          have hb : b < w.heap.size := block_lt_of_cell (hc k hlt)
          have ck := (hnx.cell (p := ⟨b, off + k, none⟩) hb).trans (hc k hlt)
          clear hc
          go_wp2_with (at_builtin; refine wpList_append_lies _ (by rfl) _ _ 23 (by rfl) w.heap.size 27 i0 _ 2 16 Ybaf.underlying23 hi hz0 hz1 hz2 rfl (by omega) _ k (flat C k) (by rfl) (hown.alloc _) ⟨wr.heap.size, 0, none⟩ 1 1 [.int .i64 1, .int .i64 (C k)] (by rfl) rfl (World.news_of_block (Go.heap_alloc_new wr _)) (two_oneCell _) (by omega) (by unfold maxLen; omega) (by omega) (by have := hnx.size; simp; omega) (wr.heap.size + 1) (by simp) ?_)
          intro g co' w2 hown2 hg2 _ _
          have hnx2 := (hnx.alloc hnx.size _).grown hg2 (by have := hnx.size; simp; omega) (fun j hj => (hown.lt j hj).1)
          clear hown hg2 hnx
          go_wp2
          go_roundw
          case rel => exact ⟨k + 1, _, _, by omega, by go_num, rfl, hown2, hnx2⟩
          case measure => simp [intOf]; omega
        · have hkn : k = n := by omega
          subst hkn
          have hopt := opts_of hown
          clear hown
          go_wp2
          go_loop [8, 9] (fun v i => ∃ j : Nat, j ≤ k ∧ i = .int .i64 j ∧ v = .int .i64 (last C j)) (fun _ i => k - (intOf i).toNat)
          case atStart => exact ⟨0, Nat.zero_le _, rfl, rfl⟩
          case round =>
            obtain ⟨j, hj, rfl, rfl⟩ := hrel
            by_cases hltj : j < k
            · rcases id hs with h | ⟨b, off, ha, hc⟩
              · omega
              cases ha
              have hb : b < w.heap.size := block_lt_of_cell (hc j hltj)
              have cj := (hnx.cell (p := ⟨b, off + j, none⟩) hb).trans (hc j hltj)
              clear hc
              go_wp2
              go_round
              case rel => exact ⟨j + 1, by omega, by go_num, rfl⟩
              case measure => simp [intOf]; omega
            · have hjk : j = k := by omega
              subst hjk
              cases only
              · go_wp2_with fail
                refine (receive6_any _ _ ao j co C _ hn (by exact hopt.below ((Below.refl _ _).alloc (Nat.le_refl _) _))).mono ?_
                rintro e w3 ⟨rfl, hb3⟩
                have hsm : w3.cell? ⟨wr.heap.size, 0, none⟩ = some (.int .i64 0) := by
                  rw [hb3.cell (by simp), World.cell?_alloc_at _ _ _ _ rfl]; rfl
                have hso : wr.heap.size < w3.heap.size := by have := hb3.size; simp at this; omega
                have hnx3 : Below w.heap.size w w3 := (hnx.alloc hnx.size _).trans (hb3.mono (by have := hnx.size; simp; omega))
                have hopt3 := (hopt.below ((Below.refl _ _).alloc (Nat.le_refl _) (.cells #[.int .i64 0] 30))).below hb3
                clear hb3 hopt
                go_wp2
                go_loopw [16] (fun i wq => ∃ t : Nat, t ≤ j ∧ i = .int .i64 t ∧ ∃ m, wq = (w3.alloc (.cells #[.iface 28 (.pointer (some ⟨wr.heap.size, 0, none⟩)), .int .i64 (last C j)] 37)).drewN m) (fun i _ => j - (intOf i).toNat)
                case atStart => exact ⟨0, Nat.zero_le _, rfl, 0, rfl⟩
                case round =>
                  obtain ⟨t, ht, rfl, m, rfl⟩ := hrel
                  by_cases hltt : t < j
                  · rcases id hs with h | ⟨b, off, ha, hc⟩
                    · omega
                    cases ha
                    rcases id hopt3 with h | ⟨g, ha, ho⟩
                    · omega
                    subst ha
                    have hb : b < w3.heap.size := Nat.lt_of_lt_of_le (block_lt_of_cell (hc t hltt)) hnx3.size
                    have ct := (hnx3.cell (p := ⟨b, off + t, none⟩) (block_lt_of_cell (hc t hltt))).trans (hc t hltt)
                    obtain ⟨o0, o1⟩ := ho t hltt
                    have hg : g < w3.heap.size := block_lt_of_cell o0
                    have i1 : (0 : Int) ≤ (t : Int) := by omega
                    have i2 : (t : Int) < (j : Int) := by omega
                    clear hc ho
                    go_wp2
                    go_quiet (fail)
                    go_wp2
                    go_roundw
                    case rel => exact ⟨t + 1, by omega, by go_num, _, rfl⟩
                    case measure => simp [intOf]; omega
                  · go_wp2
                    go_ret
                    exact ⟨rfl, ⟨hnx3.os, hnx3.tape, hnx3.output, by have := hnx3.size; simp; omega, fun q hq => by rw [← hnx3.block q hq]; exact Below.heap_alloc _ _ _ (by have := hnx3.size; omega)⟩⟩
              · go_wp2_with fail
                refine (receive5_any _ _ ao j co C _ hn (by exact hopt.below ((Below.refl _ _).alloc (Nat.le_refl _) _))).mono ?_
                rintro e w3 ⟨rfl, hb3⟩
                have hsm : w3.cell? ⟨wr.heap.size, 0, none⟩ = some (.int .i64 0) := by
                  rw [hb3.cell (by simp), World.cell?_alloc_at _ _ _ _ rfl]; rfl
                have hso : wr.heap.size < w3.heap.size := by have := hb3.size; simp at this; omega
                have hnx3 : Below w.heap.size w w3 := (hnx.alloc hnx.size _).trans (hb3.mono (by have := hnx.size; simp; omega))
                have hopt3 := (hopt.below ((Below.refl _ _).alloc (Nat.le_refl _) (.cells #[.int .i64 0] 30))).below hb3
                clear hb3 hopt
                go_wp2
                go_loopw [16] (fun i wq => ∃ t : Nat, t ≤ j ∧ i = .int .i64 t ∧ ∃ m, wq = (w3.alloc (.cells #[.iface 28 (.pointer (some ⟨wr.heap.size, 0, none⟩)), .int .i64 (last C j)] 34)).drewN m) (fun i _ => j - (intOf i).toNat)
                case atStart => exact ⟨0, Nat.zero_le _, rfl, 0, rfl⟩
                case round =>
                  obtain ⟨t, ht, rfl, m, rfl⟩ := hrel
                  by_cases hltt : t < j
                  · rcases id hs with h | ⟨b, off, ha, hc⟩
                    · omega
                    cases ha
                    rcases id hopt3 with h | ⟨g, ha, ho⟩
                    · omega
                    subst ha
                    have hb : b < w3.heap.size := Nat.lt_of_lt_of_le (block_lt_of_cell (hc t hltt)) hnx3.size
                    have ct := (hnx3.cell (p := ⟨b, off + t, none⟩) (block_lt_of_cell (hc t hltt))).trans (hc t hltt)
                    obtain ⟨o0, o1⟩ := ho t hltt
                    have hg : g < w3.heap.size := block_lt_of_cell o0
                    have i1 : (0 : Int) ≤ (t : Int) := by omega
                    have i2 : (t : Int) < (j : Int) := by omega
                    clear hc ho
                    go_wp2
                    go_quiet (fail)
                    go_wp2
                    go_roundw
                    case rel => exact ⟨t + 1, by omega, by go_num, _, rfl⟩
                    case measure => simp [intOf]; omega
                  · go_wp2
                    go_ret
                    exact ⟨rfl, ⟨hnx3.os, hnx3.tape, hnx3.output, by have := hnx3.size; simp; omega, fun q hq => by rw [← hnx3.block q hq]; exact Below.heap_alloc _ _ _ (by have := hnx3.size; omega)⟩⟩
  · have hn' : (1024 : Int) < (n : Int) := by omega
    go_enter Ybaf.func3, Ybaf.ntmps3
    go_wp2
    go_ret
    exact ⟨rfl, Below.refl _ _⟩

theorem own : ownKnob Ybaf.prog.godebug = none := by kernel_rfl
theorem laidOut : laidOutB Ybaf.pinned.checked.prog = true := by kernel_rfl
theorem stops : Ybaf.pinned.checked.prog.stops = Rows.lawS2934CLastTimeoutRow.stops := by kernel_rfl
theorem stopKnobs : Ybaf.pinned.checked.prog.stopKnobs = [] := by kernel_rfl
theorem quiet (os : Os) : Stop.quiet Ybaf.pinned.checked.prog os := by
  intro k hk
  rw [stopKnobs] at hk
  cases hk
theorem cells2 : Ybaf.prog.cellsOf 2 = 1 := by kernel_rfl

/-- A start that fits: the variable as the program's text lays it, a nil slice, false. -/
theorem start (os : Os) (H : Type) (enc : TypeId × Value → H) : ∃ w0 : World, w0.os = os ∧
    (w0.forCall (fun _ _ => 0) ⟨#[], #[.slice none 0 0, .bool false], []⟩).variablesB Ybaf.checked.prog = true ∧
    ((w0.forCall (fun _ _ => 0) ⟨#[], #[.slice none 0 0, .bool false], []⟩).heap.toList.drop Ybaf.checked.prog.globals.size).take ((begin Ybaf.checked.prog (fun _ _ => 0) default).world.heap.size - Ybaf.checked.prog.globals.size) =
      (begin Ybaf.checked.prog (fun _ _ => 0) default).world.heap.toList.drop Ybaf.checked.prog.globals.size ∧
    Input.okWideB Ybaf.checked.prog (w0.forCall (fun _ _ => 0) ⟨#[], #[.slice none 0 0, .bool false], []⟩) 3 ⟨#[], #[.slice none 0 0, .bool false], []⟩ = true ∧
    (OpenSpec.ofChange Rows.lawS2934CLastTimeoutSpec).preRow enc Ybaf.checked.prog Ybaf.f3 Rows.lawS2934CLastTimeoutRow.domain false Rows.lawS2934CLastTimeoutRow.laid (w0.forCall (fun _ _ => 0) ⟨#[], #[.slice none 0 0, .bool false], []⟩).memory #[.slice none 0 0, .bool false] :=
  ⟨{ World.holding Ybaf.prog os ⟨#[], #[], []⟩ with heap := (World.holding Ybaf.prog os ⟨#[], #[], []⟩).heap.modify 0 fun
      | .cells _ t frozen => .cells #[.string ⟨#[]⟩, .string ⟨#[84, 105, 109, 101, 111, 117, 116]⟩, .string ⟨#[70, 111, 114]⟩, .string ⟨#[73, 110, 116, 101, 114, 118, 97, 108]⟩] t frozen
      | o => o },
    rfl, by kernel_rfl, by kernel_rfl, by kernel_rfl,
    OpenSpec.preRow_of_B rfl 8 (by kernel_rfl) (by kernel_rfl) (laidMet_of_run (ps := [.cell 0 0, .cell 0 1, .cell 0 2, .cell 0 3]) 8 (by kernel_rfl) (by kernel_rfl) (by kernel_rfl))⟩

set_option maxRecDepth 100000 in
theorem lifted (os : Os) (started : os.Started) (H : Type) (enc : TypeId × Value → H) :
    ReturnsInTold none {} Ybaf.checked os 3 .any Input.okWide ((OpenSpec.ofChange Rows.lawS2934CLastTimeoutSpec).preRow enc Ybaf.prog Ybaf.f3 Rows.lawS2934CLastTimeoutRow.domain false Rows.lawS2934CLastTimeoutRow.laid)
      (fun F => ((OpenSpec.ofChange Rows.lawS2934CLastTimeoutSpec).at F).post enc Ybaf.prog Ybaf.f3 false true false false) (aloneAtReturn Ybaf.prog) nothingAlways := by
  refine returnsInTold_of_row (C := Ybaf.checked) (s := OpenSpec.ofChange Rows.lawS2934CLastTimeoutSpec) (by kernel_rfl) own started (by kernel_rfl) Ybaf.func3
    (fun F => by
      obtain ⟨w0, h1, h2, h3, h4, h5⟩ := start os H enc
      exact OpenSpec.witness_stopped_at (enc := enc) (C := Ybaf.checked) false w0 _ h1 h2 h3 h4 h5 F) ?_
  intro F W base args ds gs before _ _ hval0 hW _ _ _ _ _
  have hval : ∀ (j : Nat) t v, Ybaf.f3.params[j]? = some t → args[j]? = some v → Value.okWide Ybaf.prog W .any base t v := hval0
  have hW' := hW
  obtain ⟨p, q, hA0, hV0, rfl, _, _⟩ := hW
  have hA : DataW.TrodAll enc Ybaf.prog W 0 (fun _ => true) true Ybaf.f3.params.toList args.toList ds p := hA0
  have hV : DataW.TrodVars enc Ybaf.prog W (fun _ => true) Rows.lawS2934CLastTimeoutSpec.vars gs q := hV0
  rw [Ybaf.params3] at hA hval
  obtain ⟨v0, vs0, d0, ds0, p0, q0, hargs, rfl, rfl, h0, r0⟩ := trodAll_cons hA
  obtain ⟨v1, vs1, d1, ds1, p1, q1, rfl, rfl, rfl, h1, r1⟩ := trodAll_cons r0
  obtain ⟨rfl, rfl, rfl⟩ := trodAll_nil r1
  obtain rfl : args = #[v0, v1] := by cases args; simp_all
  have ltv := hV.lt
  obtain ⟨g, t, cs, fuelv, dv, pv, rfl, hg, ht, hvar, hd, rfl⟩ := trodVars_one hV
  obtain ⟨a0, len0, cap0, rfl⟩ := okWide_slice Ybaf.underlying22 (hval 0 22 v0 rfl rfl)
  have k0 := h0
  have lt0 : ∀ x ∈ p0, x.block < W.heap.size := by obtain ⟨m, hm⟩ := k0; exact DataW.trod_lt m _ _ _ hm
  obtain ⟨C, hnil, w0⟩ : ∃ C, (a0 = none → len0 = 0) ∧ Ints W a0 len0 C := by
    obtain ⟨fuel, hf⟩ := h0
    rcases open_ints Ybaf.underlying22 Ybaf.underlying2 cells2 hf with ⟨hcs, _⟩ | ⟨x, l, c, zs, hcs, _, hl, hm, hz, _, hcell, hwz⟩
    · simp [Value.cells] at hcs
      obtain ⟨rfl, rfl, rfl⟩ := hcs
      exact ⟨fun _ => 0, fun _ => rfl, .inl rfl⟩
    · simp [Value.cells] at hcs
      obtain ⟨rfl, rfl, rfl⟩ := hcs
      simp only [if_true] at hz
      refine ⟨fun j => zs.getD j 0, (fun h => by cases h), ?_⟩
      by_cases hl0 : len0 = 0
      · exact .inl hl0
      · obtain ⟨b, off, spot⟩ := x
        have hspot : spot = none := by simpa [Addr.add] using World.cell?_spot (hcell 0 (by omega))
        subst hspot
        exact .inr ⟨b, off, rfl, fun j hj => by rw [← add_plain]; exact hcell j (by omega)⟩
  obtain ⟨a1, rfl, rfl, rfl⟩ := open_bool Ybaf.underlying4 (hval 1 4 v1 rfl rfl) h1
  clear hA0 hval0
  refine (law_any a0 len0 cap0 a1 C W hnil w0).mono fun e W' ⟨he, bel⟩ => ?_
  subst he
  have hvars : ∃ pv', DataW.TrodVars enc Ybaf.prog W' (fun b => decide (b < W.heap.size)) Rows.lawS2934CLastTimeoutSpec.vars [dv] pv' := by
    obtain rfl : g = 0 := Option.some.inj (hg.symm.trans (by kernel_rfl))
    obtain rfl : t = 51 := Option.some.inj (ht.symm.trans (by kernel_rfl))
    have hlt : ∀ x ∈ pv, x.block < W.heap.size := DataW.trod_lt _ _ _ _ hd
    have h1 : DataW.Trod enc Ybaf.prog W 0 (fun _ => true) true 51 (.agg cs) dv pv := ⟨fuelv, by simpa [Value.cells] using hd⟩
    obtain ⟨fuel', h2⟩ := Below.trod laidOut (by kernel_rfl) (of_decide_eq_true (by kernel_rfl)) h1 bel hlt
    have h0W : 0 < W.heap.size := by
      rcases Nat.eq_zero_or_pos W.heap.size with h | h
      · unfold World.var? at hvar
        simp only [hg, Option.bind_some] at hvar
        rw [Array.getElem?_eq_none (by omega)] at hvar
        cases hvar
      · exact h
    exact ⟨_, trodVars_mk1 (fuel := fuel') hg ht (var?_below bel hg h0W hvar) h2⟩
  obtain ⟨pv', hvars⟩ := hvars
  exact ⟨_, rfl, _, _, _, [], _, pv', hW', trodAll_mk1 (shut_bool Ybaf.underlying4 _), (trodAll_cons_mk (Below.trod laidOut (by kernel_rfl) (of_decide_eq_true (by kernel_rfl)) k0 bel lt0) (trodAll_cons_mk (shut_bool Ybaf.underlying4 _) trodAll_mk0)), hvars, bel.frame _, fun h => by cases h⟩

theorem proved : Rows.LawS2934CLastTimeoutToldSaid :=
  Claim7.holds_of_told_tied_any_at .later 3 Ybaf.f3 _ [] [] _ _ _ _ _ (by kernel_rfl) rfl rfl rfl laidOut (by kernel_rfl) rfl ⟨rfl, rfl, rfl, rfl, rfl, rfl, rfl⟩ rfl rfl (by kernel_rfl) (by kernel_rfl) Ybaf.func3 (by kernel_rfl)
    (of_decide_eq_true (by kernel_rfl)) (of_decide_eq_true (by kernel_rfl)) stops.symm rfl stopKnobs.symm (by kernel_rfl)
    (by kernel_rfl) (by kernel_rfl) (by kernel_rfl) (by kernel_rfl) (by kernel_rfl) (by kernel_rfl) (by kernel_rfl) (by kernel_rfl) (by kernel_rfl) rfl (by kernel_rfl) rfl rfl
    rfl rfl
    rfl (by kernel_rfl) (by kernel_rfl) (by kernel_rfl) (by decide) (by kernel_rfl) lawS2934CLastTimeout_row_tie
    (OpenClaim.moreEntering_of (by kernel_rfl) (by kernel_rfl) (by kernel_rfl) (by kernel_rfl) (by kernel_rfl) (by kernel_rfl) (by kernel_rfl) (by kernel_rfl) (by kernel_rfl) (by kernel_rfl))
    ⟨_, WideRow.started_initial, quiet _⟩
    (fun os started _ H enc _ => lifted os started H enc)
#print axioms proved
end Go.Proofs.YbulkbhswFmt.CLastTimeout
