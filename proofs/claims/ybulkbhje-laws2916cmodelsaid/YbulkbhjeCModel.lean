/-
  LawS2916CModel: contracts of zzs2916cval and initialCount, the law's walk, and the row's step.
-/
import Derived.Test.YbulkbhjeRows
import Derived.Test.YbulkbhjeCounts
import Derived.Deep.RegionWith
import Derived.Deep.DrawnRows
import Derived.ProofKit
import Derived.ShutString
import Derived.ChangeOld
import Derived.Below
namespace Go.Proofs.Ybulkbhje.CModel
open Go.ChangeShapes Go.WideShapes Go.ChangeAt Go.RowKit Go.Maps Go.WideMaps
open Go.ChangeMaps (open_string shut_string)
attribute [local go_sem ↓] Go.wp_at_zero Go.wp_at_succ

/-- What the walk is told of the names and of the counts that came in. -/
def Strs (w : World) (a : Option Addr) (n : Nat) (S : Nat → ByteArray) : Prop := n = 0 ∨ ∃ b off, a = some ⟨b, off, none⟩ ∧ ∀ j, j < n → w.cell? ⟨b, off + j, none⟩ = some (.string (S j)) ∧ (S j).size ≤ maxLen
def Ints (w : World) (a : Option Addr) (m : Nat) (C : Nat → Int) : Prop := m = 0 ∨ ∃ b off, a = some ⟨b, off, none⟩ ∧ ∀ j, j < m → w.cell? ⟨b, off + j, none⟩ = some (.int .i64 (C j)) ∧ (Lit.int .i64 (C j)).wf = true
/-- What zzs2916cval answers. -/
def val (m : Nat) (C : Nat → Int) (i : Nat) : Int := if m = 0 then 0 else C (i % m)

theorem Strs.below {w w' : World} {a : Option Addr} {n : Nat} {S : Nat → ByteArray} (h : Strs w a n S) (hb : Below w.heap.size w w') : Strs w' a n S := by
  rcases h with h | ⟨b, off, ha, hc⟩
  · exact .inl h
  · exact .inr ⟨b, off, ha, fun j hj => ⟨(hb.cell (p := ⟨b, off + j, none⟩) (block_lt_of_cell (hc j hj).1)).trans (hc j hj).1, (hc j hj).2⟩⟩
theorem Ints.below {w w' : World} {a : Option Addr} {n : Nat} {C : Nat → Int} (h : Ints w a n C) (hb : Below w.heap.size w w') : Ints w' a n C := by
  rcases h with h | ⟨b, off, ha, hc⟩
  · exact .inl h
  · exact .inr ⟨b, off, ha, fun j hj => ⟨(hb.cell (p := ⟨b, off + j, none⟩) (block_lt_of_cell (hc j hj).1)).trans (hc j hj).1, (hc j hj).2⟩⟩
theorem val_wf {w : World} {a : Option Addr} {m : Nat} {C : Nat → Int} (h : Ints w a m C) (i : Nat) : (Lit.int .i64 (val m C i)).wf = true := by
  unfold val
  rcases h with h | ⟨b, off, ha, hc⟩
  · rw [if_pos h]; decide
  · by_cases hm : m = 0
    · rw [if_pos hm]; decide
    · rw [if_neg hm]; exact (hc _ (Nat.mod_lt _ (by omega))).2

set_option maxRecDepth 100000 in
set_option maxHeartbeats 400000 in
theorem val_any (a : Option Addr) (m cap i : Nat) (C : Nat → Int) (w : World) (hm : m ≤ 1024) (hi : i ≤ 1024) (hs : Ints w a m C) :
    Calls Yba.prog 4 #[.slice a m cap, .int .i64 i] w fun e w' => e = .returned (.int .i64 (val m C i)) ∧ w = w' := by
  by_cases h0 : m = 0
  · subst h0
    go_enter Yba.func4, Yba.ntmps4
    go_wp2
    go_ret
    exact ⟨rfl, rfl⟩
  · rcases hs with h | ⟨b, off, ha, hc⟩
    · exact absurd h h0
    subst ha
    have hc' := (hc (i % m) (Nat.mod_lt _ (by omega))).1
    have hlt : (i : Int) % (m : Int) < (m : Int) := Int.emod_lt_of_pos _ (by omega)
    have hge : (0 : Int) ≤ (i : Int) % (m : Int) := Int.emod_nonneg _ (by omega)
    have e : val m C i = C (i % m) := by unfold val; rw [if_neg h0]
    have hm1 : (1 : Int) ≤ (m : Int) := by omega
    rw [e]
    clear e hc
    go_enter Yba.func4, Yba.ntmps4
    go_wp2
    go_ret
    exact ⟨rfl, rfl⟩

theorem law9 : Keyed Yba.prog 9 := string_keyed Yba.underlying9
theorem zero3 (w : World) : (zeroValue 3).run Yba.prog w = .ok (.int .i64 0) w := by kernel_rfl

set_option maxRecDepth 100000 in
set_option maxHeartbeats 400000 in
theorem count_nil (q : ByteArray) (w : World) (hq : q.size ≤ maxLen) :
    Calls Yba.prog 5 #[.map none, .string q] w fun e w' => e = .returned (.int .i64 1) ∧ w = w' := by
  have hl : ∀ w, (Instr.lookup 25 (.map none) (.string q) true).run Yba.prog w = .ok (.tuple #[.int .i64 0, .bool false]) w := fun w => by
    have := Maps.look_nil (w := w) true law9 Yba.underlying25 (zero3 w) (keyOf_string_mk Yba.underlying9 hq)
    simpa using this
  go_enter Yba.func5, Yba.ntmps5
  go_wp2
  go_ret
  exact ⟨rfl, rfl⟩

set_option maxRecDepth 100000 in
set_option maxHeartbeats 400000 in
theorem count_some (q : ByteArray) (B k : Nat) (D : DataW Unit) (f : Bool) (c : Int) (w : World) (hq : q.size ≤ maxLen) (hown : w.ownsMap Yba.prog 9 (plainElem Yba.prog 3) B k D) (hf : Maps.has D (key q) = f) (hc : D.atKey (key q) (.lit (.int .i64 0)) = .lit (.int .i64 c)) :
    Calls Yba.prog 5 #[.map (some B), .string q] w fun e w' => e = .returned (.int .i64 (if f then c else 1)) ∧ w = w' := by
  have hl : (Instr.lookup 25 (.map (some B)) (.string q) true).run Yba.prog w = .ok (.tuple #[.int .i64 c, .bool f]) w := by
    obtain ⟨v, ps, h1, h2⟩ := hown.look_ok law9 Yba.underlying25 (zero3 w) (plainElem_int Yba.underlying3 (by decide)) (keyOf_string_mk Yba.underlying9 hq)
    obtain ⟨c', rfl, h3, _⟩ := plainElem_int_inv Yba.underlying3 h2
    have e1 := congrArg Prod.fst h3
    have e2 : (DataW.lit (H := Unit) (.int .i64 c)) = .lit (.int .i64 c') := hc.symm.trans e1
    simp at e2
    subst e2
    rw [h1]
    have e3 : Maps.has D (.string q.data.toList) = f := hf
    rw [e3]
  clear hown hf hc
  cases f
  all_goals
    go_enter Yba.func5, Yba.ntmps5
    go_wp2
    go_ret
    exact ⟨rfl, rfl⟩

set_option maxRecDepth 100000 in
set_option maxHeartbeats 800000 in
theorem model_any (a ac : Option Addr) (n cap m capc : Nat) (S : Nat → ByteArray) (C : Nat → Int) (q0 : ByteArray) (pick : Int) (w : World) (hs : Strs w a n S) (hi : Ints w ac m C) (hq0 : q0.size ≤ maxLen) (hp0 : 0 ≤ pick) (hp1 : pick ≤ 255) :
    Calls Yba.prog 3 #[.slice a n cap, .slice ac m capc, .string q0, .int .u8 pick] w fun e w' => e = .returned (.bool true) ∧ Below w.heap.size w w' := by
  by_cases hn : n ≤ 1024
  · by_cases hm : m ≤ 1024
    · have hn' : ¬ (1024 : Int) < (n : Int) := by omega
      have hm' : ¬ (1024 : Int) < (m : Int) := by omega
      by_cases h0 : n = 0
      · subst h0
        have hln : ∀ ty w, (Builtin.len_ #[25] ty #[.map none]).run Yba.prog w = .ok (.int .i64 0) w := fun ty w => Maps.len_nil Yba.underlying25 ty
        go_enter Yba.func3, Yba.ntmps3
        go_wp2
        go_loop [11] (fun i => i = .int .i64 0) (fun _ => 0)
        case atStart => rfl
        case round =>
          subst hrel
          go_wp2
          go_loop [12, 13, 14] (fun f v i => f = .bool false ∧ v = .int .i64 0 ∧ i = .int .i64 0) (fun _ _ _ => 0)
          case atStart => exact ⟨rfl, rfl, rfl⟩
          case round =>
            obtain ⟨rfl, rfl, rfl⟩ := hrel
            go_wp2_with fail
            refine (count_nil q0 _ hq0).mono ?_
            rintro e w1 ⟨rfl, rfl⟩
            go_wp2
            go_ret
            exact ⟨rfl, Below.refl _ _⟩
      · rcases id hs with h | ⟨b, off, ha, hc⟩
        · exact absurd h h0
        subst ha
        obtain ⟨K, hK⟩ : ∃ K : Nat, pick / 2 % (n : Int) = (K : Int) := ⟨(pick / 2 % (n : Int)).toNat, (Int.toNat_of_nonneg (Int.emod_nonneg _ (by omega))).symm⟩
        have hKn : K < n := by have := Int.emod_lt_of_pos (pick / 2) (show (0 : Int) < (n : Int) by omega); omega
        have cK := (hc K hKn).1
        have hn1 : (1 : Int) ≤ (n : Int) := by omega
        have hmm := @run_makeMap Yba.prog
        have hpar : pick % 2 = 0 ∨ ¬ pick % 2 = 0 := by omega
        rcases hpar with hpar | hpar
        · go_enter Yba.func3, Yba.ntmps3
          go_wp2
          go_loopw [11] (fun i wr => ∃ k : Nat, k ≤ n ∧ i = .int .i64 k ∧ wr.ownsMap Yba.prog 9 (plainElem (H := Unit) Yba.prog 3) w.heap.size k (dat S (val m C) k) ∧ Below w.heap.size w wr) (fun i _ => n - (intOf i).toNat)
          case atStart => exact ⟨0, Nat.zero_le _, rfl, World.ownsMap_made _ _ _ _, (Below.refl _ _).alloc (Nat.le_refl _) _⟩
          case round =>
            obtain ⟨k, hk, rfl, hown, hnx⟩ := hrel
            have hi2 := hi.below hnx
            by_cases hlt : k < n
            · have ck := ((hnx.cell (p := ⟨b, off + k, none⟩) (block_lt_of_cell (hc k hlt).1)).trans (hc k hlt).1)
              have i1 : (0 : Int) ≤ (k : Int) := by omega
              have i2 : (k : Int) < (n : Int) := by omega
              obtain ⟨w1, hrun, hown1, hg1⟩ := World.ownsMap.update (w := wr.drew) hown law9 Yba.underlying25 (by unfold maxLen; omega) (keyOf_string_mk Yba.underlying9 (hc k hlt).2) (plainElem_int Yba.underlying3 (val_wf hi k))
              have hnx1 := hnx.drew.grown hg1 hnx.size (fun j hj => by cases hj; exact Nat.le_refl _)
              have HO : Hid (w1.ownsMap Yba.prog 9 (plainElem (H := Unit) Yba.prog 3) w.heap.size (k + 1) (dat S (val m C) (k + 1))) := hown1
              clear hown hown1 hg1
              go_wp2
              go_region_with (go_at_call 4; refine (val_any ac m capc k C _ hm (by omega) ?_).mono ?_; exact hi2; rintro e w' ⟨rfl, rfl⟩)
              all_goals
                go_wp2
                go_roundw
                case rel => exact ⟨k + 1, by omega, by go_num, HO.out, hnx1⟩
                case measure => simp [intOf]; omega
            · have hkn : k = n := by omega
              subst hkn
              go_wp2
              go_loop [12, 13, 14] (fun f v i => ∃ j : Nat, j ≤ k ∧ i = .int .i64 j ∧ f = .bool (fnd S (S K) j) ∧ v = .int .i64 (wnt S (val m C) (S K) j)) (fun _ _ i => k - (intOf i).toNat)
              case atStart => exact ⟨0, Nat.zero_le _, rfl, rfl, rfl⟩
              case round =>
                obtain ⟨j, hj, rfl, rfl, rfl⟩ := hrel
                by_cases hltj : j < k
                · have cj := ((hnx.cell (p := ⟨b, off + j, none⟩) (block_lt_of_cell (hc j hltj).1)).trans (hc j hltj).1)
                  cases hsm : same (S j) (S K) with
                  | true =>
                    have hsm' : ((S j).toList == ((S K)).toList) = true := hsm
                    have F1 : Hid (fnd S (S K) (j + 1) = true) := fnd_hit hsm
                    have W1 : Hid (wnt S (val m C) (S K) (j + 1) = val m C j) := wnt_hit hsm
                    clear hsm
                    go_wp2_with (go_at_call 4; refine (val_any ac m capc j C _ hm (by omega) hi2).mono ?_; rintro e w' ⟨rfl, rfl⟩)
                    go_round
                    case rel => exact ⟨j + 1, by omega, by go_num, by rw [F1.out], by rw [W1.out]⟩
                    case measure => simp [intOf]; omega
                  | false =>
                    have hsm' : ((S j).toList == ((S K)).toList) = false := hsm
                    have F1 : Hid (fnd S (S K) (j + 1) = fnd S (S K) j) := fnd_miss hsm
                    have W1 : Hid (wnt S (val m C) (S K) (j + 1) = wnt S (val m C) (S K) j) := wnt_miss hsm
                    clear hsm
                    go_wp2
                    go_round
                    case rel => exact ⟨j + 1, by omega, by go_num, by rw [F1.out], by rw [W1.out]⟩
                    case measure => simp [intOf]; omega
                · have hjk : j = k := by omega
                  subst hjk
                  obtain ⟨f, hf⟩ : ∃ f, fnd S (S K) j = f := ⟨_, rfl⟩
                  obtain ⟨c, hcq⟩ : ∃ c, wnt S (val m C) (S K) j = c := ⟨_, rfl⟩
                  have hf2 := (dat_has S (val m C) (S K) j).trans hf
                  have hc2 := dat_at S (val m C) (S K) j
                  rw [hcq] at hc2
                  rw [hf, hcq]
                  have hlen := fun ty => hown.len Yba.underlying25 ty
                  have hsz := hown.size_le
                  have HOW : Hid (wr.ownsMap Yba.prog 9 (plainElem (H := Unit) Yba.prog 3) w.heap.size j (dat S (val m C) j)) := hown
                  have HF : Hid (Maps.has (dat S (val m C) j) (key (S K)) = f) := hf2
                  have HC : Hid ((dat S (val m C) j).atKey (key (S K)) (.lit (.int .i64 0)) = .lit (.int .i64 c)) := hc2
                  obtain ⟨sz, hsze⟩ : ∃ sz, Maps.size (dat S (val m C) j) = sz := ⟨_, rfl⟩
                  rw [hsze] at hsz
                  simp only [hsze] at hlen
                  clear hf hcq hf2 hc2 hown hsze
                  cases f
                  all_goals
                    go_wp2_with fail
                    refine (count_some (S K) w.heap.size j _ _ c _ (hc K hKn).2 HOW.out HF.out HC.out).mono ?_
                    rintro e w' ⟨rfl, rfl⟩
                    go_wp2
                    go_ret
                    exact ⟨by simp, hnx⟩
        · go_enter Yba.func3, Yba.ntmps3
          go_wp2
          go_loopw [11] (fun i wr => ∃ k : Nat, k ≤ n ∧ i = .int .i64 k ∧ wr.ownsMap Yba.prog 9 (plainElem (H := Unit) Yba.prog 3) w.heap.size k (dat S (val m C) k) ∧ Below w.heap.size w wr) (fun i _ => n - (intOf i).toNat)
          case atStart => exact ⟨0, Nat.zero_le _, rfl, World.ownsMap_made _ _ _ _, (Below.refl _ _).alloc (Nat.le_refl _) _⟩
          case round =>
            obtain ⟨k, hk, rfl, hown, hnx⟩ := hrel
            have hi2 := hi.below hnx
            by_cases hlt : k < n
            · have ck := ((hnx.cell (p := ⟨b, off + k, none⟩) (block_lt_of_cell (hc k hlt).1)).trans (hc k hlt).1)
              have i1 : (0 : Int) ≤ (k : Int) := by omega
              have i2 : (k : Int) < (n : Int) := by omega
              obtain ⟨w1, hrun, hown1, hg1⟩ := World.ownsMap.update (w := wr.drew) hown law9 Yba.underlying25 (by unfold maxLen; omega) (keyOf_string_mk Yba.underlying9 (hc k hlt).2) (plainElem_int Yba.underlying3 (val_wf hi k))
              have hnx1 := hnx.drew.grown hg1 hnx.size (fun j hj => by cases hj; exact Nat.le_refl _)
              have HO : Hid (w1.ownsMap Yba.prog 9 (plainElem (H := Unit) Yba.prog 3) w.heap.size (k + 1) (dat S (val m C) (k + 1))) := hown1
              clear hown hown1 hg1
              go_wp2
              go_region_with (go_at_call 4; refine (val_any ac m capc k C _ hm (by omega) ?_).mono ?_; exact hi2; rintro e w' ⟨rfl, rfl⟩)
              all_goals
                go_wp2
                go_roundw
                case rel => exact ⟨k + 1, by omega, by go_num, HO.out, hnx1⟩
                case measure => simp [intOf]; omega
            · have hkn : k = n := by omega
              subst hkn
              go_wp2
              go_loop [12, 13, 14] (fun f v i => ∃ j : Nat, j ≤ k ∧ i = .int .i64 j ∧ f = .bool (fnd S q0 j) ∧ v = .int .i64 (wnt S (val m C) q0 j)) (fun _ _ i => k - (intOf i).toNat)
              case atStart => exact ⟨0, Nat.zero_le _, rfl, rfl, rfl⟩
              case round =>
                obtain ⟨j, hj, rfl, rfl, rfl⟩ := hrel
                by_cases hltj : j < k
                · have cj := ((hnx.cell (p := ⟨b, off + j, none⟩) (block_lt_of_cell (hc j hltj).1)).trans (hc j hltj).1)
                  cases hsm : same (S j) q0 with
                  | true =>
                    have hsm' : ((S j).toList == (q0).toList) = true := hsm
                    have F1 : Hid (fnd S q0 (j + 1) = true) := fnd_hit hsm
                    have W1 : Hid (wnt S (val m C) q0 (j + 1) = val m C j) := wnt_hit hsm
                    clear hsm
                    go_wp2_with (go_at_call 4; refine (val_any ac m capc j C _ hm (by omega) hi2).mono ?_; rintro e w' ⟨rfl, rfl⟩)
                    go_round
                    case rel => exact ⟨j + 1, by omega, by go_num, by rw [F1.out], by rw [W1.out]⟩
                    case measure => simp [intOf]; omega
                  | false =>
                    have hsm' : ((S j).toList == (q0).toList) = false := hsm
                    have F1 : Hid (fnd S q0 (j + 1) = fnd S q0 j) := fnd_miss hsm
                    have W1 : Hid (wnt S (val m C) q0 (j + 1) = wnt S (val m C) q0 j) := wnt_miss hsm
                    clear hsm
                    go_wp2
                    go_round
                    case rel => exact ⟨j + 1, by omega, by go_num, by rw [F1.out], by rw [W1.out]⟩
                    case measure => simp [intOf]; omega
                · have hjk : j = k := by omega
                  subst hjk
                  obtain ⟨f, hf⟩ : ∃ f, fnd S q0 j = f := ⟨_, rfl⟩
                  obtain ⟨c, hcq⟩ : ∃ c, wnt S (val m C) q0 j = c := ⟨_, rfl⟩
                  have hf2 := (dat_has S (val m C) q0 j).trans hf
                  have hc2 := dat_at S (val m C) q0 j
                  rw [hcq] at hc2
                  rw [hf, hcq]
                  have hlen := fun ty => hown.len Yba.underlying25 ty
                  have hsz := hown.size_le
                  have HOW : Hid (wr.ownsMap Yba.prog 9 (plainElem (H := Unit) Yba.prog 3) w.heap.size j (dat S (val m C) j)) := hown
                  have HF : Hid (Maps.has (dat S (val m C) j) (key q0) = f) := hf2
                  have HC : Hid ((dat S (val m C) j).atKey (key q0) (.lit (.int .i64 0)) = .lit (.int .i64 c)) := hc2
                  obtain ⟨sz, hsze⟩ : ∃ sz, Maps.size (dat S (val m C) j) = sz := ⟨_, rfl⟩
                  rw [hsze] at hsz
                  simp only [hsze] at hlen
                  clear hf hcq hf2 hc2 hown hsze
                  cases f
                  all_goals
                    go_wp2_with fail
                    refine (count_some q0 w.heap.size j _ _ c _ hq0 HOW.out HF.out HC.out).mono ?_
                    rintro e w' ⟨rfl, rfl⟩
                    go_wp2
                    go_ret
                    exact ⟨by simp, hnx⟩
    · have hm' : (1024 : Int) < (m : Int) := by omega
      have hn' : ¬ (1024 : Int) < (n : Int) := by omega
      have hn2 : decide ((1024 : Int) < (n : Int)) = false := decide_eq_false hn'
      go_enter Yba.func3, Yba.ntmps3
      go_wp2
      go_ret
      exact ⟨rfl, Below.refl _ _⟩
  · have hn' : (1024 : Int) < (n : Int) := by omega
    go_enter Yba.func3, Yba.ntmps3
    go_wp2
    go_ret
    exact ⟨rfl, Below.refl _ _⟩
theorem own : ownKnob Yba.prog.godebug = none := by kernel_rfl
theorem laidOut : laidOutB Yba.prog = true := by kernel_rfl
theorem cells9 : Yba.prog.cellsOf 9 = 1 := by kernel_rfl
theorem cells3 : Yba.prog.cellsOf 3 = 1 := by kernel_rfl

set_option maxRecDepth 100000 in
theorem lifted (os : Os) (started : os.Started) (H : Type) (enc : TypeId × Value → H) :
    ReturnsInHanded {} Yba.checked os 3 .any (Rows.lawS2916CModelSpec.pre6 enc Yba.prog Yba.f3 Rows.lawS2916CModelRow.domain false) (Rows.lawS2916CModelSpec.post enc Yba.prog Yba.f3 false true false false) := by
  refine returnsInHanded_of_change (C := Yba.checked) own started (by kernel_rfl) Yba.func3
    (ChangeSpec.witness6 (enc := enc) (C := Yba.checked) false ⟨#[], #[.slice none 0 0, .slice none 0 0, .string ByteArray.empty, .int .u8 0], []⟩ 8 (by kernel_rfl) (by kernel_rfl) (by kernel_rfl) (by kernel_rfl)) ?_
  intro W base args ds gs before hval0 hW hcnd _
  have hval : ∀ (j : Nat) t v, Yba.f3.params[j]? = some t → args[j]? = some v → Value.okWide Yba.prog W .any base t v := hval0
  have hW' := hW
  obtain ⟨p, q, hA0, hV, rfl, hfz, hnd⟩ := hW
  have hA : DataW.TrodAll enc Yba.prog W 0 (fun _ => true) true Yba.f3.params.toList args.toList ds p := hA0
  rw [Yba.params3] at hA hval
  obtain ⟨v0, vs0, d0, ds0, p0, q0, hargs, rfl, rfl, h0, r0⟩ := trodAll_cons hA
  obtain ⟨v1, vs1, d1, ds1, p1, q1, rfl, rfl, rfl, h1, r1⟩ := trodAll_cons r0
  obtain ⟨v2, vs2, d2, ds2, p2, q2, rfl, rfl, rfl, h2, r2⟩ := trodAll_cons r1
  obtain ⟨v3, vs3, d3, ds3, p3, q3, rfl, rfl, rfl, h3, r3⟩ := trodAll_cons r2
  obtain ⟨rfl, rfl, rfl⟩ := trodAll_nil r3
  obtain rfl : args = #[v0, v1, v2, v3] := by cases args; simp_all
  obtain ⟨rfl, rfl⟩ := trodVars_none hV
  obtain ⟨a0, len0, cap0, rfl⟩ := okWide_slice Yba.underlying22 (hval 0 22 v0 rfl rfl)
  have k0 := h0
  have lt0 : ∀ x ∈ p0, x.block < W.heap.size := by obtain ⟨m, hm⟩ := k0; exact DataW.trod_lt m _ _ _ hm
  obtain ⟨S, w0⟩ : ∃ S, Strs W a0 len0 S := by
    obtain ⟨fuel, hf⟩ := h0
    rcases open_strings Yba.underlying22 Yba.underlying9 cells9 hf with ⟨hcs, _⟩ | ⟨x, l, c, ss, hcs, _, hl, hm, hz, _, hcell, hwz⟩
    · simp [Value.cells] at hcs
      obtain ⟨rfl, rfl, rfl⟩ := hcs
      exact ⟨fun _ => ByteArray.empty, .inl rfl⟩
    · simp [Value.cells] at hcs
      obtain ⟨rfl, rfl, rfl⟩ := hcs
      simp only [if_true] at hz
      refine ⟨fun j => ss.getD j ByteArray.empty, ?_⟩
      by_cases hl0 : len0 = 0
      · exact .inl hl0
      · obtain ⟨b, off, spot⟩ := x
        have hspot : spot = none := by simpa [Addr.add] using World.cell?_spot (hcell 0 (by omega))
        subst hspot
        refine .inr ⟨b, off, rfl, fun j hj => ⟨by rw [← add_plain]; exact hcell j (by omega), ?_⟩⟩
        have hj2 : j < ss.length := by omega
        have e : ss.getD j ByteArray.empty = ss[j] := by simp [List.getD, List.getElem?_eq_getElem hj2]
        show (ss.getD j ByteArray.empty).size ≤ maxLen
        rw [e]
        exact hwz _ (List.getElem_mem hj2)
  obtain ⟨a1, len1, cap1, rfl⟩ := okWide_slice Yba.underlying23 (hval 1 23 v1 rfl rfl)
  have k1 := h1
  have lt1 : ∀ x ∈ p1, x.block < W.heap.size := by obtain ⟨m, hm⟩ := k1; exact DataW.trod_lt m _ _ _ hm
  obtain ⟨C, w1⟩ : ∃ C, Ints W a1 len1 C := by
    obtain ⟨fuel, hf⟩ := h1
    rcases open_ints Yba.underlying23 Yba.underlying3 cells3 hf with ⟨hcs, _⟩ | ⟨x, l, c, zs, hcs, _, hl, hm, hz, _, hcell, hwz⟩
    · simp [Value.cells] at hcs
      obtain ⟨rfl, rfl, rfl⟩ := hcs
      exact ⟨fun _ => 0, .inl rfl⟩
    · simp [Value.cells] at hcs
      obtain ⟨rfl, rfl, rfl⟩ := hcs
      simp only [if_true] at hz
      refine ⟨fun j => zs.getD j 0, ?_⟩
      by_cases hl0 : len1 = 0
      · exact .inl hl0
      · obtain ⟨b, off, spot⟩ := x
        have hspot : spot = none := by simpa [Addr.add] using World.cell?_spot (hcell 0 (by omega))
        subst hspot
        refine .inr ⟨b, off, rfl, fun j hj => ⟨by rw [← add_plain]; exact hcell j (by omega), ?_⟩⟩
        have hj2 : j < zs.length := by omega
        have e : zs.getD j 0 = zs[j] := by simp [List.getD, List.getElem?_eq_getElem hj2]
        show (Lit.int .i64 (zs.getD j 0)).wf = true
        rw [e]
        exact hwz _ (List.getElem_mem hj2)
  obtain ⟨a2, rfl, rfl, rfl, w2⟩ := open_string Yba.underlying9 (hval 2 9 v2 rfl rfl) h2
  obtain ⟨a3, rfl, rfl, rfl, w3⟩ := open_int Yba.underlying5 (hval 3 5 v3 rfl rfl) h3
  clear hA0 hval0
  refine (model_any a0 a1 len0 cap0 len1 cap1 S C a2 a3 W w0 w1 w2 (bounds_u8 w3).1 (bounds_u8 w3).2).mono fun e W' ⟨he, bel⟩ => ?_
  subst he
  exact ⟨_, rfl, _, _, _, [], _, [], hW', trodAll_mk1 (shut_bool Yba.underlying4 _), (trodAll_cons_mk (Below.trod laidOut (by kernel_rfl) (of_decide_eq_true (by kernel_rfl)) k0 bel lt0) (trodAll_cons_mk (Below.trod laidOut (by kernel_rfl) (of_decide_eq_true (by kernel_rfl)) k1 bel lt1) (trodAll_cons_mk (shut_string Yba.underlying9 w2) (trodAll_cons_mk (shut_int Yba.underlying5 w3) trodAll_mk0)))), rfl, bel.frame _, fun h => by cases h⟩

theorem over : Rows.lawS2916CModelRow.holds Yba.pinned (OpenSpec.ofChange Rows.lawS2916CModelSpec) :=
  OpenClaim.holds_of_wide 3 Yba.f3 rfl rfl rfl rfl rfl rfl rfl ⟨rfl, rfl, rfl, rfl, rfl⟩ rfl rfl rfl rfl rfl (by kernel_rfl) Yba.func3 (by kernel_rfl)
    (of_decide_eq_true (by kernel_rfl)) (by unfold Func.isWrapper; first | (rw [if_pos (by decide +kernel)]; kernel_rfl) | (rw [if_neg (by decide +kernel)]; exact ⟨rfl, rfl⟩))
    (fun os started H enc _ => lifted os started H enc)

theorem proved : Rows.LawS2916CModelSaid := over
#print axioms proved
end Go.Proofs.Ybulkbhje.CModel
