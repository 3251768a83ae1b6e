/-
  LawS2911AFirstHit: the walk over the contracts of YbulkbhgmCase, and the row's step.
-/
import Derived.Test.YbulkbhgmRows
import Derived.Test.YbulkbhgmCase
import Derived.ProofKit
import Derived.ShutString
import Derived.ChangeOld
import Derived.Below
namespace Go.Proofs.Ybulkbhgm.AFirstHit
open Go.ChangeShapes Go.WideShapes Go.ChangeAt Go.RowKit

set_option maxRecDepth 100000 in
set_option maxHeartbeats 400000 in
theorem hit_any (a : Option Addr) (n cap : Nat) (S : Nat → ByteArray) (pick : Int) (w : World) (hp0 : 0 ≤ pick) (hs : Strs w a n S) :
    Calls Yba.prog 4 #[.slice a n cap, .int .u64 pick] w fun e w' => e = .returned (.bool true) ∧ Below w.heap.size w w' := by
  by_cases hn : n ≤ 1024
  · by_cases h0 : n = 0
    · subst h0
      go_enter Yba.func4, Yba.ntmps4
      go_wp2_with fail
      refine (build_any a 0 cap S _ hn hs).mono ?_
      rintro e w1 ⟨b, g, rfl, hB, hb1⟩
      go_wp2_with fail
      refine (find_any b g 0 S _ _ hn hB).mono ?_
      rintro e w2 ⟨i, ok, rfl, hit, hb2⟩
      have hB2 := hB.below hb2
      have h7 := hB2.1
      have hb := Below.andThen hb1 hb2
      have hno : i = 0 ∧ ok = false := by
        rcases hit with ⟨_, k, hk, _⟩ | ⟨rfl, rfl, _⟩
        · omega
        · exact ⟨rfl, rfl⟩
      obtain ⟨rfl, rfl⟩ := hno
      clear hb1 hb2 hB hs hit hB2
      go_wp2
      go_ret
      exact ⟨rfl, hb⟩
    · rcases id hs with h | ⟨b', off, ha, hc⟩
      · exact absurd h h0
      subst ha
      obtain ⟨K, hK⟩ : ∃ K : Nat, pick % (n : Int) = (K : Int) := ⟨(pick % (n : Int)).toNat, (Int.toNat_of_nonneg (Int.emod_nonneg _ (by omega))).symm⟩
      have hKn : K < n := by have := Int.emod_lt_of_pos pick (show (0 : Int) < (n : Int) by omega); omega
      have hn1 : (1 : Int) ≤ (n : Int) := by omega
      go_enter Yba.func4, Yba.ntmps4
      go_wp2_with fail
      refine (build_any _ n cap S _ hn hs).mono ?_
      rintro e w1 ⟨b, g, rfl, hB, hb1⟩
      have cK : w1.cell? ⟨b', off + K, none⟩ = some (.string (S K)) := (hb1.cell (p := ⟨b', off + K, none⟩) (block_lt_of_cell (hc K hKn))).trans (hc K hKn)
      go_wp2_with fail
      refine (find_any b g n S (S K) _ hn hB).mono ?_
      rintro e w2 ⟨i, ok, rfl, hit, hb2⟩
      have hs2 := (hs.below hb1).below hb2
      have hB2 := hB.below hb2
      have hb := Below.andThen hb1 hb2
      have hh : ok = true ∧ ∃ k : Nat, k ≤ K ∧ i = (k : Int) ∧ ((S k).toList == (S K).toList) = true ∧ ∀ j, j < k → ((S j).toList == (S K).toList) = false := by
        rcases hit with ⟨rfl, k, hk, rfl, hm, hno⟩ | ⟨rfl, rfl, hno⟩
        · refine ⟨rfl, k, ?_, rfl, hm, hno⟩
          rcases Nat.lt_or_ge K k with h | h
          · have := hno K h; simp at this
          · exact h
        · have := hno K hKn; simp at this
      obtain ⟨rfl, k, hkK, rfl, hm, hno⟩ := hh
      have cK2 : w2.cell? ⟨b', off + K, none⟩ = some (.string (S K)) := (hb2.cell (p := ⟨b', off + K, none⟩) (block_lt_of_cell cK)).trans cK
      have hc2 : ∀ j, j < n → w2.cell? ⟨b', off + j, none⟩ = some (.string (S j)) := by
        intro j hj
        exact (hb.cell (p := ⟨b', off + j, none⟩) (block_lt_of_cell (hc j hj))).trans (hc j hj)
      have ck2 := hc2 k (by omega)
      have HN : Hid (∀ j, j < k → ((S j).toList == (S K).toList) = false) := hno
      have hKk : ¬ K < k := by omega
      have HC : Hid (∀ j, j < n → w2.cell? ⟨b', off + j, none⟩ = some (.string (S j))) := hc2
      have g1 : decide ((k : Int) < 0) = false := by simp
      have g2 : decide ((K : Int) < (k : Int)) = false := by simp; omega
      have i1 : (0 : Int) ≤ (k : Int) := by omega
      have i2 : (k : Int) < (n : Int) := by omega
      have i3 : (0 : Int) ≤ (K : Int) := by omega
      have i4 : (K : Int) < (n : Int) := by omega
      clear hb1 hb2 hB hs hit hno hc2 hc cK hK
      go_wp2_with fail
      go_quiet (fail)
      go_wp2
      go_loopw [11] (fun j wr => ∃ t : Nat, t ≤ k ∧ j = .int .i64 t ∧ ∃ m, wr = w2.drewN m) (fun j _ => k - (intOf j).toNat)
      case atStart => exact ⟨0, Nat.zero_le _, rfl, _, rfl⟩
      case round =>
        obtain ⟨t, ht, rfl, m, rfl⟩ := hrel
        by_cases hlt : t < k
        · have ct := HC.out t (by omega)
          have hno := HN.out t hlt
          have j1 : (0 : Int) ≤ (t : Int) := by omega
          have j2 : (t : Int) < (n : Int) := by omega
          go_wp2
          go_quiet (fail)
          go_wp2
          go_roundw
          case rel => exact ⟨t + 1, by omega, by go_num, _, rfl⟩
          case measure => simp [intOf]; omega
        · have hs3 : Strs (w2.drewN m) (some ⟨b', off, none⟩) n S := hs2
          have hB3 : Built (w2.drewN m) b g n S := hB2
          go_wp2_with fail
          refine (kept_any _ b g n cap S _ hn hB3 hs3).mono ?_
          rintro e w3 ⟨rfl, hb3⟩
          have hbb : Below w.heap.size w w3 := Below.andThen (w1 := w2.drewN m) ⟨hb.os, hb.tape, hb.output, hb.size, hb.block⟩ hb3
          clear hb hb3 hB2 hs2 hs3 hB3
          go_wp2
          go_ret
          exact ⟨rfl, hbb⟩
  · have hn' : (1024 : Int) < (n : Int) := by omega
    go_enter Yba.func4, Yba.ntmps4
    go_wp2
    go_ret
    exact ⟨rfl, Below.refl _ _⟩
theorem own : ownKnob Yba.prog.godebug = none := by kernel_rfl
theorem laidOut : laidOutB Yba.prog = true := by kernel_rfl
theorem cells9 : Yba.prog.cellsOf 9 = 1 := by kernel_rfl

set_option maxRecDepth 100000 in
theorem lifted (os : Os) (started : os.Started) (H : Type) (enc : TypeId × Value → H) :
    ReturnsInHanded {} Yba.checked os 4 .any (Rows.lawS2911AFirstHitSpec.pre6 enc Yba.prog Yba.f4 Rows.lawS2911AFirstHitRow.domain false) (Rows.lawS2911AFirstHitSpec.post enc Yba.prog Yba.f4 false true false false) := by
  refine returnsInHanded_of_change (C := Yba.checked) own started (by kernel_rfl) Yba.func4
    (ChangeSpec.witness6 (enc := enc) (C := Yba.checked) false ⟨#[], #[.slice none 0 0, .int .u64 0], []⟩ 8 (by kernel_rfl) (by kernel_rfl) (by kernel_rfl) (by kernel_rfl)) ?_
  intro W base args ds gs before hval0 hW hcnd _
  have hval : ∀ (j : Nat) t v, Yba.f4.params[j]? = some t → args[j]? = some v → Value.okWide Yba.prog W .any base t v := hval0
  have hW' := hW
  obtain ⟨p, q, hA0, hV, rfl, hfz, hnd⟩ := hW
  have hA : DataW.TrodAll enc Yba.prog W 0 (fun _ => true) true Yba.f4.params.toList args.toList ds p := hA0
  rw [Yba.params4] at hA hval
  obtain ⟨v0, vs0, d0, ds0, p0, q0, hargs, rfl, rfl, h0, r0⟩ := trodAll_cons hA
  obtain ⟨v1, vs1, d1, ds1, p1, q1, rfl, rfl, rfl, h1, r1⟩ := trodAll_cons r0
  obtain ⟨rfl, rfl, rfl⟩ := trodAll_nil r1
  obtain rfl : args = #[v0, v1] := by cases args; simp_all
  obtain ⟨rfl, rfl⟩ := trodVars_none hV
  obtain ⟨a0, len0, cap0, rfl⟩ := okWide_slice Yba.underlying22 (hval 0 22 v0 rfl rfl)
  have k0 := h0
  have lt0 : ∀ x ∈ p0, x.block < W.heap.size := by obtain ⟨m, hm⟩ := k0; exact DataW.trod_lt m _ _ _ hm
  obtain ⟨S, w0⟩ : ∃ S, Strs W a0 len0 S := by
    obtain ⟨fuel, hf⟩ := h0
    rcases open_strings Yba.underlying22 Yba.underlying9 cells9 hf with ⟨hcs, _⟩ | ⟨x, l, c, ss, hcs, _, hl, hm, hz, _, hcell, hwz⟩
    · simp [Value.cells] at hcs
      obtain ⟨rfl, rfl, rfl⟩ := hcs
      exact ⟨fun _ => ByteArray.empty, .inl rfl⟩
    · simp [Value.cells] at hcs
      obtain ⟨rfl, rfl, rfl⟩ := hcs
      simp only [if_true] at hz
      refine ⟨fun j => ss.getD j ByteArray.empty, ?_⟩
      by_cases hl0 : len0 = 0
      · exact .inl hl0
      · obtain ⟨b, off, spot⟩ := x
        have hspot : spot = none := by simpa [Addr.add] using World.cell?_spot (hcell 0 (by omega))
        subst hspot
        exact .inr ⟨b, off, rfl, fun j hj => by rw [← add_plain]; exact hcell j (by omega)⟩
  obtain ⟨a1, rfl, rfl, rfl, w1⟩ := open_int Yba.underlying29 (hval 1 29 v1 rfl rfl) h1
  clear hA0 hval0
  refine (hit_any a0 len0 cap0 S a1 W (bounds_u64 w1).1 w0).mono fun e W' ⟨he, bel⟩ => ?_
  subst he
  exact ⟨_, rfl, _, _, _, [], _, [], hW', trodAll_mk1 (shut_bool Yba.underlying4 _), (trodAll_cons_mk (Below.trod laidOut (by kernel_rfl) (of_decide_eq_true (by kernel_rfl)) k0 bel lt0) (trodAll_cons_mk (shut_int Yba.underlying29 w1) trodAll_mk0)), rfl, bel.frame _, fun h => by cases h⟩

theorem over : Rows.lawS2911AFirstHitRow.holds Yba.pinned (OpenSpec.ofChange Rows.lawS2911AFirstHitSpec) :=
  OpenClaim.holds_of_wide 4 Yba.f4 rfl rfl rfl rfl rfl rfl rfl ⟨rfl, rfl, rfl, rfl, rfl⟩ rfl rfl rfl rfl rfl (by kernel_rfl) Yba.func4 (by kernel_rfl)
    (of_decide_eq_true (by kernel_rfl)) (by unfold Func.isWrapper; first | (rw [if_pos (by decide +kernel)]; kernel_rfl) | (rw [if_neg (by decide +kernel)]; exact ⟨rfl, rfl⟩))
    (fun os started H enc _ => lifted os started H enc)

theorem proved : Rows.LawS2911AFirstHitSaid := over
#print axioms proved
end Go.Proofs.Ybulkbhgm.AFirstHit
