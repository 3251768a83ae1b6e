/-
  LawS2911AModel: the walk over the contracts of YbulkbhgmCase, and the row's step.
-/
import Derived.Test.YbulkbhgmRows
import Derived.Test.YbulkbhgmCase
import Derived.ProofKit
import Derived.ShutString
import Derived.ChangeOld
import Derived.Below
namespace Go.Proofs.Ybulkbhgm.AModel
open Go.ChangeShapes Go.WideShapes Go.ChangeAt Go.RowKit
open Go.ChangeMaps (open_string shut_string)

set_option maxRecDepth 100000 in
set_option maxHeartbeats 400000 in
theorem model_any (a : Option Addr) (n cap : Nat) (S : Nat → ByteArray) (p : ByteArray) (w : World) (hs : Strs w a n S) :
    Calls Yba.prog 3 #[.slice a n cap, .string p] w fun e w' => e = .returned (.bool true) ∧ Below w.heap.size w w' := by
  by_cases hn : n ≤ 1024
  · go_enter Yba.func3, Yba.ntmps3
    go_wp2_with fail
    refine (build_any a n cap S _ hn hs).mono ?_
    rintro e w1 ⟨b, g, rfl, hB, hb1⟩
    have hs1 := hs.below hb1
    go_wp2_with fail
    refine (find_any b g n S p _ hn hB).mono ?_
    rintro e w2 ⟨i, ok, rfl, hit, hb2⟩
    have hs2 := hs1.below hb2
    have hB2 := hB.below hb2
    have hb := Below.andThen hb1 hb2
    have HT : Hid (Hit n S p i ok) := hit
    clear hb1 hb2 hs1 hB hs hit
    go_wp2_with fail
    go_loop [8, 9, 10] (fun wi wok j => ∃ k : Nat, k ≤ n ∧ j = .int .i64 k ∧ wi = .int .i64 0 ∧ wok = .bool false ∧ Hid (∀ j, j < k → ((S j).toList == p.toList) = false)) (fun _ _ j => n - (intOf j).toNat)
    case atStart => exact ⟨0, Nat.zero_le _, rfl, rfl, rfl, fun j hj => by omega⟩
    case round =>
      obtain ⟨k, hk, rfl, rfl, rfl, hno⟩ := hrel
      by_cases hlt : k < n
      · rcases id hs2 with h | ⟨b', off, ha, hc⟩
        · omega
        subst ha
        have c0 := hc k hlt
        clear hc
        by_cases hm : ((S k).toList == p.toList) = true
        · rcases HT.out with ⟨rfl, k', hk', rfl, hm', hno'⟩ | ⟨rfl, rfl, hno'⟩
          · have : k' = k := by
              rcases Nat.lt_trichotomy k' k with h | h | h
              · have := hno.out k' h; rw [this] at hm'; cases hm'
              · exact h
              · have := hno' k h; rw [this] at hm; cases hm
            subst this
            clear hno' hm' hno HT
            go_wp2_with fail
            refine (kept_any _ b g n cap S _ hn hB2 hs2).mono ?_
            rintro e w3 ⟨rfl, hb3⟩
            have hbb := Below.andThen hb hb3
            clear hb hb3 hB2 hs2
            go_wp2
            go_ret
            exact ⟨rfl, hbb⟩
          · have := hno' k hlt; rw [this] at hm; cases hm
        · have hm0 : ((S k).toList == p.toList) = false := by simpa using hm
          clear hm
          go_wp2
          go_round
          case rel =>
            refine ⟨k + 1, by omega, by go_num, rfl, rfl, fun j hj => ?_⟩
            by_cases hjk : j = k
            · subst hjk; exact hm0
            · exact hno.out j (by omega)
          case measure => simp [intOf]; omega
      · rcases HT.out with ⟨rfl, k', hk', rfl, hm', hno'⟩ | ⟨rfl, rfl, hno'⟩
        · have := hno.out k' (by omega); rw [this] at hm'; cases hm'
        · clear hno' hno HT
          go_wp2_with fail
          refine (kept_any _ b g n cap S _ hn hB2 hs2).mono ?_
          rintro e w3 ⟨rfl, hb3⟩
          have hbb := Below.andThen hb hb3
          clear hb hb3 hB2 hs2
          go_wp2
          go_ret
          exact ⟨rfl, hbb⟩
  · have hn' : (1024 : Int) < (n : Int) := by omega
    go_enter Yba.func3, Yba.ntmps3
    go_wp2
    go_ret
    exact ⟨rfl, Below.refl _ _⟩

theorem own : ownKnob Yba.prog.godebug = none := by kernel_rfl
theorem laidOut : laidOutB Yba.prog = true := by kernel_rfl
theorem cells9 : Yba.prog.cellsOf 9 = 1 := by kernel_rfl

set_option maxRecDepth 100000 in
theorem lifted (os : Os) (started : os.Started) (H : Type) (enc : TypeId × Value → H) :
    ReturnsInHanded {} Yba.checked os 3 .any (Rows.lawS2911AModelSpec.pre6 enc Yba.prog Yba.f3 Rows.lawS2911AModelRow.domain false) (Rows.lawS2911AModelSpec.post enc Yba.prog Yba.f3 false true false false) := by
  refine returnsInHanded_of_change (C := Yba.checked) own started (by kernel_rfl) Yba.func3
    (ChangeSpec.witness6 (enc := enc) (C := Yba.checked) false ⟨#[], #[.slice none 0 0, .string ByteArray.empty], []⟩ 8 (by kernel_rfl) (by kernel_rfl) (by kernel_rfl) (by kernel_rfl)) ?_
  intro W base args ds gs before hval0 hW hcnd _
  have hval : ∀ (j : Nat) t v, Yba.f3.params[j]? = some t → args[j]? = some v → Value.okWide Yba.prog W .any base t v := hval0
  have hW' := hW
  obtain ⟨p, q, hA0, hV, rfl, hfz, hnd⟩ := hW
  have hA : DataW.TrodAll enc Yba.prog W 0 (fun _ => true) true Yba.f3.params.toList args.toList ds p := hA0
  rw [Yba.params3] at hA hval
  obtain ⟨v0, vs0, d0, ds0, p0, q0, hargs, rfl, rfl, h0, r0⟩ := trodAll_cons hA
  obtain ⟨v1, vs1, d1, ds1, p1, q1, rfl, rfl, rfl, h1, r1⟩ := trodAll_cons r0
  obtain ⟨rfl, rfl, rfl⟩ := trodAll_nil r1
  obtain rfl : args = #[v0, v1] := by cases args; simp_all
  obtain ⟨rfl, rfl⟩ := trodVars_none hV
  obtain ⟨a0, len0, cap0, rfl⟩ := okWide_slice Yba.underlying22 (hval 0 22 v0 rfl rfl)
  have k0 := h0
  have lt0 : ∀ x ∈ p0, x.block < W.heap.size := by obtain ⟨m, hm⟩ := k0; exact DataW.trod_lt m _ _ _ hm
  obtain ⟨S, w0⟩ : ∃ S, Strs W a0 len0 S := by
    obtain ⟨fuel, hf⟩ := h0
    rcases open_strings Yba.underlying22 Yba.underlying9 cells9 hf with ⟨hcs, _⟩ | ⟨x, l, c, ss, hcs, _, hl, hm, hz, _, hcell, hwz⟩
    · simp [Value.cells] at hcs
      obtain ⟨rfl, rfl, rfl⟩ := hcs
      exact ⟨fun _ => ByteArray.empty, .inl rfl⟩
    · simp [Value.cells] at hcs
      obtain ⟨rfl, rfl, rfl⟩ := hcs
      simp only [if_true] at hz
      refine ⟨fun j => ss.getD j ByteArray.empty, ?_⟩
      by_cases hl0 : len0 = 0
      · exact .inl hl0
      · obtain ⟨b, off, spot⟩ := x
        have hspot : spot = none := by simpa [Addr.add] using World.cell?_spot (hcell 0 (by omega))
        subst hspot
        exact .inr ⟨b, off, rfl, fun j hj => by rw [← add_plain]; exact hcell j (by omega)⟩
  obtain ⟨a1, rfl, rfl, rfl, w1⟩ := open_string Yba.underlying9 (hval 1 9 v1 rfl rfl) h1
  clear hA0 hval0
  refine (model_any a0 len0 cap0 S a1 W w0).mono fun e W' ⟨he, bel⟩ => ?_
  subst he
  exact ⟨_, rfl, _, _, _, [], _, [], hW', trodAll_mk1 (shut_bool Yba.underlying4 _), (trodAll_cons_mk (Below.trod laidOut (by kernel_rfl) (of_decide_eq_true (by kernel_rfl)) k0 bel lt0) (trodAll_cons_mk (shut_string Yba.underlying9 w1) trodAll_mk0)), rfl, bel.frame _, fun h => by cases h⟩

theorem over : Rows.lawS2911AModelRow.holds Yba.pinned (OpenSpec.ofChange Rows.lawS2911AModelSpec) :=
  OpenClaim.holds_of_wide 3 Yba.f3 rfl rfl rfl rfl rfl rfl rfl ⟨rfl, rfl, rfl, rfl, rfl⟩ rfl rfl rfl rfl rfl (by kernel_rfl) Yba.func3 (by kernel_rfl)
    (of_decide_eq_true (by kernel_rfl)) (by unfold Func.isWrapper; first | (rw [if_pos (by decide +kernel)]; kernel_rfl) | (rw [if_neg (by decide +kernel)]; exact ⟨rfl, rfl⟩))
    (fun os started H enc _ => lifted os started H enc)

theorem proved : Rows.LawS2911AModelSaid := over
#print axioms proved
end Go.Proofs.Ybulkbhgm.AModel
