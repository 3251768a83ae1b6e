/-
  LawS2913BLeftAboveRight: the shell of the guide, its hole filled over YbulkbhhoKeys.
-/
import Derived.Test.YbulkbhhoRows
import Derived.Test.YbulkbhhoKeys
import Derived.WalkKit
import Derived.ProofKit
import Derived.OpenShut
import Derived.ShutString
namespace Go.Proofs.Ybulkbhho.lawS2913BLeftAboveRight
open Go.ChangeShapes Go.WideShapes Go.ChangeAt Go.RowKit
open Go.ChangeMaps (open_string shut_string)
set_option linter.unusedVariables false      -- a walk need not use every 'w<i>' (that an integer argument fits its kind)

theorem own : ownKnob Yba.prog.godebug = none := by kernel_rfl

/-! ### STEP 1: THE WALK: the Go text returns true. 'Grown w w'': the world has at most new blocks (Derived/RowKit3.lean). Part the cases AHEAD of 'go_enter' where a test parts the walk; take each callee by a contract of your own. -/
theorem wrap_next (x : Int) : wrap64 (wrap64 (x + 1) + 1) = wrap64 (x + 2) := by unfold wrap64; omega

set_option maxRecDepth 100000 in
set_option maxHeartbeats 400000 in
theorem walk (a0 : Int) (a1 : Int) (w0 : (Lit.int .i64 a0).wf = true) (w1 : (Lit.int .i8 a1).wf = true) (w : World) :
    Calls Yba.prog 4 #[.int .i64 a0, .int .i8 a1] w fun e w' => e = .returned (.bool true) ∧ Grown w w' := by
  by_cases h0 : a0 = 0
  · subst h0
    go_enter Yba.func4, Yba.ntmps4
    go_wp2_with fail
    refine (shift_any 0 2 _).mono ?_
    rintro e wx ⟨rfl, c1, rfl⟩
    rw [sk_zero]
    go_wp2_with fail
    refine (shift_any 0 1 _).mono ?_
    rintro e wx ⟨rfl, c2, rfl⟩
    rw [sk_zero]
    go_wp2_with fail
    refine (shift_any 0 3 _).mono ?_
    rintro e wx ⟨rfl, c3, rfl⟩
    rw [sk_zero]
    go_wp2_with fail
    refine (shift_any 0 4 _).mono ?_
    rintro e wx ⟨rfl, c4, rfl⟩
    rw [sk_zero]
    go_wp2_with fail
    refine (shift_any 0 a1 _).mono ?_
    rintro e wx ⟨rfl, c5, rfl⟩
    rw [sk_zero]
    go_wp2
    go_ret
    exact ⟨rfl, by repeat (first | exact Grown.refl _ | apply Grown.drew | apply Grown.alloc)⟩
  · obtain ⟨r, hr⟩ : ∃ r, wrap64 (wrap64 (2 * a0) + 1) = r := ⟨_, rfl⟩
    obtain ⟨l, hl⟩ : ∃ l, wrap64 (wrap64 (2 * a0) + 2) = l := ⟨_, rfl⟩
    have hrl : wrap64 (r + 1) = l := by rw [← hr, ← hl]; exact wrap_next _
    have k2 : sk a0 2 = r := by rw [sk_right h0 (.inl rfl), hr]
    have k1 : sk a0 1 = l := by rw [sk_left h0 (by omega), hl]
    have k3 : sk a0 3 = l := by rw [sk_left h0 (by omega), hl]
    have k4 : sk a0 4 = r := by rw [sk_right h0 (.inr rfl), hr]
    have hx : (sk a0 a1 == r) = true ∨ ((sk a0 a1 == r) = false ∧ (sk a0 a1 == l) = true) := by
      by_cases ha : a1 = 2 ∨ a1 = 4
      · left; rw [sk_right h0 ha, hr]; simp
      · rw [sk_left h0 ha, hl]
        by_cases e : l = r
        · left; simp [e]
        · right; simp [e]
    have b0 : (a0 == 0) = false := by simpa using h0
    clear hr hl
    obtain ⟨x, hxe⟩ : ∃ x, sk a0 a1 = x := ⟨_, rfl⟩
    rw [hxe] at hx
    rcases hx with hx | ⟨hx, hy⟩
    all_goals
      go_enter Yba.func4, Yba.ntmps4
      go_wp2_with fail
      refine (shift_any a0 2 _).mono ?_
      rintro e wx ⟨rfl, c1, rfl⟩
      rw [k2]
      go_wp2_with fail
      refine (shift_any a0 1 _).mono ?_
      rintro e wx ⟨rfl, c2, rfl⟩
      rw [k1]
      go_wp2_with fail
      refine (shift_any a0 3 _).mono ?_
      rintro e wx ⟨rfl, c3, rfl⟩
      rw [k3]
      go_wp2_with fail
      refine (shift_any a0 4 _).mono ?_
      rintro e wx ⟨rfl, c4, rfl⟩
      rw [k4]
      go_wp2_with fail
      refine (shift_any a0 a1 _).mono ?_
      rintro e wx ⟨rfl, c5, rfl⟩
      rw [hxe]
      go_wp2
      go_ret
      exact ⟨rfl, by repeat (first | exact Grown.refl _ | apply Grown.drew | apply Grown.alloc)⟩

/-! ### THE ROW's STEP: WRITTEN OUT: LEAVE IT -/
set_option maxRecDepth 100000 in
theorem lifted (os : Os) (started : os.Started) (H : Type) (enc : TypeId × Value → H) :
    ReturnsInHanded {} Yba.checked os 4 .any (Rows.lawS2913BLeftAboveRightSpec.pre6 enc Yba.prog Yba.f4 Rows.lawS2913BLeftAboveRightRow.domain false) (Rows.lawS2913BLeftAboveRightSpec.post enc Yba.prog Yba.f4 false true false false) := by
  refine returnsInHanded_of_change (C := Yba.checked) own started (by kernel_rfl) Yba.func4
    (ChangeSpec.witness6 (enc := enc) (C := Yba.checked) false ⟨#[], #[.int .i64 0, .int .i8 0], []⟩ 8 (by kernel_rfl) (by kernel_rfl) (by kernel_rfl) (by kernel_rfl)) ?_
  intro W base args ds gs before hval0 hW hcnd _
  have hval : ∀ (j : Nat) t v, Yba.f4.params[j]? = some t → args[j]? = some v → Value.okWide Yba.prog W .any base t v := hval0
  have hW' := hW
  obtain ⟨p, q, hA0, hV, rfl, hfz, hnd⟩ := hW
  have hA : DataW.TrodAll enc Yba.prog W 0 (fun _ => true) true Yba.f4.params.toList args.toList ds p := hA0
  rw [Yba.params4] at hA hval
  obtain ⟨v0, vs0, d0, ds0, p0, q0, hargs, rfl, rfl, h0, r0⟩ := trodAll_cons hA
  obtain ⟨v1, vs1, d1, ds1, p1, q1, rfl, rfl, rfl, h1, r1⟩ := trodAll_cons r0
  obtain ⟨rfl, rfl, rfl⟩ := trodAll_nil r1
  obtain rfl : args = #[v0, v1] := by cases args; simp_all
  obtain ⟨rfl, rfl⟩ := trodVars_none hV
  obtain ⟨a0, rfl, rfl, rfl, w0⟩ := open_int Yba.underlying3 (hval 0 3 v0 rfl rfl) h0
  obtain ⟨a1, rfl, rfl, rfl, w1⟩ := open_int Yba.underlying22 (hval 1 22 v1 rfl rfl) h1
  clear hA0 hval0
  simp only [List.append_nil] at hW'
  refine (walk a0 a1 w0 w1 W).mono fun e W' ⟨he, hg⟩ => ?_
  subst he
  exact ⟨_, rfl, post_of_same (pa := []) (pv := []) hW' (fun _ _ _ => (trodAll_cons_mk (shut_bool Yba.underlying4 _) trodAll_mk0)) (fun sp _ => (trodAll_cons_mk (shut_int Yba.underlying3 w0) (trodAll_cons_mk (shut_int Yba.underlying22 w1) trodAll_mk0))) (fun _ _ => rfl) rfl
    (hg.frame _) hg.2.1 (ok_one (by kernel_rfl) rfl (okWide_bool_mk Yba.underlying4 _))⟩

theorem over : Rows.lawS2913BLeftAboveRightRow.holds Yba.pinned (OpenSpec.ofChange Rows.lawS2913BLeftAboveRightSpec) :=
  OpenClaim.holds_of_wide 4 Yba.f4 rfl rfl rfl rfl rfl rfl rfl ⟨rfl, rfl, rfl, rfl, rfl⟩ rfl rfl rfl rfl rfl (by kernel_rfl) Yba.func4 (by kernel_rfl)
    (of_decide_eq_true (by kernel_rfl)) (by unfold Func.isWrapper; first | (rw [if_pos (by decide +kernel)]; kernel_rfl) | (rw [if_neg (by decide +kernel)]; exact ⟨rfl, rfl⟩))
    (fun os started H enc _ => lifted os started H enc)

/-- ████ THE STATEMENT ████ -/
theorem proved : Rows.LawS2913BLeftAboveRightSaid :=
  over
#print axioms proved
end Go.Proofs.Ybulkbhho.lawS2913BLeftAboveRight
