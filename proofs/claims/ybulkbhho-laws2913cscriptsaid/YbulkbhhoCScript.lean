/-
  LawS2913CScript: the row's step over the walk of YbulkbhhoScript.
-/
import Derived.Test.YbulkbhhoRows
import Derived.Test.YbulkbhhoScript
import Derived.ProofKit
import Derived.ShutString
import Derived.ChangeOld
import Derived.Below
import Derived.Deep.Slices
import Derived.Deep.Strs
namespace Go.Proofs.Ybulkbhho.CScript
open Go.ChangeShapes Go.WideShapes Go.ChangeAt Go.RowKit Go.Deep

theorem own : ownKnob Yba.prog.godebug = none := by kernel_rfl
theorem laidOut : laidOutB Yba.prog = true := by kernel_rfl
theorem cells33 : Yba.prog.cellsOf 33 = 3 := by kernel_rfl
theorem cells40 : Yba.prog.cellsOf 40 = 1 := by kernel_rfl
theorem cells31 : Yba.prog.cellsOf 31 = 1 := by kernel_rfl
theorem cells9 : Yba.prog.cellsOf 9 = 1 := by kernel_rfl
theorem cells5 : Yba.prog.cellsOf 5 = 1 := by kernel_rfl
theorem cells3 : Yba.prog.cellsOf 3 = 1 := by kernel_rfl

variable {H : Type} {enc : TypeId × Value → H} {W : World} {held : Bool}

/-- A choice that came in can be read. -/
theorem altOk_of {fuel : Nat} {v : Value} {x : DataW H × List MemPlace} (h : DataW.trod enc Yba.prog W 0 (fun _ => true) held fuel 40 [v] = some x) : AltOk W v := by
  rcases open_strs Yba.underlying40 Yba.underlying9 cells9 h with ⟨hcs, _⟩ | ⟨a, len, cap, m, S, hcs, _, hl, hm, hmm, _, hx⟩
  · simp at hcs
    exact ⟨none, 0, 0, hcs, by omega, .inl rfl⟩
  · simp at hcs
    simp only [if_true] at hmm
    subst hmm
    refine ⟨some a, len, m, hcs, by unfold maxLen at hm; omega, ?_⟩
    by_cases hl0 : len = 0
    · exact .inl hl0
    · obtain ⟨b, off, spot⟩ := a
      have hc0 := (hx 0 (by omega)).1
      have hspot : spot = none := by simpa [Addr.add] using World.cell?_spot hc0
      subst hspot
      have hb := World.block_lt_of_cell? W _ hc0
      refine .inr ⟨b, off, rfl, by simpa [Addr.add] using hb, fun j hj => ⟨S j, ?_⟩⟩
      have := (hx j (by omega)).1
      simpa only [add_plain] using this
/-- A step's choices that came in can be read. -/
theorem alts_of {fuel : Nat} {v : Value} {x : DataW H × List MemPlace} (h : DataW.trod enc Yba.prog W 0 (fun _ => true) held fuel 31 [v] = some x) : ∃ (a : Option Addr) (n c : Nat) (A : Nat → Value), v = .slice a n c ∧ Alts W a n A := by
  rcases open_slice1 Yba.underlying31 cells40 h with ⟨hcs, _⟩ | ⟨a, len, cap, m, nn, V, D, Pl, hcs, _, hl, hm, hmm, _, hx⟩
  · simp at hcs
    exact ⟨none, 0, 0, fun _ => .bool false, hcs, .inl rfl⟩
  · simp at hcs
    simp only [if_true] at hmm
    subst hmm
    refine ⟨some a, len, m, V, hcs, ?_⟩
    by_cases hl0 : len = 0
    · exact .inl hl0
    · obtain ⟨b, off, spot⟩ := a
      have hc0 := (hx 0 (by omega)).1
      have hspot : spot = none := by simpa [Addr.add] using World.cell?_spot hc0
      subst hspot
      have hb := World.block_lt_of_cell? W _ hc0
      refine .inr ⟨b, off, rfl, by simpa [Addr.add] using hb, fun j hj => ⟨?_, altOk_of (hx j (by omega)).2⟩⟩
      have := (hx j (by omega)).1
      simpa only [add_plain] using this

set_option maxRecDepth 100000 in
theorem lifted (os : Os) (started : os.Started) (H : Type) (enc : TypeId × Value → H) :
    ReturnsInHanded {} Yba.checked os 5 .any (Rows.lawS2913CScriptSpec.pre6 enc Yba.prog Yba.f5 Rows.lawS2913CScriptRow.domain false) (Rows.lawS2913CScriptSpec.post enc Yba.prog Yba.f5 false true false false) := by
  refine returnsInHanded_of_change (C := Yba.checked) own started (by kernel_rfl) Yba.func5
    (ChangeSpec.witness6 (enc := enc) (C := Yba.checked) false ⟨#[], #[.slice none 0 0], []⟩ 8 (by kernel_rfl) (by kernel_rfl) (by kernel_rfl) (by kernel_rfl)) ?_
  intro W base args ds gs before hval0 hW hcnd _
  have hval : ∀ (j : Nat) t v, Yba.f5.params[j]? = some t → args[j]? = some v → Value.okWide Yba.prog W .any base t v := hval0
  have hW' := hW
  obtain ⟨p, q, hA0, hV, rfl, hfz, hnd⟩ := hW
  have hA : DataW.TrodAll enc Yba.prog W 0 (fun _ => true) true Yba.f5.params.toList args.toList ds p := hA0
  rw [Yba.params5] at hA hval
  obtain ⟨v0, vs0, d0, ds0, p0, q0, hargs, rfl, rfl, h0, r0⟩ := trodAll_cons hA
  obtain ⟨rfl, rfl, rfl⟩ := trodAll_nil r0
  obtain rfl : args = #[v0] := by cases args; simp_all
  obtain ⟨rfl, rfl⟩ := trodVars_none hV
  obtain ⟨a0, len0, cap0, rfl⟩ := okWide_slice Yba.underlying30 (hval 0 30 v0 rfl rfl)
  have k0 := h0
  have lt0 : ∀ x ∈ p0, x.block < W.heap.size := by obtain ⟨m, hm⟩ := k0; exact DataW.trod_lt m _ _ _ hm
  obtain ⟨P, L, aa, na, ca, A, w0⟩ : ∃ P L aa na ca A, Ops W a0 len0 P L aa na ca A := by
    obtain ⟨fuel, hf⟩ := h0
    rcases open_slice Yba.underlying30 hf with ⟨hcs, _⟩ | ⟨x, l, c, mm, nn, D, Pl, hcs, _, hl, hm, hmm, _, hx⟩
    · simp [Value.cells] at hcs
      obtain ⟨rfl, rfl, rfl⟩ := hcs
      exact ⟨fun _ => 0, fun _ => 0, fun _ => none, fun _ => 0, fun _ => 0, fun _ _ => .bool false, .inl rfl⟩
    · simp [Value.cells] at hcs
      obtain ⟨rfl, rfl, rfl⟩ := hcs
      simp only [if_true] at hmm
      subst hmm
      have each : ∀ i, i < len0 → ∃ q : Int × Int × Option Addr × Nat × Nat × (Nat → Value), W.cell? (x.add (i * 3)) = some (.int .u8 q.1) ∧ W.cell? (x.add (i * 3 + 1)) = some (.int .i64 q.2.1) ∧ W.cell? (x.add (i * 3 + 2)) = some (.slice q.2.2.1 q.2.2.2.1 q.2.2.2.2.1) ∧ 0 ≤ q.1 ∧ q.1 ≤ 255 ∧ Alts W q.2.2.1 q.2.2.2.1 q.2.2.2.2.2 := by
        intro i hi
        obtain ⟨cs', h1, h2⟩ := hx i (by omega)
        rw [cells33] at h1
        obtain ⟨_, hlen, hcell⟩ := World.cells?_some h1
        obtain ⟨y0, y1, y2, n', _, _, g0, g1, g2⟩ := trod_struct3 Yba.underlying33 h2
        match cs', hlen with
        | [z0, z1, z2], _ =>
          simp [cells5, cells3, cells31] at g0 g1 g2
          obtain ⟨p, e0, _, wp⟩ := DataW.trod_int Yba.underlying5 g0
          obtain ⟨q, e1, _, wq⟩ := DataW.trod_int Yba.underlying3 g1
          obtain ⟨ra, rn, rc, rA, e2, halt⟩ := alts_of g2
          simp at e0 e1
          subst e0 e1 e2
          have f0 := hcell 0 (by omega)
          have f1 := hcell 1 (by omega)
          have f2 := hcell 2 (by omega)
          rw [add_add] at f0 f1 f2
          exact ⟨(p, q, ra, rn, rc, rA), by simpa using f0, by simpa using f1, by simpa using f2, (bounds_u8 wp).1, (bounds_u8 wp).2, halt⟩
      obtain ⟨q, hq⟩ := choose_lt each
      refine ⟨fun i => (q i).1, fun i => (q i).2.1, fun i => (q i).2.2.1, fun i => (q i).2.2.2.1, fun i => (q i).2.2.2.2.1, fun i => (q i).2.2.2.2.2, ?_⟩
      by_cases hl0 : len0 = 0
      · exact .inl hl0
      · obtain ⟨b, off, spot⟩ := x
        have hc0 := (hq 0 (by omega)).1
        have hspot : spot = none := by simpa [Addr.add] using World.cell?_spot hc0
        subst hspot
        have hb := World.block_lt_of_cell? W _ hc0
        refine .inr ⟨b, off, rfl, by simpa [Addr.add] using hb, fun j hj => ?_⟩
        have := hq j hj
        simpa only [add_plain, Nat.add_assoc] using this
  clear hA0 hval0
  refine (script_any a0 len0 cap0 P L aa na ca A W w0).mono fun e W' ⟨he, bel⟩ => ?_
  subst he
  exact ⟨_, rfl, _, _, _, [], _, [], hW', trodAll_mk1 (shut_bool Yba.underlying4 _), (trodAll_cons_mk (Below.trod laidOut (by kernel_rfl) (of_decide_eq_true (by kernel_rfl)) k0 bel lt0) trodAll_mk0), rfl, bel.frame _, fun h => by cases h⟩

theorem over : Rows.lawS2913CScriptRow.holds Yba.pinned (OpenSpec.ofChange Rows.lawS2913CScriptSpec) :=
  OpenClaim.holds_of_wide 5 Yba.f5 rfl rfl rfl rfl rfl rfl rfl ⟨rfl, rfl, rfl, rfl, rfl⟩ rfl rfl rfl rfl rfl (by kernel_rfl) Yba.func5 (by kernel_rfl)
    (of_decide_eq_true (by kernel_rfl)) (by unfold Func.isWrapper; first | (rw [if_pos (by decide +kernel)]; kernel_rfl) | (rw [if_neg (by decide +kernel)]; exact ⟨rfl, rfl⟩))
    (fun os started H enc _ => lifted os started H enc)

theorem proved : Rows.LawS2913CScriptSaid := over
#print axioms proved
end Go.Proofs.Ybulkbhho.CScript
