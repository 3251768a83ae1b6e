/-
  LawS2911CScript: the walk over the contracts of YbulkbhgmWin and YbulkbhgmAdd, and the row's step.
-/
import Derived.Test.YbulkbhgmRows
import Derived.Test.YbulkbhgmInv
import Derived.ProofKit
import Derived.ShutString
import Derived.ChangeOld
import Derived.Below
import Derived.Deep.Slices
import Derived.Deep.Strs
namespace Go.Proofs.Ybulkbhgm.CScript
open Go.ChangeShapes Go.WideShapes Go.ChangeAt Go.RowKit Go.Deep

/-- What the walk is told of the script that came in. -/
def Script (w : World) (a : Option Addr) (n : Nat) (P Q R : Nat → Int) : Prop :=
  n = 0 ∨ ∃ b off, a = some ⟨b, off, none⟩ ∧ ∀ j, j < n → w.cell? ⟨b, off + j * 3, none⟩ = some (.int .u8 (P j)) ∧ w.cell? ⟨b, off + j * 3 + 1, none⟩ = some (.int .u8 (Q j)) ∧ w.cell? ⟨b, off + j * 3 + 2, none⟩ = some (.int .i64 (R j)) ∧
    0 ≤ P j ∧ P j ≤ 255 ∧ 0 ≤ Q j ∧ Q j ≤ 255

set_option maxRecDepth 100000 in
set_option maxHeartbeats 400000 in
theorem script_any (a : Option Addr) (len c0 : Nat) (P Q R : Nat → Int) (w : World) (hs : Script w a len P Q R) :
    Calls Yba.prog 7 #[.slice a len c0] w fun e w' => e = .returned (.bool true) ∧ Below w.heap.size w w' := by
  by_cases hn : len ≤ 1024
  · obtain ⟨i0, hi, hz0, hz1, hz2⟩ := info_parts Yba.info65
    go_enter Yba.func7, Yba.ntmps7
    go_wp2
    go_loopw [4, 5, 6, 7, 16] (fun md hd tt cu ix wr => ∃ (k : Nat) (am a' : Option Addr) (n cap nm capm f h : Nat) (X L : List (Int × Int)) (s c : Int), k ≤ len ∧ ix = .int .i64 k ∧ md = .slice am nm capm ∧ hd = .int .i64 h ∧ tt = .int .i64 s ∧ cu = .int .i32 c ∧ 0 ≤ c ∧ c ≤ 4 * k ∧ Lock w wr w.heap.size k a' am n cap nm capm f h X L s) (fun _ _ _ _ ix _ => len - (intOf ix).toNat)
    case atStart =>
      refine ⟨0, none, none, 0, 0, 0, 0, 0, 0, [], [], 0, 0, Nat.zero_le _, rfl, rfl, rfl, rfl, rfl, by omega, by omega, ?_⟩
      refine ⟨⟨?_, World.ownsRow_nil _ _ _ _, rfl, Nat.le_refl _, Nat.lt_succ_self _⟩, World.ownsRow_nil _ _ _ _, rfl, Nat.le_refl _, rfl, Nat.le_refl _, Nat.le_refl _, .inl rfl, (Below.refl _ _).alloc (Nat.le_refl _) _⟩
      exact Go.heap_alloc_new w _
    case round =>
      obtain ⟨k, am, a', n, cap, nm, capm, f, h, X, L, s, c, hk, rfl, rfl, rfl, rfl, rfl, hc0, hc4, hL⟩ := hrel
      by_cases hlt : k < len
      · rcases hs with h0 | ⟨b, off, ha, hc⟩
        · omega
        subst ha
        obtain ⟨v0, v1, v2, p0, p1, q0, q1⟩ := hc k hlt
        have hb : b < w.heap.size := Go.block_lt_of_cell v0
        have c0' : wr.cell? ⟨b, off + k * 3, none⟩ = some (.int .u8 (P k)) := (hL.below.cell hb).trans v0
        have c1' : wr.cell? ⟨b, off + k * 3 + 1, none⟩ = some (.int .u8 (Q k)) := (hL.below.cell hb).trans v1
        have c2' : wr.cell? ⟨b, off + k * 3 + 2, none⟩ = some (.int .i64 (R k)) := (hL.below.cell hb).trans v2
        clear v0 v1 v2 hc
        by_cases hop : P k % 3 = 2
        · go_wp2_with fail
          refine (drop_any w.heap.size (w.heap.size + 1) n cap f a' X s _ _ (by have := hL.nk; omega) (by exact hL.win.alloc _)).mono ?_
          rintro e w2 ⟨rfl, f', hw2, hd2, hg2⟩
          have hM2 := (hL.mdl.alloc _).kept hg2 hL.mdl_ne
          have hnm := hL.mnk
          have hLl := hL.len
          have hhm := hL.hh
          clear c0' c1' c2'
          go_wp2
          go_loop [5, 6] (fun hd tt => ∃ (h' : Nat) (t : Int), h' ≤ nm ∧ hd = .int .i64 h' ∧ tt = .int .i64 t ∧ Hid (rest (c - Q k % 8) (L.drop h') = rest (c - Q k % 8) (L.drop h)) ∧ Hid (less (c - Q k % 8) (L.drop h') t = less (c - Q k % 8) (L.drop h) s)) (fun hd _ => nm - (intOf hd).toNat)
          case atStart => exact ⟨h, s, hhm, rfl, rfl, rfl, rfl⟩
          case round =>
            obtain ⟨h', t, hh', rfl, rfl, hre, hle⟩ := hrel
            by_cases hlt2 : h' < nm
            · obtain ⟨gm, capm', hvm, _, _⟩ := hM2.form (by omega)
              simp only [Value.slice.injEq, true_and] at hvm
              obtain ⟨rfl, rfl⟩ := hvm
              obtain ⟨x, hx⟩ : ∃ x, L[h']? = some x := ⟨_, List.getElem?_eq_getElem (by omega)⟩
              obtain ⟨m0, m1⟩ := own_cells hM2 hx hlt2
              obtain ⟨xd, xs⟩ := x
              have HX : Hid (L[h']? = some (xd, xs)) := hx
              clear hx
              by_cases hd : xd < c - Q k % 8
              · go_wp2
                go_round
                case rel => exact ⟨h' + 1, wrap64 (t - xs), by omega, by go_num, rfl, (rest_hit HX.out hd).trans hre.out, (less_hit HX.out hd t).trans hle.out⟩
                case measure => simp [intOf]; omega
              · have hL2 := hL.dropped hg2 hw2 hd2 hh' hre.out hle.out (rest_miss HX.out hd) (less_miss HX.out hd t)
                clear hL hg2 hw2 hd2 hre hle HX hM2
                go_wp2_with fail
                refine (same_any w.heap.size (w.heap.size + 1) n cap f' nm capm h' a' _ X L t _ (by have := hL2.nk; omega) (by omega) hL2.win hL2.mdl hL2.len hL2.hh hL2.eq).mono ?_
                rintro e w3 ⟨rfl, m, rfl⟩
                have hL3 := (hL2.drewN m).bump
                clear hL2
                go_wp2
                go_roundw
                case rel => exact ⟨k + 1, _, a', n, cap, nm, capm, f', h', X, L, t, c, by omega, by go_num, rfl, rfl, rfl, rfl, hc0, by omega, hL3⟩
                case measure => simp [intOf]; omega
            · have hll : L.length ≤ h' := by omega
              have hL2 := hL.dropped hg2 hw2 hd2 hh' hre.out hle.out (rest_end hll) (less_end hll t)
              clear hL hg2 hw2 hd2 hre hle hM2
              go_wp2_with fail
              refine (same_any w.heap.size (w.heap.size + 1) n cap f' nm capm h' a' _ X L t _ (by have := hL2.nk; omega) (by omega) hL2.win hL2.mdl hL2.len hL2.hh hL2.eq).mono ?_
              rintro e w3 ⟨rfl, m, rfl⟩
              have hL3 := (hL2.drewN m).bump
              clear hL2
              go_wp2
              go_roundw
              case rel => exact ⟨k + 1, _, a', n, cap, nm, capm, f', h', X, L, t, c, by omega, by go_num, rfl, rfl, rfl, rfl, hc0, by omega, hL3⟩
              case measure => simp [intOf]; omega
        · by_cases hr : 0 < R k
          · go_wp2_with fail
            refine (add_any w.heap.size (w.heap.size + 1) n cap f a' X s _ _ _ (by have := hL.nk; omega) (by have := hL.size; simp; omega) hr (by exact hL.win.alloc _)).mono ?_
            rintro e w2 ⟨rfl, a2, n2, cap2, X2, f2, hw2, hd2, hn2, hm2⟩
            have hLa := hL.laid (.cells #[.int .u8 (P k), .int .u8 (Q k), .int .i64 (R k)] 62)
            have hM2 := own_moved hLa.mdl hm2 (by intro e; have := (hLa.mdl.lt _ e).1; omega) hLa.apart
            have hs2 : w.heap.size < w2.heap.size := (Array.getElem?_eq_some_iff.1 hw2.blk).1
            have hnm := hL.mnk
            have hbo : w2.heap[wr.heap.size]? = some (.cells #[.int .u8 (P k), .int .u8 (Q k), .int .i64 (R k)] 62) := by
              rw [hm2.block _ (by simp) (by have := hL.size; omega) (by intro e; have := (hL.win.own.lt _ e.symm).2; omega)]
              exact Go.heap_alloc_new wr _
            have hso : wr.heap.size < w2.heap.size := (Array.getElem?_eq_some_iff.1 hbo).1
            have hno : some wr.heap.size ≠ (Value.slice am nm capm).ownBlock := by intro e; have := (hL.mdl.lt _ e.symm).2; omega
            have co : w2.cell? ⟨wr.heap.size, 2, none⟩ = some (.int .i64 (R k)) := by rw [cell_of_row w2 _ 2 _ _ _ hbo]; rfl
            go_wp2_with (at_builtin; refine wpList_append_lies _ (by rfl) _ _ 58 (by rfl) (w.heap.size + 1) 65 i0 _ 2 16 Yba.underlying58 hi hz0 hz1 hz2 rfl (by omega) _ nm (flat L) (by rfl) (hM2.alloc _) ⟨w2.heap.size, 0, none⟩ 1 1 [.int .i32 (c + Q k % 5), .int .i64 (R k)] (by rfl) rfl (World.news_of_block (Go.heap_alloc_new w2 _)) (two_oneCell _ _) (by omega) (by unfold maxLen; omega) (by omega) (by simp; omega) (w2.heap.size + 1) (by simp) ?_)
            intro g capm' w3 hown3 hgrow hat _
            rw [flat_snoc] at hown3
            have hL3 := hLa.grown hw2 hd2 hn2 hm2 hown3 hgrow hat
            have co3 : w3.cell? ⟨wr.heap.size, 2, none⟩ = some (.int .i64 (R k)) := by
              rw [hgrow.cell_far ⟨wr.heap.size, 2, none⟩ (by simp; omega) hno, World.cell?_alloc_past _ _ _ hso]
              exact co
            clear hLa hw2 hd2 hn2 hm2 hown3 hgrow hat hM2 co hbo hL hno
            go_wp2_with fail
            refine (same_any w.heap.size (w.heap.size + 1) n2 cap2 f2 (nm + 1) capm' h a2 _ X2 _ _ _ (by have := hL3.nk; omega) (by omega) hL3.win hL3.mdl hL3.len hL3.hh hL3.eq).mono ?_
            rintro e w4 ⟨rfl, m, rfl⟩
            have hL4 := hL3.drewN m
            clear hL3
            go_wp2
            go_roundw
            case rel => exact ⟨k + 1, _, a2, n2, cap2, nm + 1, capm', f2, h, X2, _, _, c + Q k % 5, by omega, by go_num, rfl, rfl, rfl, rfl, by omega, by omega, hL4⟩
            case measure => simp [intOf]; omega
          · have hL1 := hL.laid (.cells #[.int .u8 (P k), .int .u8 (Q k), .int .i64 (R k)] 62)
            go_wp2_with fail
            refine (add_none w.heap.size _ _ _ (by omega)).mono ?_
            rintro e w2 ⟨rfl, hw⟩
            subst hw
            go_wp2_with fail
            refine (same_any w.heap.size (w.heap.size + 1) n cap f nm capm h a' _ X L s _ (by have := hL1.nk; omega) (by have := hL1.mnk; omega) hL1.win hL1.mdl hL1.len hL1.hh hL1.eq).mono ?_
            rintro e w3 ⟨rfl, m, rfl⟩
            have hL3 := (hL1.drewN m).bump
            clear hL1 hL
            go_wp2
            go_roundw
            case rel => exact ⟨k + 1, _, a', n, cap, nm, capm, f, h, X, L, s, c + Q k % 5, by omega, by go_num, rfl, rfl, rfl, rfl, by omega, by omega, hL3⟩
            case measure => simp [intOf]; omega
      · go_wp2
        go_ret
        exact ⟨rfl, hL.below⟩
  · have hn' : (1024 : Int) < (len : Int) := by omega
    go_enter Yba.func7, Yba.ntmps7
    go_wp2
    go_ret
    exact ⟨rfl, Below.refl _ _⟩
theorem own : ownKnob Yba.prog.godebug = none := by kernel_rfl
theorem laidOut : laidOutB Yba.prog = true := by kernel_rfl
theorem cells62 : Yba.prog.cellsOf 62 = 3 := by kernel_rfl
theorem cells5 : Yba.prog.cellsOf 5 = 1 := by kernel_rfl
theorem cells2 : Yba.prog.cellsOf 2 = 1 := by kernel_rfl

set_option maxRecDepth 100000 in
theorem lifted (os : Os) (started : os.Started) (H : Type) (enc : TypeId × Value → H) :
    ReturnsInHanded {} Yba.checked os 7 .any (Rows.lawS2911CScriptSpec.pre6 enc Yba.prog Yba.f7 Rows.lawS2911CScriptRow.domain false) (Rows.lawS2911CScriptSpec.post enc Yba.prog Yba.f7 false true false false) := by
  refine returnsInHanded_of_change (C := Yba.checked) own started (by kernel_rfl) Yba.func7
    (ChangeSpec.witness6 (enc := enc) (C := Yba.checked) false ⟨#[], #[.slice none 0 0], []⟩ 8 (by kernel_rfl) (by kernel_rfl) (by kernel_rfl) (by kernel_rfl)) ?_
  intro W base args ds gs before hval0 hW hcnd _
  have hval : ∀ (j : Nat) t v, Yba.f7.params[j]? = some t → args[j]? = some v → Value.okWide Yba.prog W .any base t v := hval0
  have hW' := hW
  obtain ⟨p, q, hA0, hV, rfl, hfz, hnd⟩ := hW
  have hA : DataW.TrodAll enc Yba.prog W 0 (fun _ => true) true Yba.f7.params.toList args.toList ds p := hA0
  rw [Yba.params7] at hA hval
  obtain ⟨v0, vs0, d0, ds0, p0, q0, hargs, rfl, rfl, h0, r0⟩ := trodAll_cons hA
  obtain ⟨rfl, rfl, rfl⟩ := trodAll_nil r0
  obtain rfl : args = #[v0] := by cases args; simp_all
  obtain ⟨rfl, rfl⟩ := trodVars_none hV
  obtain ⟨a0, len0, cap0, rfl⟩ := okWide_slice Yba.underlying57 (hval 0 57 v0 rfl rfl)
  have k0 := h0
  have lt0 : ∀ x ∈ p0, x.block < W.heap.size := by obtain ⟨m, hm⟩ := k0; exact DataW.trod_lt m _ _ _ hm
  obtain ⟨P, Q, R, w0⟩ : ∃ P Q R, Script W a0 len0 P Q R := by
    obtain ⟨fuel, hf⟩ := h0
    rcases open_slice Yba.underlying57 hf with ⟨hcs, _⟩ | ⟨x, l, c, mm, nn, D, Pl, hcs, _, hl, hm, hmm, _, hx⟩
    · simp [Value.cells] at hcs
      obtain ⟨rfl, rfl, rfl⟩ := hcs
      exact ⟨fun _ => 0, fun _ => 0, fun _ => 0, .inl rfl⟩
    · simp [Value.cells] at hcs
      obtain ⟨rfl, rfl, rfl⟩ := hcs
      simp only [if_true] at hmm
      subst hmm
      have each : ∀ i, i < len0 → ∃ q : Int × Int × Int, W.cell? (x.add (i * 3)) = some (.int .u8 q.1) ∧ W.cell? (x.add (i * 3 + 1)) = some (.int .u8 q.2.1) ∧ W.cell? (x.add (i * 3 + 2)) = some (.int .i64 q.2.2) ∧ 0 ≤ q.1 ∧ q.1 ≤ 255 ∧ 0 ≤ q.2.1 ∧ q.2.1 ≤ 255 := by
        intro i hi
        obtain ⟨cs', h1, h2⟩ := hx i (by omega)
        rw [cells62] at h1
        obtain ⟨_, hlen, hcell⟩ := World.cells?_some h1
        obtain ⟨y0, y1, y2, n', _, _, g0, g1, g2⟩ := trod_struct3 Yba.underlying62 h2
        match cs', hlen with
        | [z0, z1, z2], _ =>
          simp [cells5, cells2] at g0 g1 g2
          obtain ⟨p, e0, _, wp⟩ := DataW.trod_int Yba.underlying5 g0
          obtain ⟨q, e1, _, wq⟩ := DataW.trod_int Yba.underlying5 g1
          obtain ⟨r, e2, _, _⟩ := DataW.trod_int Yba.underlying2 g2
          simp at e0 e1 e2
          subst e0 e1 e2
          have f0 := hcell 0 (by omega)
          have f1 := hcell 1 (by omega)
          have f2 := hcell 2 (by omega)
          rw [add_add] at f0 f1 f2
          exact ⟨(p, q, r), by simpa using f0, by simpa using f1, by simpa using f2, (bounds_u8 wp).1, (bounds_u8 wp).2, (bounds_u8 wq).1, (bounds_u8 wq).2⟩
      obtain ⟨q, hq⟩ := choose_lt each
      refine ⟨fun i => (q i).1, fun i => (q i).2.1, fun i => (q i).2.2, ?_⟩
      by_cases hl0 : len0 = 0
      · exact .inl hl0
      · obtain ⟨b, off, spot⟩ := x
        have hspot : spot = none := by simpa [Addr.add] using World.cell?_spot (hq 0 (by omega)).1
        subst hspot
        refine .inr ⟨b, off, rfl, fun j hj => ?_⟩
        have := hq j hj
        simpa only [add_plain, Nat.add_assoc] using this
  clear hA0 hval0
  refine (script_any a0 len0 cap0 P Q R W w0).mono fun e W' ⟨he, bel⟩ => ?_
  subst he
  exact ⟨_, rfl, _, _, _, [], _, [], hW', trodAll_mk1 (shut_bool Yba.underlying4 _), (trodAll_cons_mk (Below.trod laidOut (by kernel_rfl) (of_decide_eq_true (by kernel_rfl)) k0 bel lt0) trodAll_mk0), rfl, bel.frame _, fun h => by cases h⟩

theorem over : Rows.lawS2911CScriptRow.holds Yba.pinned (OpenSpec.ofChange Rows.lawS2911CScriptSpec) :=
  OpenClaim.holds_of_wide 7 Yba.f7 rfl rfl rfl rfl rfl rfl rfl ⟨rfl, rfl, rfl, rfl, rfl⟩ rfl rfl rfl rfl rfl (by kernel_rfl) Yba.func7 (by kernel_rfl)
    (of_decide_eq_true (by kernel_rfl)) (by unfold Func.isWrapper; first | (rw [if_pos (by decide +kernel)]; kernel_rfl) | (rw [if_neg (by decide +kernel)]; exact ⟨rfl, rfl⟩))
    (fun os started H enc _ => lifted os started H enc)

theorem proved : Rows.LawS2911CScriptSaid := over
#print axioms proved
end Go.Proofs.Ybulkbhgm.CScript
