/-
  The contract of Grammar.Add.
-/
import Derived.Test.YbulkbhhoSteps
import Derived.Deep.DeepCutAuto
import Derived.WalkSpells
import Derived.Deep.AppendLies
import Derived.Deep.LoopGhost
namespace Go.Proofs.Ybulkbhho
open Go.RowKit Go.Maps Go.WideMaps

theorem Yba.info49 : (Yba.prog.info? 49).map (fun i => (i.zero, i.size, i.bytes)) = some (some (.pointer none), 1, 8) := by kernel_rfl
theorem Yba.info46 : (Yba.prog.info? 46).map (fun i => (i.zero, i.size, i.bytes)) = some (some (.slice none 0 0), 1, 24) := by kernel_rfl
theorem Yba.info3 : (Yba.prog.info? 3).map (fun i => (i.zero, i.size, i.bytes)) = some (some (.int .i64 0), 1, 8) := by kernel_rfl

theorem one_oneCell (v : Value) (h : v.oneCell' = true) : ∀ u ∈ [v], u.oneCell' = true := by intro u hu; simp at hu; subst hu; exact h

theorem new_one (w : World) (v : Value) (t : TypeId) (a : Nat) (h : a = w.heap.size) : ∀ j u, [v][j]? = some u → (w.alloc (.cells #[v] t)).cell? ((⟨a, 0, none⟩ : Addr).add j) = some u := by
  subst h
  intro j u hu
  match j, hu with
  | 0, hu =>
    simp at hu
    subst hu
    simp [Addr.add, World.cell?_alloc_at]
  | j + 1, hu => simp at hu

set_option maxRecDepth 100000 in
set_option maxHeartbeats 800000 in
theorem add_any (base B ga c k m m' : Nat) (M : Option Nat) (V : Tag → Value) (X : Tag → List Value) (hd hd' : Nat → ByteArray) (ln ln' : Nat → Int) (al : Nat → List Value) (ll : Nat → List Int) (pb : Nat → Nat) (vs : List Value) (s : ByteArray) (line : Int) (w : World)
    (hA : AG w base B M V X m hd ln al ll pb) (hs : s.size ≤ maxLen) (hV6 : V (6, 0) = .slice (some ⟨ga, 0, none⟩) c c) (hX6 : X (6, 0) = vs) (hv1 : ∀ u ∈ vs, u.oneCell' = true) (hc : c ≤ 1024) (hm : m ≤ 1024) (hal : ∀ i, (al i).length ≤ 1048576) (hll : ∀ i, (ll i).length ≤ 1048576)
    (hstep : (fnd hd s m = some k ∧ m' = m ∧ hd' = hd ∧ ln' = ln) ∨ (fnd hd s m = none ∧ k = m ∧ m' = m + 1 ∧ hd' = updN hd m s ∧ ln' = updN ln m line)) :
    Calls Yba.prog 9 #[.pointer (some ⟨B, 0, none⟩), .string s, .int .i64 line, .slice (some ⟨ga, 0, none⟩) c c] w fun e w' => e = .returned (.tuple #[]) ∧
      ∃ M' V' X' pb', AG w' base B M' V' X' m' hd' ln' (updN al k (al k ++ vs)) (updN ll k (ll k ++ List.replicate c line)) pb' ∧ Keep V X V' X' ∧ Below base w w' := by
  have hkm : k < m' := by
    rcases hstep with ⟨hf, rfl, _⟩ | ⟨_, rfl, rfl, _⟩
    · exact (fnd_some hf).1
    · omega
  have hm' : m' ≤ 1025 := by rcases hstep with ⟨_, h, _⟩ | ⟨_, _, h, _⟩ <;> omega
  obtain ⟨g0, g1, g2, z0, z1⟩ := hA.gcells
  obtain ⟨ar, cr, hVr, hcr⟩ := hA.rules
  have hlook := hA.keys.look s hs
  obtain ⟨fn, hfn⟩ : ∃ fn, num (fnd hd s m) = fn := ⟨_, rfl⟩
  obtain ⟨fb, hfb⟩ : ∃ fb, (fnd hd s m).isSome = fb := ⟨_, rfl⟩
  rw [hfn, hfb] at hlook
  have HF : Hid (num (fnd hd s m) = fn ∧ (fnd hd s m).isSome = fb) := ⟨hfn, hfb⟩
  clear hfn hfb
  rw [hVr] at g0
  have q36 : ∀ (w : World) (r : Option Nat), (binOp .eql 36 (.map r) (.map none)).run Yba.prog w = .ok (.bool r.isNone) w := fun w r => run_eql_map_nil w _ _ _ r Yba.underlying36
  have hmm := @run_makeMap Yba.prog
  obtain ⟨i49, j49, a49, b49, c49⟩ := info_parts Yba.info49
  obtain ⟨i46, j46, a46, b46, c46⟩ := info_parts Yba.info46
  obtain ⟨i3, j3, a3, b3, c3⟩ := info_parts Yba.info3
  have HR : Hid (∀ k, k < m → ∃ g, ar = some ⟨g, 0, none⟩ ∧ w.cell? ⟨g, k, none⟩ = some (.pointer (some ⟨pb k, 0, none⟩))) := hcr
  have HVr : Hid (V (1, 0) = .slice ar m cr) := hVr
  have HS : Hid _ := hstep
  have HV6 : Hid (V (6, 0) = .slice (some ⟨ga, 0, none⟩) c c) := hV6
  have HX6 : Hid (X (6, 0) = vs) := hX6
  have HAL : Hid (∀ i, (al i).length ≤ 1048576) := hal
  have HLL : Hid (∀ i, (ll i).length ≤ 1048576) := hll
  clear hcr hVr hstep hV6 hX6 hal hll
  go_enter Yba.func9, Yba.ntmps9
  go_upto_if 21 with fail
  go_cut [8] (fun n wc => n = .int .i64 k ∧ ∃ M' V' X' pb', AG wc base B M' V' X' m' hd' ln' al ll pb' ∧ Keep V X V' X' ∧ Below base w wc)
  case first =>
    rcases HS.out with ⟨hf, rfl, rfl, rfl⟩ | ⟨hf, rfl, rfl, rfl, rfl⟩
    · obtain rfl : fn = (k : Int) := by rw [← HF.out.1, hf]; rfl
      obtain rfl : fb = true := by rw [← HF.out.2, hf]; rfl
      clear HS hf HF
      go_wp2
      go_meet
      case rel => exact ⟨rfl, M, V, X, pb, hA, Keep.refl _ _, Below.refl _ _⟩
    · obtain rfl : fn = 0 := by rw [← HF.out.1, hf]; rfl
      obtain rfl : fb = false := by rw [← HF.out.2, hf]; rfl
      clear HS hf HF
      go_upto_if 26 with fail
      go_cut [8] (fun _ wc => ∃ mb X', AG wc base B (some mb) V X' k hd ln al ll pb ∧ Keep V X V X' ∧ Below base w wc)
      case first =>
        cases M with
        | none =>
          have hAm := hA.mapMade
          have hBs := hA.baseB
          have hge := hA.heap.ge
          have hsz : B < w.heap.size := hBs.2
          rw [World.setCell_alloc_past _ _ _ _ hsz] at hAm
          go_wp2
          go_meet
          case rel => exact ⟨_, _, hAm, Keep.updX (0, 0) _ (by simp), (((Below.refl base w).setCell hBs.1 _).alloc (by simp [World.setCell]; exact hge) _)⟩
        | some mb =>
          go_wp2
          go_meet
          case rel => exact ⟨mb, X, hA, Keep.refl _ _, Below.refl _ _⟩
      case rest =>
        obtain ⟨mb, X', hA', hkeep, hbel⟩ := hcut
        clear HR g0 g1 g2 z0 z1 hlook
        obtain ⟨g0, g1, g2, z0, z1⟩ := hA'.gcells
        rw [HVr.out] at g0
        have hBs := hA'.baseB.2
        have hge := hA'.heap.ge
        have hrow := hA'.heap.row (1, 0)
        have hlen : (X' (1, 0)).length = k := by rw [hA'.gram.rX]; simp
        rw [hlen, HVr.out] at hrow
        clear hlen
        go_wp2_with (at_builtin; refine wpList_append_own_at _ (by rfl) _ _ 35 (by rfl) base 49 i49 _ 1 8 Yba.underlying35 j49 a49 b49 c49 rfl (by decide) _ k (X' (1, 0)) (by rfl) ((hrow.alloc _).alloc _) ⟨wc.heap.size + 1, 0, none⟩ 1 1 [.pointer (some ⟨wc.heap.size, 0, none⟩)] (by rfl) rfl (new_one _ _ _ _ (by simp)) (one_oneCell _ rfl) (by unfold maxLen; omega) (by omega) (by simp; omega) ?_)
        intro v1 W3 hown3 hg3 _ hat
        obtain ⟨gq, cq, hv1', _, _⟩ := hown3.form (by omega)
        have hq := hA'.ruleMade (s := s) (line := line) hs (by omega) (v := v1) (n := k + 1) (W3 := W3) (by rw [HVr.out]; exact hg3) hown3 (by rw [HVr.out]; simpa using hat)
        rw [hv1'] at hq
        rw [hv1']
        obtain ⟨c40, c41, f40, c51, W5, hrun, V2, X2, hA2, hk2, hb2⟩ := hq
        rw [HVr.out] at c40
        clear hown3 hg3 hat hrow hv1'
        go_wp2
        go_meet
        case rel => exact ⟨rfl, some mb, V2, X2, _, hA2, hkeep.trans hk2, hbel.trans hb2⟩
  case rest =>
    obtain ⟨rfl, M', V', X', pb', hA', hkeep, hbel⟩ := hcut
    clear HR HVr g0 g1 g2 z0 z1 hlook HF hA HS q36 hmm j49 a49 b49 c49
    obtain ⟨g0, _⟩ := hA'.gcells
    obtain ⟨ar, cr, hVr, hcr⟩ := hA'.rules
    rw [hVr] at g0
    obtain ⟨gr, har, cg⟩ := hcr k hkm
    subst har
    obtain ⟨_, r1, _, _, f1, _⟩ := hA'.rcells hkm
    obtain ⟨aa, ca, hVa, _, _⟩ := hA'.heap.shape (11, k)
    have hXa : X' (11, k) = al k := hA'.gram.aX k
    have hrow := hA'.heap.row (11, k)
    rw [hXa] at hVa hrow
    rw [hVa] at r1 hrow
    have hk6 := hkeep (6, 0) (by simp) (by simp) (by simp) (by simp) (by simp)
    have hV6' : V' (6, 0) = .slice (some ⟨ga, 0, none⟩) c c := hk6.1.trans HV6.out
    have hX6' : X' (6, 0) = vs := hk6.2.trans HX6.out
    have hlv : vs.length = c := by rw [← hX6']; exact hA'.heap.len hV6'
    have hnews : ∀ j u, vs[j]? = some u → wc.cell? ((⟨ga, 0, none⟩ : Addr).add j) = some u := by
      intro j u hu
      have e1 : ((⟨ga, 0, none⟩ : Addr).add j) = ⟨ga, j, none⟩ := by unfold Addr.add; split <;> simp_all
      rw [e1]
      exact hA'.heap.cell hV6' (by rw [hX6']; exact hu)
    have hge := hA'.heap.ge
    have HVa : Hid (V' (11, k) = .slice aa (al k).length ca) := hVa
    have HXa : Hid (X' (11, k) = al k) := hXa
    have hla := HAL.out k
    have hkm1 : (k : Int) < (m' : Int) := by omega
    have HN : Hid (∀ j u, vs[j]? = some u → wc.cell? ((⟨ga, 0, none⟩ : Addr).add j) = some u) := hnews
    have HLV : Hid (vs.length = c) := hlv
    clear hVr hcr hVa hXa hk6 hV6' hX6' hnews hlv
    go_wp2_with (at_builtin; refine wpList_append_own_at _ (by rfl) _ _ 45 (by rfl) base 46 i46 _ 1 24 Yba.underlying45 j46 a46 b46 c46 rfl (by decide) _ (al k).length (al k) (by rfl) hrow ⟨ga, 0, none⟩ c c vs (by rfl) (by rw [HLV.out]; omega) HN.out hv1 (by unfold maxLen; omega) (by omega) hge ?_)
    intro v1 W1 hown1 hg1 _ hat1
    obtain ⟨aq, cq, hv1'⟩ : ∃ aq cq, v1 = .slice aq ((al k).length + c) cq := by
      rcases hown1.2 with ⟨h1, h2⟩ | ⟨g, cap, _, h1, _⟩
      · exact ⟨none, 0, by rw [h1, h2]⟩
      · exact ⟨_, _, h1⟩
    have hq := hA'.altsMade hkm (v := v1) (n := (al k).length + c) (W1 := W1) (vs := vs) (by rw [HVa.out]; exact hg1) (by rw [HXa.out]; exact hown1) (by rw [HVa.out]; exact hat1)
    rw [hv1'] at hq
    rw [hv1']
    obtain ⟨c1, f1', V2, X2, hA2, hk2, hb2⟩ := hq
    rw [HVa.out] at c1
    clear hown1 hg1 hat1 hrow hv1' HN HVa HXa g0 cg r1 f1
    go_wp2
    have hk0 := hkeep.trans hk2
    have hb0 := hbel.trans hb2
    generalize W1.setCell ⟨pb' k, 1, none⟩ (.slice aq ((al k).length + c) cq) = W2 at hA2 hb0 ⊢
    have e0 : updN ll k (ll k ++ List.replicate 0 line) = ll := by
      funext i
      by_cases h : i = k
      · subst h; simp [updN]
      · rw [updN_other _ _ h]
    rw [← e0] at hA2
    have HA2 : Hid (AG W2 base B M' V2 X2 m' hd' ln' (updN al k (al k ++ vs)) (updN ll k (ll k ++ List.replicate 0 line)) pb') := hA2
    clear e0 hA' hkeep hbel hk2 hb2 c1 f1' hA2
    go_loopw [73] (fun ix wr => ∃ (j : Nat) (V3 : Tag → Value) (X3 : Tag → List Value), j ≤ c ∧ ix = .int .i64 j ∧ Hid (AG wr base B M' V3 X3 m' hd' ln' (updN al k (al k ++ vs)) (updN ll k (ll k ++ List.replicate j line)) pb') ∧ Keep V X V3 X3 ∧ Below base w wr) (fun ix _ => c - (intOf ix).toNat)
    case atStart => exact ⟨0, V2, X2, Nat.zero_le _, rfl, HA2, hk0, hb0⟩
    case round =>
      obtain ⟨j, V3, X3, hj, rfl, hA3, hk3, hb3⟩ := hrel
      clear HA2 hk0 hb0
      by_cases hlt : j < c
      · obtain ⟨_, _, _, r3, _, f3⟩ := hA3.out.rcells hkm
        obtain ⟨a3', c3', hV3, _, _⟩ := hA3.out.heap.shape (12, k)
        have hX3 : X3 (12, k) = (ll k ++ List.replicate j line).map (Value.int .i64) := by rw [hA3.out.gram.lX, updN_same]
        have hrow := hA3.out.heap.row (12, k)
        have hl3 : (X3 (12, k)).length = (ll k).length + j := by rw [hX3]; simp
        rw [hl3] at hV3 hrow
        rw [hV3] at r3 hrow
        have HV3 : Hid (V3 (12, k) = .slice a3' ((ll k).length + j) c3') := hV3
        have hge := hA3.out.heap.ge
        have hpb := (hA3.out.basepb hkm).2
        have hll := HLL.out k
        clear hV3 hX3 hl3
        go_wp2_with (at_builtin; refine wpList_append_own_at _ (by rfl) _ _ 41 (by rfl) base 3 i3 _ 1 8 Yba.underlying41 j3 a3 b3 c3 rfl (by decide) _ ((ll k).length + j) (X3 (12, k)) (by rfl) (hrow.alloc _) ⟨wr.heap.size, 0, none⟩ 1 1 [.int .i64 line] (by rfl) rfl (new_one _ _ _ _ (by simp)) (one_oneCell _ rfl) (by unfold maxLen; omega) (by omega) (by simp; omega) ?_)
        intro v4 W4 hown4 hg4 _ hat4
        obtain ⟨g4, c4, hv4, _, _⟩ := hown4.form (by omega)
        have hq := hA3.out.lineMade hkm (v := v4) (W1 := W4) (line := line) (by rw [HV3.out]; exact hg4) hown4 (by rw [HV3.out]; simpa using hat4)
        rw [hv4] at hq
        rw [hv4]
        obtain ⟨d3, f4, V4, X4, hA4, hk4, hb4⟩ := hq
        rw [HV3.out] at d3
        have e1 : updN (updN ll k (ll k ++ List.replicate j line)) k (updN ll k (ll k ++ List.replicate j line) k ++ [line]) = updN ll k (ll k ++ List.replicate (j + 1) line) := by
          funext i
          by_cases h : i = k
          · subst h; simp [updN, List.replicate_succ']
          · rw [updN_other _ _ h, updN_other _ _ h, updN_other _ _ h]
        rw [e1] at hA4
        have HA4 : Hid _ := hA4
        clear e1 hA4 hown4 hg4 hat4 hrow hv4
        go_wp2
        go_roundw
        case rel => exact ⟨j + 1, V4, X4, by omega, by go_num, HA4, hk3.trans hk4, hb3.trans hb4⟩
        case measure => simp [intOf]; omega
      · have hjc : j = c := by omega
        subst hjc
        go_wp2
        go_end0
        exact ⟨rfl, M', V3, X3, pb', hA3, hk3, hb3⟩
end Go.Proofs.Ybulkbhho
