/-
  The walk of LawS2913CScript: on every script that came in it answers true.
-/
import Derived.Test.YbulkbhhoRound
import Derived.Deep.RegionHeld
import Derived.Deep.AppendLies
import Derived.Deep.CutBlock
import Derived.Deep.RegionLaw
namespace Go.Proofs.Ybulkbhho
open Go.RowKit Go.Maps Go.WideMaps

set_option maxRecDepth 100000 in
set_option maxHeartbeats 1600000 in
theorem script_any (a : Option Addr) (n cap : Nat) (P L : Nat → Int) (aa : Nat → Option Addr) (na ca : Nat → Nat) (A : Nat → Nat → Value) (w : World) (hs : Ops w a n P L aa na ca A) :
    Calls Yba.prog 5 #[.slice a n cap] w fun e w' => e = .returned (.bool true) ∧ Below w.heap.size w w' := by
  by_cases hn : n ≤ 1024
  · have hn' : ¬ (1024 : Int) < (n : Int) := by omega
    go_enter Yba.func5, Yba.ntmps5
    go_wp2
    go_loop [3, 28] (fun _ i => ∃ k : Nat, k ≤ n ∧ i = .int .i64 k ∧ Hid (∀ j, j < k → na j ≤ 1024)) (fun _ i => n - (intOf i).toNat)
    case atStart => exact ⟨0, Nat.zero_le _, rfl, fun j hj => by omega⟩
    case round =>
      obtain ⟨k, hk, rfl, hna⟩ := hrel
      by_cases hlt : k < n
      · rcases id hs with h | ⟨b, off, ha, hb, hc⟩
        · omega
        subst ha
        obtain ⟨_, _, c2, _, _, _⟩ := hc k hlt
        clear hc
        by_cases hbig : (1024 : Int) < (na k : Int)
        · go_wp2
          go_ret
          exact ⟨rfl, Below.refl _ _⟩
        · go_wp2
          go_round
          case rel =>
            refine ⟨k + 1, by omega, by go_num, fun j hj => ?_⟩
            by_cases hjk : j = k
            · subst hjk; omega
            · exact hna.out j (by omega)
          case measure => simp [intOf]; omega
      · obtain rfl : n = k := by omega
        obtain ⟨i46, j46, a46, b46, c46⟩ := info_parts Yba.info46
        go_wp2
        go_loopw [5, 6, 7, 8, 43] (fun s5 s6 s7 s8 ix wr => ∃ (q : Nat) (M : Option Nat) (V : Tag → Value) (X : Tag → List Value) (m : Nat) (hd : Nat → ByteArray) (ln : Nat → Int) (al : Nat → List Value) (ll : Nat → List Int) (pb : Nat → Nat) (a5 a6 a7 a8 : Option Addr) (c5 c6 c7 c8 : Nat), q ≤ n ∧ ix = .int .i64 q ∧ s5 = .slice a5 m c5 ∧ s6 = .slice a6 m c6 ∧ s7 = .slice a7 m c7 ∧ s8 = .slice a8 m c8 ∧ Hid (V (2, 0) = .slice a5 m c5 ∧ V (3, 0) = .slice a6 m c6 ∧ V (4, 0) = .slice a7 m c7 ∧ V (5, 0) = .slice a8 m c8) ∧ Big w wr w.heap.size q M V X m hd ln al ll pb) (fun _ _ _ _ ix _ => n - (intOf ix).toNat)
        case atStart =>
          obtain ⟨M, V, X, pb, e2, e3, e4, e5, hB⟩ := big_start w
          exact ⟨0, M, V, X, 0, _, _, _, _, pb, none, none, none, none, 0, 0, 0, 0, Nat.zero_le _, rfl, rfl, rfl, rfl, rfl, ⟨e2, e3, e4, e5⟩, hB⟩
        case round =>
          obtain ⟨q, M, V, X, m, hd, ln, al, ll, pb, a5, a6, a7, a8, c5, c6, c7, c8, hq, rfl, rfl, rfl, rfl, rfl, hVs, hB⟩ := hrel
          by_cases hltq : q < n
          · rcases id hs with h | ⟨b, off, ha, hb, hc⟩
            · omega
            subst ha
            obtain ⟨v0, v1, v2, p0, p1, hal⟩ := hc q hltq
            have hnq := hna.out q hltq
            have x0 := (hB.bel.cell (p := ⟨b, off + q * 3, none⟩) hb).trans v0
            have x1 := (hB.bel.cell (p := ⟨b, off + q * 3 + 1, none⟩) hb).trans v1
            have x2 := (hB.bel.cell (p := ⟨b, off + q * 3 + 2, none⟩) hb).trans v2
            have hge := hB.ag.heap.ge
            clear v0 v1 v2 hc
            go_wp2_with (first | (go_at_call 8; refine (head_any (P q) _ p0 p1).mono ?_; rintro e w' ⟨rfl, rfl⟩) | (at_make; refine wpList_make_full _ rfl _ _ 45 rfl w.heap.size 46 i46 _ 1 Yba.underlying45 j46 a46 b46 .i64 .i64 _ _ (na q) rfl rfl rfl rfl (by rw [c46]; omega) (by unfold maxLen; omega) (by simp; omega) ?_; intro w1 hown1 hg1; rw [show (wr.alloc (.cells #[.int .u8 (P q), .int .i64 (L q), .slice (aa q) (na q) (ca q)] 33)).heap.size = wr.heap.size + 1 from by simp] at hown1; obtain ⟨V2, X2, hA2, hV7, hX7, hV6, hl6, hot, hb2⟩ := hB.opened (P q) (L q) (aa q) (na q) (ca q) _ hg1 hown1; have z1 : w1.cell? ⟨wr.heap.size, 1, none⟩ = some (.int .i64 (L q)) := hA2.heap.cell hV7 (by rw [hX7]; rfl); have z2 : w1.cell? ⟨wr.heap.size, 2, none⟩ = some (.slice (aa q) (na q) (ca q)) := hA2.heap.cell hV7 (by rw [hX7]; rfl); clear hg1 hown1))
            have HV : Hid (V2 (7, 0) = .slice (some ⟨wr.heap.size, 0, none⟩) 3 3 ∧ X2 (7, 0) = [.int .u8 (P q), .int .i64 (L q), .slice (aa q) (na q) (ca q)] ∧ V2 (6, 0) = .slice (some ⟨wr.heap.size + 1, 0, none⟩) (na q) (na q) ∧ (X2 (6, 0)).length = na q) := ⟨hV7, hX7, hV6, hl6⟩
            have HO : Hid (∀ t : Tag, t.1 ≠ 6 → t.1 ≠ 7 → V2 t = V t ∧ X2 t = X t) := hot
            have HQ : Hid (Big w wr w.heap.size q M V X m hd ln al ll pb) := hB
            have HA2 : Hid (AG w1 w.heap.size w.heap.size M V2 X2 m hd ln al ll pb) := hA2
            clear hV7 hX7 hV6 hl6 hot hB hA2 z1 z2 x0 x1 x2
            generalize hbo : wr.heap.size = bo at HV hge ⊢
            clear hbo
            go_loopw [13, 57] (fun _ ix wq => ∃ (j : Nat) (X3 : Tag → List Value), j ≤ na q ∧ ix = .int .i64 j ∧ Hid (AG wq w.heap.size w.heap.size M V2 X3 m hd ln al ll pb) ∧ Hid ((X3 (6, 0)).length = na q ∧ (∀ t, t < j → (X3 (6, 0))[t]? = some (A q t)) ∧ ∀ t, t ≠ (6, 0) → X3 t = X2 t) ∧ Below w.heap.size w wq) (fun _ ix _ => na q - (intOf ix).toNat)
            case atStart => exact ⟨0, X2, Nat.zero_le _, rfl, HA2, ⟨HV.out.2.2.2, fun t ht => by omega, fun t _ => rfl⟩, hb2⟩
            case round =>
              obtain ⟨j, X3, hj, rfl, hA3, hX3, hb3⟩ := hrel
              by_cases hltj : j < na q
              · have hX7 : X3 (7, 0) = _ := (hX3.out.2.2 (7, 0) (by simp)).trans HV.out.2.1
                have z2 : wr.cell? ⟨bo, 2, none⟩ = some (.slice (aa q) (na q) (ca q)) := hA3.out.heap.cell HV.out.1 (by rw [hX7]; rfl)
                rcases id hal with h | ⟨b', off', ha', hb', hc'⟩
                · omega
                obtain ⟨y1, ⟨aj, nj, cj, hAj, _, _⟩⟩ := hc' j hltj
                have y2 := (hb3.cell (p := ⟨b', off' + j, none⟩) hb').trans y1
                rw [hAj] at y2
                rw [ha'] at z2
                have f6 := hA3.out.heap.frozen HV.out.2.2.1 j
                have hlen6 : j < (X3 (6, 0)).length := by have := hX3.out.1; omega
                have y6 : wr.cell? ⟨bo + 1, j, none⟩ = some (X3 (6, 0))[j] := hA3.out.heap.cell HV.out.2.2.1 (List.getElem?_eq_getElem hlen6)
                have hA4 := hA3.out.store (t := (6, 0)) (by simp [ofGram]) HV.out.2.2.1 j (.slice aj nj cj)
                have HA4 : Hid _ := hA4
                have hjq : (j : Int) < (na q : Int) := by omega
                have HAj : Hid (A q j = .slice aj nj cj) := hAj
                clear hX7 hc' y1 hA4 hAj
                go_wp2
                go_roundw
                case rel =>
                  refine ⟨j + 1, _, by omega, by go_num, HA4, ⟨?_, fun t ht => ?_, fun t ht => ?_⟩, ?_⟩
                  · rw [upd_same, List.length_set]; exact hX3.out.1
                  · rw [upd_same, List.getElem?_set]
                    by_cases htj : j = t
                    · subst htj; simp [hlen6, HAj.out]
                    · simp [htj]; exact hX3.out.2.1 t (by omega)
                  · rw [upd_other _ _ ht]; exact hX3.out.2.2 t ht
                  · exact hb3.setCell (p := ⟨bo + 1, j, none⟩) (by simp; omega) _
                case measure => simp [intOf]; omega
              · have hjn : j = na q := by omega
                subst hjn
                obtain ⟨kk, m', hd', ln', hstep⟩ := step_of hd ln (hname (P q)) m (L q)
                have HS : Hid _ := hstep
                have hX7 : X3 (7, 0) = _ := (hX3.out.2.2 (7, 0) (by simp)).trans HV.out.2.1
                have z1 : wr.cell? ⟨bo, 1, none⟩ = some (.int .i64 (L q)) := hA3.out.heap.cell HV.out.1 (by rw [hX7]; rfl)
                have hrow := alts_row hal hX3.out.1 hX3.out.2.1
                have hM3 : Mod V2 X3 m hd ln al ll := HQ.out.md.congr fun t ht => ⟨(HO.out t (by omega) (by omega)).1, (hX3.out.2.2 t (by intro e; subst e; simp at ht)).trans (HO.out t (by omega) (by omega)).2⟩
                have HM3 : Hid (Mod V2 X3 m hd ln al ll) := hM3
                clear hstep hX7 hM3 HA2
                go_upto_block 6 with (go_at_call 9; refine (add_any w.heap.size w.heap.size (bo + 1) (na q) kk m m' M V2 X3 hd hd' ln ln' al ll pb (X3 (6, 0)) (hname (P q)) (L q) _ hA3.out (hname_size _) HV.out.2.2.1 rfl (fun u hu => (hrow u hu).one) hnq (by have := HQ.out.mle; omega) (fun i => by have := HQ.out.alen i; omega) (fun i => by have := HQ.out.alen i; have := HQ.out.llen i; omega) HS.out).mono ?_; rintro e w5 ⟨rfl, M5, V5, X5, pb5, hA5, hk5, hb5⟩)
                have hM5 : Mod V5 X5 m hd ln al ll := HM3.out.keep hk5
                have hV5 : ∀ t : Tag, (t.1 = 2 ∨ t.1 = 3 ∨ t.1 = 4 ∨ t.1 = 5) → V5 t = V t := fun t ht => ((hk5 t (by omega) (by omega) (by omega) (by omega) (by omega)).1).trans (HO.out t (by omega) (by omega)).1
                have h7 := hk5 (7, 0) (by simp) (by simp) (by simp) (by simp) (by simp)
                have HV7 : Hid (V5 (7, 0) = .slice (some ⟨bo, 0, none⟩) 3 3 ∧ X5 (7, 0) = [.int .u8 (P q), .int .i64 (L q), .slice (aa q) (na q) (ca q)]) := ⟨h7.1.trans HV.out.1, h7.2.trans ((hX3.out.2.2 (7, 0) (by simp)).trans HV.out.2.1)⟩
                have HVs : Hid (V5 (2, 0) = .slice a5 m c5 ∧ V5 (3, 0) = .slice a6 m c6 ∧ V5 (4, 0) = .slice a7 m c7 ∧ V5 (5, 0) = .slice a8 m c8) := ⟨(hV5 _ (by simp)).trans hVs.out.1, (hV5 _ (by simp)).trans hVs.out.2.1, (hV5 _ (by simp)).trans hVs.out.2.2.1, (hV5 _ (by simp)).trans hVs.out.2.2.2⟩
                have HM5 : Hid (Mod V5 X5 m hd ln al ll) := hM5
                have HA5 : Hid (AG w5 w.heap.size w.heap.size M5 V5 X5 m' hd' ln' (updN al kk (al kk ++ X3 (6, 0))) (updN ll kk (ll kk ++ List.replicate (na q) (L q))) pb5) := hA5
                have hbel5 := hb3.trans hb5
                obtain ⟨kz, hkz⟩ : ∃ kz : Int, Hid ((∀ k, fnd hd (hname (P q)) m = some k → kz = k) ∧ (fnd hd (hname (P q)) m = none → kz = -1)) := by
                  cases fnd hd (hname (P q)) m with
                  | some k => exact ⟨k, ⟨(fun j hj => by cases hj; rfl), fun h => by cases h⟩⟩
                  | none => exact ⟨-1, ⟨(fun j hj => by cases hj), fun _ => rfl⟩⟩
                have hmq : m ≤ q := HQ.out.mle
                clear hM5 hV5 h7 hA5 HM3 hk5 hb5 z1 HO hVs hA3
                go_cut [14] (fun s wc => s = .int .i64 kz ∧ wc = w5)
                case first =>
                  go_wp2_with fail
                  go_loop [14, 15, 77] (fun s _ ix => ∃ i : Nat, i ≤ m ∧ s = .int .i64 (-1) ∧ ix = .int .i64 i ∧ Hid (∀ j, j < i → same (hd j) (hname (P q)) = false)) (fun _ _ ix => m - (intOf ix).toNat)
                  case atStart => exact ⟨0, Nat.zero_le _, rfl, rfl, fun j hj => by omega⟩
                  case round =>
                    obtain ⟨i, hi, rfl, rfl, hno⟩ := hrel
                    by_cases hlti : i < m
                    · obtain ⟨g, c, hg, _, _⟩ := HA5.out.heap.form (2, 0) (by rw [HM5.out.hX]; simp; omega)
                      rw [HVs.out.1] at hg
                      obtain ⟨ha5, -, -⟩ : a5 = some ⟨g, 0, none⟩ ∧ _ := by simpa using hg
                      have y1 : w5.cell? ⟨g, i, none⟩ = some (.string (hd i)) := HA5.out.heap.cell (t := (2, 0)) (n := m) (cap := c5) (by rw [HVs.out.1, ha5]) (by rw [HM5.out.hX]; simp [hlti])
                      subst ha5
                      have hlti' : (i : Int) < (m : Int) := by omega
                      clear hg
                      cases hsm : same (hd i) (hname (P q)) with
                      | true =>
                        have hsm' : ((hd i).toList == (hname (P q)).toList) = true := hsm
                        have hkk : kz = i := hkz.out.1 i (fnd_of HQ.out.dis hlti hsm)
                        go_wp2
                        go_meet
                        case rel => exact ⟨by rw [hkk], rfl⟩
                      | false =>
                        have hsm' : ((hd i).toList == (hname (P q)).toList) = false := hsm
                        go_wp2
                        go_round
                        case rel =>
                          refine ⟨i + 1, by omega, rfl, by go_num, fun j hj => ?_⟩
                          by_cases hji : j = i
                          · rw [hji]; exact hsm
                          · exact hno.out j (by omega)
                        case measure => simp [intOf]; omega
                    · have him : i = m := by omega
                      subst him
                      have hkk : kz = -1 := hkz.out.2 (fnd_no hno.out)
                      go_wp2
                      go_meet
                      case rel => exact ⟨by rw [hkk], rfl⟩
                case rest =>
                  obtain ⟨rfl, rfl⟩ := hcut
                  go_upto_if 89 with fail
                  go_cut [5, 6, 7, 8, 14] (fun s5 s6 s7 s8 s14 wc => ∃ (b5 b6 b7 b8 : Option Addr) (d5 d6 d7 d8 : Nat) (V6 : Tag → Value) (X6 : Tag → List Value), s5 = .slice b5 m' d5 ∧ s6 = .slice b6 m' d6 ∧ s7 = .slice b7 m' d7 ∧ s8 = .slice b8 m' d8 ∧ s14 = .int .i64 kk ∧
                    Hid (V6 (2, 0) = .slice b5 m' d5 ∧ V6 (3, 0) = .slice b6 m' d6 ∧ V6 (4, 0) = .slice b7 m' d7 ∧ V6 (5, 0) = .slice b8 m' d8) ∧ Hid (V6 (7, 0) = .slice (some ⟨bo, 0, none⟩) 3 3 ∧ X6 (7, 0) = [.int .u8 (P q), .int .i64 (L q), .slice (aa q) (na q) (ca q)]) ∧
                    Hid (AG wc w.heap.size w.heap.size M5 V6 X6 m' hd' ln' (updN al kk (al kk ++ X3 (6, 0))) (updN ll kk (ll kk ++ List.replicate (na q) (L q))) pb5) ∧ Hid (Mod V6 X6 m' hd' ln' al ll) ∧ Hid (Distinct hd' m') ∧ Below w.heap.size w wc)
                  case first =>
                    rcases HS.out with ⟨hf, rfl, rfl, rfl⟩ | ⟨hf, rfl, rfl, rfl, rfl⟩
                    · have hkk : kz = kk := hkz.out.1 kk hf
                      subst hkk
                      go_wp2
                      go_meet
                      case rel => exact ⟨a5, a6, a7, a8, c5, c6, c7, c8, V5, X5, rfl, rfl, rfl, rfl, rfl, HVs, HV7, HA5, HM5, HQ.out.dis, hbel5⟩
                    · have hkk : kz = -1 := hkz.out.2 hf
                      subst hkk
                      clear HS hkz
                      obtain ⟨i9, j9, a9, b9, c9⟩ := info_parts Yba.info9
                      have hge5 := HA5.out.heap.ge
                      have hrow5 := HA5.out.heap.row (2, 0)
                      have hlen5 := HA5.out.heap.len HVs.out.1
                      rw [hlen5, HVs.out.1] at hrow5
                      clear hlen5
                      go_upto_region 35 with (at_builtin; refine wpList_append_own_at _ (by rfl) _ _ 40 (by rfl) w.heap.size 9 i9 _ 1 16 Yba.underlying40 j9 a9 b9 c9 rfl (by decide) _ kk (X5 (2, 0)) (by rfl) (hrow5.alloc _) ⟨wc.heap.size, 0, none⟩ 1 1 [.string (hname (P q))] (by rfl) rfl (new_one _ _ _ _ (by simp)) (one_oneCell _ rfl) (by unfold maxLen; omega) (by omega) (by simp; omega) ?_; intro v2 W2 hown2 hg2 _ hat2; obtain ⟨g2, d2, hv2, _, _⟩ := hown2.form (by omega); obtain ⟨hA6, hb6⟩ := HA5.out.appended (2, 0) (by simp [ofGram]) (v := v2) (w1 := W2) (by rw [HVs.out.1]; exact hg2) hown2 (by rw [HVs.out.1]; simpa using hat2); subst hv2; clear hown2 hg2 hat2 hrow5)
                      have HA6 : Hid _ := hA6
                      obtain ⟨i3, j3, a3, b3, c3⟩ := info_parts Yba.info3
                      have z1 : W2.cell? ⟨bo, 1, none⟩ = some (.int .i64 (L q)) := hA6.heap.cell (t := (7, 0)) ((upd_other _ _ (by simp)).trans HV7.out.1) (by rw [upd_other _ _ (by simp), HV7.out.2]; rfl)
                      have hge6 := hA6.heap.ge
                      have hbo6 : bo < W2.heap.size := ((hA6.heap.row (7, 0)).lt bo (by rw [upd_other _ _ (by simp), HV7.out.1]; rfl)).2
                      have hl6 := hA6.heap.len (t := (3, 0)) ((upd_other _ _ (by simp)).trans HVs.out.2.1)
                      have hrow6 : W2.ownsRow w.heap.size 3 1 (.slice a6 kk c6) kk (X5 (3, 0)) := by
                        have h := hA6.heap.row (3, 0)
                        rw [hl6, upd_other _ _ (by simp), upd_other _ _ (by simp), HVs.out.2.1] at h
                        exact h
                      clear hl6 hA6 j9 a9 b9 c9
                      go_upto_region 36 with (at_builtin; refine wpList_append_own_at _ (by rfl) _ _ 41 (by rfl) w.heap.size 3 i3 _ 1 8 Yba.underlying41 j3 a3 b3 c3 rfl (by decide) _ kk (X5 (3, 0)) (by rfl) (hrow6.alloc _) ⟨W2.heap.size, 0, none⟩ 1 1 [.int .i64 (L q)] (by rfl) rfl (new_one _ _ _ _ (by simp)) (one_oneCell _ rfl) (by unfold maxLen; omega) (by omega) (by simp; omega) ?_; intro v3 W3 hown3 hg3 _ hat3; obtain ⟨g3, d3, hv3, _, _⟩ := hown3.form (by omega); obtain ⟨hA7, hb7⟩ := HA6.out.appended (3, 0) (by simp [ofGram]) (v := v3) (w1 := W3) (by rw [upd_other _ _ (by simp), HVs.out.2.1]; exact hg3) hown3 (by rw [upd_other _ _ (by simp), HVs.out.2.1]; simpa using hat3); subst hv3; clear hown3 hg3 hat3 hrow6 z1)
                      have HA7 : Hid _ := hA7
                      clear HA6 j3 a3 b3 c3
                      obtain ⟨i31, j31, a31, b31, c31⟩ := info_parts Yba.info31
                      have hge7 := hA7.heap.ge
                      have hl7 := hA7.heap.len (t := (4, 0)) ((upd_other _ _ (by simp)).trans ((upd_other _ _ (by simp)).trans HVs.out.2.2.1))
                      have hrow7 : W3.ownsRow w.heap.size 31 1 (.slice a7 kk c7) kk (X5 (4, 0)) := by
                        have h := hA7.heap.row (4, 0)
                        rw [hl7, upd_other _ _ (by simp), upd_other _ _ (by simp), upd_other _ _ (by simp), upd_other _ _ (by simp), HVs.out.2.2.1] at h
                        exact h
                      clear hl7 hA7
                      go_upto_region 37 with (at_builtin; refine wpList_append_own_at _ (by rfl) _ _ 42 (by rfl) w.heap.size 31 i31 _ 1 24 Yba.underlying42 j31 a31 b31 c31 rfl (by decide) _ kk (X5 (4, 0)) (by rfl) (hrow7.alloc _) ⟨W3.heap.size, 0, none⟩ 1 1 [.slice none 0 0] (by rfl) rfl (new_one _ _ _ _ (by simp)) (one_oneCell _ rfl) (by unfold maxLen; omega) (by omega) (by simp; omega) ?_; intro v4 W4 hown4 hg4 _ hat4; obtain ⟨g4, d4, hv4, _, _⟩ := hown4.form (by omega); obtain ⟨hA8, hb8⟩ := HA7.out.appended (4, 0) (by simp [ofGram]) (v := v4) (w1 := W4) (by rw [upd_other _ _ (by simp), upd_other _ _ (by simp), HVs.out.2.2.1]; exact hg4) hown4 (by rw [upd_other _ _ (by simp), upd_other _ _ (by simp), HVs.out.2.2.1]; simpa using hat4); subst hv4; clear hown4 hg4 hat4 hrow7)
                      have HA8 : Hid _ := hA8
                      clear HA7 j31 a31 b31 c31
                      obtain ⟨i41, j41, a41, b41, c41⟩ := info_parts Yba.info41
                      have hge8 := hA8.heap.ge
                      have hl8 := hA8.heap.len (t := (5, 0)) ((upd_other _ _ (by simp)).trans ((upd_other _ _ (by simp)).trans ((upd_other _ _ (by simp)).trans HVs.out.2.2.2)))
                      have hrow8 : W4.ownsRow w.heap.size 41 1 (.slice a8 kk c8) kk (X5 (5, 0)) := by
                        have h := hA8.heap.row (5, 0)
                        rw [hl8, upd_other _ _ (by simp), upd_other _ _ (by simp), upd_other _ _ (by simp), upd_other _ _ (by simp), upd_other _ _ (by simp), upd_other _ _ (by simp), HVs.out.2.2.2] at h
                        exact h
                      clear hl8 hA8
                      go_wp2_with (at_builtin; refine wpList_append_own_at _ (by rfl) _ _ 43 (by rfl) w.heap.size 41 i41 _ 1 24 Yba.underlying43 j41 a41 b41 c41 rfl (by decide) _ kk (X5 (5, 0)) (by rfl) (hrow8.alloc _) ⟨W4.heap.size, 0, none⟩ 1 1 [.slice none 0 0] (by rfl) rfl (new_one _ _ _ _ (by simp)) (one_oneCell _ rfl) (by unfold maxLen; omega) (by omega) (by simp; omega) ?_; intro v5 W5 hown5 hg5 _ hat5; obtain ⟨g5, d5, hv5, _, _⟩ := hown5.form (by omega); obtain ⟨hA9, hb9⟩ := HA8.out.appended (5, 0) (by simp [ofGram]) (v := v5) (w1 := W5) (by rw [upd_other _ _ (by simp), upd_other _ _ (by simp), upd_other _ _ (by simp), HVs.out.2.2.2]; exact hg5) hown5 (by rw [upd_other _ _ (by simp), upd_other _ _ (by simp), upd_other _ _ (by simp), HVs.out.2.2.2]; simpa using hat5); subst hv5; clear hown5 hg5 hat5 hrow8)
                      go_meet
                      case rel =>
                        refine ⟨_, _, _, _, _, _, _, _, _, _, rfl, rfl, rfl, rfl, rfl, ⟨?_, ?_, ?_, ?_⟩, ⟨?_, ?_⟩, hA9, HM5.out.added (hname (P q)) (L q) _ _ _ _, HQ.out.dis.add hf, (((hbel5.trans hb6).trans hb7).trans hb8).trans hb9⟩
                        · simp [upd]
                        · simp [upd]
                        · simp [upd]
                        · simp [upd]
                        · simp [upd]; exact HV7.out.1
                        · simp [upd]; exact HV7.out.2
                  case rest =>
                    obtain ⟨b5, b6, b7, b8, d5, d6, d7, d8, V6, X6, rfl, rfl, rfl, rfl, rfl, HVs6, HV76, HA6, HM6, HD6, hbel6⟩ := hcut
                    have hkm : kk < m' ∧ m' ≤ q + 1 := by
                      rcases HS.out with ⟨hf, h1, _, _⟩ | ⟨_, h1, h2, _⟩
                      · have := (fnd_some hf).1; omega
                      · omega
                    have hlen4 : (X6 (4, 0)).length = m' := by rw [HM6.out.aX]; simp
                    have hlen5 : (X6 (5, 0)).length = m' := by rw [HM6.out.lX]; simp
                    obtain ⟨g7, e7, hg7, _, _⟩ := HA6.out.heap.form (4, 0) (by omega)
                    obtain ⟨g8, e8, hg8, _, _⟩ := HA6.out.heap.form (5, 0) (by omega)
                    rw [HVs6.out.2.2.1] at hg7
                    rw [HVs6.out.2.2.2] at hg8
                    obtain ⟨hb7, -, -⟩ : b7 = some ⟨g7, 0, none⟩ ∧ _ := by simpa using hg7
                    obtain ⟨hb8, -, -⟩ : b8 = some ⟨g8, 0, none⟩ ∧ _ := by simpa using hg8
                    subst hb7 hb8
                    clear hg7 hg8 hlen4 hlen5
                    have z2 : wc.cell? ⟨bo, 2, none⟩ = some (.slice (aa q) (na q) (ca q)) := HA6.out.heap.cell HV76.out.1 (by rw [HV76.out.2]; rfl)
                    go_wp2
                    go_loopw [16, 110] (fun _ ix wq => ∃ (j : Nat) (V7 : Tag → Value) (X7 : Tag → List Value), j ≤ na q ∧ ix = .int .i64 j ∧ Hid (AG wq w.heap.size w.heap.size M5 V7 X7 m' hd' ln' (updN al kk (al kk ++ X3 (6, 0))) (updN ll kk (ll kk ++ List.replicate (na q) (L q))) pb5) ∧
                      Hid (Mod V7 X7 m' hd' ln' (updN al kk (al kk ++ (X3 (6, 0)).take j)) (updN ll kk (ll kk ++ List.replicate j (L q)))) ∧ Hid ((∀ t : Tag, t.1 ≠ 13 → t.1 ≠ 14 → V7 t = V6 t) ∧ X7 (7, 0) = X6 (7, 0)) ∧ Below w.heap.size w wq) (fun _ ix _ => na q - (intOf ix).toNat)
                    case atStart =>
                      refine ⟨0, V6, X6, Nat.zero_le _, rfl, HA6, ?_, ⟨fun _ _ _ => rfl, rfl⟩, hbel6⟩
                      have e1 : updN al kk (al kk ++ (X3 (6, 0)).take 0) = al := by
                        funext i
                        by_cases h : i = kk
                        · subst h; simp [updN]
                        · rw [updN_other _ _ h]
                      have e2 : updN ll kk (ll kk ++ List.replicate 0 (L q)) = ll := by
                        funext i
                        by_cases h : i = kk
                        · subst h; simp [updN]
                        · rw [updN_other _ _ h]
                      show Mod _ _ _ _ _ _ _
                      rw [e1, e2]
                      exact HM6.out
                    case round =>
                      obtain ⟨j, V7, X7, hj, rfl, HA7, HM7, HE7, hbel7⟩ := hrel
                      clear z2
                      by_cases hltj : j < na q
                      · have hV4 : V7 (4, 0) = .slice (some ⟨g7, 0, none⟩) m' d7 := (HE7.out.1 _ (by simp) (by simp)).trans HVs6.out.2.2.1
                        have hV7' : V7 (7, 0) = _ := (HE7.out.1 (7, 0) (by simp) (by simp)).trans HV76.out.1
                        have hX7' : X7 (7, 0) = _ := HE7.out.2.trans HV76.out.2
                        have z1 : wr.cell? ⟨bo, 1, none⟩ = some (.int .i64 (L q)) := HA7.out.heap.cell hV7' (by rw [hX7']; rfl)
                        have z2 : wr.cell? ⟨bo, 2, none⟩ = some (.slice (aa q) (na q) (ca q)) := HA7.out.heap.cell hV7' (by rw [hX7']; rfl)
                        rcases id hal with h | ⟨b', off', ha', hb', hc'⟩
                        · omega
                        obtain ⟨y1, ⟨aj, nj, cj, hAj, _, _⟩⟩ := hc' j hltj
                        have y2 := (hbel7.cell (p := ⟨b', off' + j, none⟩) hb').trans y1
                        rw [hAj] at y2
                        rw [ha'] at z2
                        obtain ⟨a13, c13, hV13, _, _⟩ := HA7.out.heap.shape (13, kk)
                        have y4 : wr.cell? ⟨g7, kk, none⟩ = some (V7 (13, kk)) := HA7.out.heap.cell hV4 (by rw [HM7.out.aX]; simp [hkm.1])
                        have hl13 : (X7 (13, kk)).length ≤ 2000000 := by
                          rw [HM7.out.a2, updN_same, List.length_append, List.length_take]
                          have := HQ.out.alen kk
                          omega
                        have hrow13 := HA7.out.heap.row (13, kk)
                        generalize hl : (X7 (13, kk)).length = l13 at hV13 hl13 hrow13
                        rw [hV13] at y4 hrow13
                        have hkm1 : (kk : Int) < (m' : Int) := by omega
                        have hjq : (j : Int) < (na q : Int) := by omega
                        obtain ⟨i40, j40, a40, b40, c40⟩ := info_parts Yba.info40
                        have HAj : Hid (A q j = .slice aj nj cj) := hAj
                        have HV4 : Hid (V7 (4, 0) = .slice (some ⟨g7, 0, none⟩) m' d7 ∧ V7 (13, kk) = .slice a13 l13 c13) := ⟨hV4, hV13⟩
                        have hge7 := HA7.out.heap.ge
                        have hnn7 : ∀ O : Obj, (wr.alloc O).cell? ⟨g7, kk, none⟩ = some (.slice a13 l13 c13) := fun O => (World.cell?_alloc_some wr _ O (by rw [y4]; rfl)).trans y4
                        clear hV4 hV7' hX7' hAj hc' y1 hV13 hl ha'
                        go_wp2
                        go_cut [113] (fun _ wc => ∃ (V8 : Tag → Value) (X8 : Tag → List Value), Hid (AG wc w.heap.size w.heap.size M5 V8 X8 m' hd' ln' (updN al kk (al kk ++ X3 (6, 0))) (updN ll kk (ll kk ++ List.replicate (na q) (L q))) pb5) ∧
                          Hid (Mod V8 X8 m' hd' ln' (updN (updN al kk (al kk ++ (X3 (6, 0)).take j)) kk (updN al kk (al kk ++ (X3 (6, 0)).take j) kk ++ [.slice aj nj cj])) (updN ll kk (ll kk ++ List.replicate j (L q)))) ∧ Hid ((∀ t : Tag, t.1 ≠ 13 → t.1 ≠ 14 → V8 t = V7 t) ∧ X8 (7, 0) = X7 (7, 0)) ∧ Below w.heap.size w wc)
                        case first =>
                          go_region_law (refine step_append_lies _ rfl (.tmp 118) (.tmp 124) 31 rfl w.heap.size 40 i40 _ 1 24 Yba.underlying31 j40 a40 b40 c40 rfl (by decide) (.slice a13 l13 c13) l13 (X7 (13, kk)) (by simp [Act.eval]) (hrow13.drew.alloc _) ⟨wr.heap.size, 0, none⟩ 1 1 [.slice aj nj cj] (by simp [Act.eval]) rfl (new_one _ _ _ _ (by simp)) (one_oneCell _ rfl) (by decide) (by unfold maxLen; omega) (by omega) (by simp; omega) (wr.heap.size + 1) (by simp) ?_; intro g cp W1 hown1 hgr1 hat1 _; obtain ⟨c4, f4, V8, X8, hA8, hM8, hE8, hX8, hb8⟩ := HA7.out.drew.altStep HM7.out hkm.1 HV4.out.1 (x := .slice aj nj cj) (by rw [HV4.out.2]; exact hgr1) hown1 (by rw [HV4.out.2]; exact hat1); rw [HV4.out.2] at c4; clear hown1 hgr1 hat1)
                          all_goals (go_wp2; go_meet; exact ⟨V8, X8, hA8, hM8, ⟨hE8, hX8⟩, hbel7.drew.trans hb8⟩)
                        case rest =>
                          obtain ⟨V8, X8, HA8, HM8, HE8, hbel8⟩ := hcut
                          clear z1 z2 y2 y4 hnn7 hrow13 j40 a40 b40 c40 hge7 HV4
                          have hV4 : V8 (5, 0) = .slice (some ⟨g8, 0, none⟩) m' d8 := (HE8.out.1 _ (by simp) (by simp)).trans ((HE7.out.1 _ (by simp) (by simp)).trans HVs6.out.2.2.2)
                          have hV7' : V8 (7, 0) = _ := (HE8.out.1 (7, 0) (by simp) (by simp)).trans ((HE7.out.1 (7, 0) (by simp) (by simp)).trans HV76.out.1)
                          have hX7' : X8 (7, 0) = _ := HE8.out.2.trans (HE7.out.2.trans HV76.out.2)
                          have z1 : wc.cell? ⟨bo, 1, none⟩ = some (.int .i64 (L q)) := HA8.out.heap.cell hV7' (by rw [hX7']; rfl)
                          obtain ⟨a14, c14, hV14, _, _⟩ := HA8.out.heap.shape (14, kk)
                          have y4 : wc.cell? ⟨g8, kk, none⟩ = some (V8 (14, kk)) := HA8.out.heap.cell hV4 (by rw [HM8.out.lX]; simp [hkm.1])
                          have hl14 : (X8 (14, kk)).length ≤ 2000000 := by
                            rw [HM8.out.l2, List.length_map, updN_same, List.length_append, List.length_replicate]
                            have := HQ.out.alen kk
                            have := HQ.out.llen kk
                            omega
                          have hrow14 := HA8.out.heap.row (14, kk)
                          generalize hl : (X8 (14, kk)).length = l14 at hV14 hl14 hrow14
                          rw [hV14] at y4 hrow14
                          obtain ⟨i3, j3, a3, b3, c3⟩ := info_parts Yba.info3
                          have HV4 : Hid (V8 (5, 0) = .slice (some ⟨g8, 0, none⟩) m' d8 ∧ V8 (14, kk) = .slice a14 l14 c14) := ⟨hV4, hV14⟩
                          have hge8 := HA8.out.heap.ge
                          have hnn8 : ∀ O : Obj, (wc.alloc O).cell? ⟨g8, kk, none⟩ = some (.slice a14 l14 c14) := fun O => (World.cell?_alloc_some wc _ O (by rw [y4]; rfl)).trans y4
                          clear hV4 hV7' hX7' hV14 hl
                          go_wp2
                          have e1 : updN (updN al kk (al kk ++ (X3 (6, 0)).take j)) kk (updN al kk (al kk ++ (X3 (6, 0)).take j) kk ++ [.slice aj nj cj]) = updN al kk (al kk ++ (X3 (6, 0)).take (j + 1)) := by
                            funext i
                            by_cases h : i = kk
                            · subst h; rw [updN_same, updN_same, updN_same, List.take_add_one, hX3.out.2.1 j hltj, HAj.out]; simp
                            · rw [updN_other _ _ h, updN_other _ _ h, updN_other _ _ h]
                          have e2 : updN (updN ll kk (ll kk ++ List.replicate j (L q))) kk (updN ll kk (ll kk ++ List.replicate j (L q)) kk ++ [L q]) = updN ll kk (ll kk ++ List.replicate (j + 1) (L q)) := by
                            funext i
                            by_cases h : i = kk
                            · subst h; rw [updN_same, updN_same, updN_same, List.replicate_succ']; simp
                            · rw [updN_other _ _ h, updN_other _ _ h, updN_other _ _ h]
                          have HE : Hid (_ ∧ _) := ⟨e1, e2⟩
                          clear e1 e2
                          go_region_law (refine step_append_lies _ rfl (.tmp 132) (.tmp 135) 41 rfl w.heap.size 3 i3 _ 1 8 Yba.underlying41 j3 a3 b3 c3 rfl (by decide) (.slice a14 l14 c14) l14 (X8 (14, kk)) (by simp [Act.eval]) (hrow14.drew.alloc _) ⟨wc.heap.size, 0, none⟩ 1 1 [.int .i64 (L q)] (by simp [Act.eval]) rfl (new_one _ _ _ _ (by simp)) (one_oneCell _ rfl) (by decide) (by unfold maxLen; omega) (by omega) (by simp; omega) (wc.heap.size + 1) (by simp) ?_; intro g cp W1 hown1 hgr1 hat1 _; obtain ⟨c4, f4, V9, X9, hA9, hM9, hE9, hX9, hb9⟩ := HA8.out.drew.lineStep HM8.out hkm.1 HV4.out.1 (x := L q) (by rw [HV4.out.2]; exact hgr1) hown1 (by rw [HV4.out.2]; exact hat1); rw [HV4.out.2] at c4; clear hown1 hgr1 hat1)
                          all_goals (
                            go_wp2
                            go_roundw
                            case rel =>
                              have hM10 : Mod V9 X9 m' hd' ln' (updN al kk (al kk ++ (X3 (6, 0)).take (j + 1))) (updN ll kk (ll kk ++ List.replicate (j + 1) (L q))) := by
                                rw [← HE.out.1, ← HE.out.2]
                                exact hM9
                              exact ⟨j + 1, V9, X9, by omega, by go_num, hA9, hM10, ⟨fun t h1 h2 => (hE9 t h1 h2).trans ((HE8.out.1 t h1 h2).trans (HE7.out.1 t h1 h2)), hX9.trans (HE8.out.2.trans HE7.out.2)⟩, hbel8.drew.trans hb9⟩
                            case measure => simp [intOf]; omega)
                      · have hjn : j = na q := by omega
                        subst hjn
                        have hBig : Big w wr w.heap.size (q + 1) M5 V7 X7 m' hd' ln' (updN al kk (al kk ++ X3 (6, 0))) (updN ll kk (ll kk ++ List.replicate (na q) (L q))) pb5 := by
                          refine ⟨HA7.out, ?_, HD6.out, by omega, fun i => ?_, fun i => ?_, fun i v hv => ?_, hbel7, fun i hi => ?_⟩
                          · have e := HM7.out
                            rw [List.take_of_length_le (Nat.le_of_eq hX3.out.1)] at e
                            exact e
                          · by_cases h : i = kk
                            · subst h; rw [updN_same, List.length_append, hX3.out.1]; have := HQ.out.alen i; omega
                            · rw [updN_other _ _ h]; have := HQ.out.alen i; omega
                          · by_cases h : i = kk
                            · subst h; rw [updN_same, updN_same, List.length_append, List.length_append, List.length_replicate, hX3.out.1, HQ.out.llen i]
                            · rw [updN_other _ _ h, updN_other _ _ h]; exact HQ.out.llen i
                          · by_cases h : i = kk
                            · subst h
                              rw [updN_same] at hv
                              rcases List.mem_append.1 hv with h | h
                              · exact HQ.out.ok i v h
                              · exact hrow v h
                            · rw [updN_other _ _ h] at hv; exact HQ.out.ok i v hv
                          · rcases HS.out with ⟨_, h1, h2, _⟩ | ⟨_, _, h1, h2, _⟩
                            · rw [h2]; exact HQ.out.sz i (by omega)
                            · rw [h2]
                              by_cases h : i = m
                              · rw [h, updN_same]; exact hname_size _
                              · rw [updN_other _ _ h]; exact HQ.out.sz i (by omega)
                        have hVs7 : Hid (V7 (2, 0) = .slice b5 m' d5 ∧ V7 (3, 0) = .slice b6 m' d6 ∧ V7 (4, 0) = .slice (some ⟨g7, 0, none⟩) m' d7 ∧ V7 (5, 0) = .slice (some ⟨g8, 0, none⟩) m' d8) :=
                          ⟨(HE7.out.1 _ (by simp) (by simp)).trans HVs6.out.1, (HE7.out.1 _ (by simp) (by simp)).trans HVs6.out.2.1, (HE7.out.1 _ (by simp) (by simp)).trans HVs6.out.2.2.1, (HE7.out.1 _ (by simp) (by simp)).trans HVs6.out.2.2.2⟩
                        have HBig : Hid _ := hBig
                        clear hBig
                        go_wp2
                        go_roundw
                        case rel => exact ⟨q + 1, M5, V7, X7, m', hd', ln', _, _, pb5, _, _, _, _, _, _, _, _, by omega, by go_num, rfl, rfl, rfl, rfl, hVs7, HBig.out⟩
                        case measure => simp [intOf]; omega
          · obtain ⟨g0, g1, g2, f0, f1⟩ := hB.ag.gcells
            obtain ⟨ar, cr, hVr, hcr⟩ := hB.ag.rules
            rw [hVr] at g0
            have hlen := fun ty => hB.ag.keys.len hB.dis ty
            clear hVr
            have HR : Hid _ := hcr
            clear hcr
            have HB : Hid _ := hB
            clear hB f0 f1
            go_wp2_with (go_at_call 10; refine (rules_any w.heap.size m ar cr _ g0).mono ?_; rintro e w' ⟨rfl, rfl⟩)
            obtain ⟨W, hW⟩ : ∃ W, W = wr := ⟨_, rfl⟩
            subst hW
            clear hlen g0 g2
            go_loopw [164] (fun ix wq => ∃ i d : Nat, i ≤ m ∧ ix = .int .i64 i ∧ wq = W.drewN d) (fun ix _ => m - (intOf ix).toNat)
            case atStart => exact ⟨0, 0, Nat.zero_le _, rfl, rfl⟩
            case round =>
              obtain ⟨i, d, hi, rfl, rfl⟩ := hrel
              have hmn : m ≤ 1024 := by have := HB.out.mle; omega
              by_cases hlti : i < m
              · obtain ⟨gr, har, cg⟩ := HR.out i hlti
                subst har
                obtain ⟨r0, r1, r2, r3, _, _⟩ := HB.out.ag.rcells hlti
                obtain ⟨a11, c11, hV11, _, hs11⟩ := HB.out.ag.heap.shape (11, i)
                obtain ⟨a12, c12, hV12, _, hs12⟩ := HB.out.ag.heap.shape (12, i)
                obtain ⟨a13, c13, hV13, _, hs13⟩ := HB.out.ag.heap.shape (13, i)
                obtain ⟨a14, c14, hV14, _, hs14⟩ := HB.out.ag.heap.shape (14, i)
                have hl11 : (X (11, i)).length = (al i).length := by rw [HB.out.ag.gram.aX]
                have hl12 : (X (12, i)).length = (al i).length := by rw [HB.out.ag.gram.lX, List.length_map]; exact HB.out.llen i
                have hl13 : (X (13, i)).length = (al i).length := by rw [HB.out.md.a2]
                have hl14 : (X (14, i)).length = (al i).length := by rw [HB.out.md.l2, List.length_map]; exact HB.out.llen i
                rw [hl11] at hV11
                rw [hl12] at hV12
                rw [hl13] at hV13
                rw [hl14] at hV14
                obtain ⟨h5, _, e5, _, _⟩ := HB.out.ag.heap.form (2, 0) (by rw [HB.out.md.hX]; simp; omega)
                obtain ⟨h6, _, e6, _, _⟩ := HB.out.ag.heap.form (3, 0) (by rw [HB.out.md.nX]; simp; omega)
                obtain ⟨h7, _, e7, _, _⟩ := HB.out.ag.heap.form (4, 0) (by rw [HB.out.md.aX]; simp; omega)
                obtain ⟨h8, _, e8, _, _⟩ := HB.out.ag.heap.form (5, 0) (by rw [HB.out.md.lX]; simp; omega)
                rw [hVs.out.1] at e5
                rw [hVs.out.2.1] at e6
                rw [hVs.out.2.2.1] at e7
                rw [hVs.out.2.2.2] at e8
                obtain ⟨q5, -, -⟩ : a5 = some ⟨h5, 0, none⟩ ∧ _ := by simpa using e5
                obtain ⟨q6, -, -⟩ : a6 = some ⟨h6, 0, none⟩ ∧ _ := by simpa using e6
                obtain ⟨q7, -, -⟩ : a7 = some ⟨h7, 0, none⟩ ∧ _ := by simpa using e7
                obtain ⟨q8, -, -⟩ : a8 = some ⟨h8, 0, none⟩ ∧ _ := by simpa using e8
                subst q5 q6 q7 q8
                have k5 : W.cell? ⟨h5, i, none⟩ = some (.string (hd i)) := HB.out.ag.heap.cell hVs.out.1 (by rw [HB.out.md.hX]; simp [hlti])
                have k6 : W.cell? ⟨h6, i, none⟩ = some (.int .i64 (ln i)) := HB.out.ag.heap.cell hVs.out.2.1 (by rw [HB.out.md.nX]; simp [hlti])
                have k7 : W.cell? ⟨h7, i, none⟩ = some (V (13, i)) := HB.out.ag.heap.cell hVs.out.2.2.1 (by rw [HB.out.md.aX]; simp [hlti])
                have k8 : W.cell? ⟨h8, i, none⟩ = some (V (14, i)) := HB.out.ag.heap.cell hVs.out.2.2.2 (by rw [HB.out.md.lX]; simp [hlti])
                rw [hV13] at k7
                rw [hV14] at k8
                rw [hV11] at r1
                rw [hV12] at r3
                have hlk : Hid (∀ x, (Instr.lookup 36 (.map M) (.string (hd i)) true).run Yba.prog (W.drewN x) = .ok (.tuple #[.int .i64 i, .bool true]) (W.drewN x)) := by
                  intro x
                  have h := (HB.out.ag.drewN x).keys.look (hd i) (HB.out.sz i hlti)
                  rw [fnd_of HB.out.dis hlti (same_refl _)] at h
                  exact h
                have HVV : Hid (V (11, i) = .slice a11 (al i).length c11 ∧ V (12, i) = .slice a12 (al i).length c12 ∧ V (13, i) = .slice a13 (al i).length c13 ∧ V (14, i) = .slice a14 (al i).length c14) := ⟨hV11, hV12, hV13, hV14⟩
                have HSS : Hid ((∀ x, a11 = some x → ∃ g, x = ⟨g, 0, none⟩) ∧ (∀ x, a12 = some x → ∃ g, x = ⟨g, 0, none⟩) ∧ (∀ x, a13 = some x → ∃ g, x = ⟨g, 0, none⟩) ∧ (∀ x, a14 = some x → ∃ g, x = ⟨g, 0, none⟩)) := ⟨hs11, hs12, hs13, hs14⟩
                clear hV11 hV12 hV13 hV14 hs11 hs12 hs13 hs14 hl11 hl12 hl13 hl14 e5 e6 e7 e8
                have i1 : (0 : Int) ≤ (i : Int) := by omega
                have i2 : (i : Int) < (m : Int) := by omega
                go_wp2
                go_quiet (fail)
                go_wp2_with (go_at_call 11; refine (number_any w.heap.size M (hd i) i true (W.drewN _) g1 (hlk.out _)).mono ?_; rintro e w' ⟨rfl, rfl⟩)
                go_quiet (fail)
                go_wp2
                have hal : (al i).length ≤ 1048576 := by have := HB.out.alen i; omega
                go_loopw [240] (fun ix wq => ∃ j x : Nat, j ≤ (al i).length ∧ ix = .int .i64 j ∧ wq = W.drewN x) (fun ix _ => (al i).length - (intOf ix).toNat)
                case atStart => exact ⟨0, _, Nat.zero_le _, rfl, rfl⟩
                case round =>
                  obtain ⟨j, x, hj, rfl, hw⟩ := hrel
                  by_cases hltj : j < (al i).length
                  · obtain ⟨g11, d11, e11, _, _⟩ := HB.out.ag.heap.form (11, i) (by rw [HB.out.ag.gram.aX]; omega)
                    obtain ⟨g12, d12, e12, _, _⟩ := HB.out.ag.heap.form (12, i) (by rw [HB.out.ag.gram.lX, List.length_map, HB.out.llen i]; omega)
                    obtain ⟨g13, d13, e13, _, _⟩ := HB.out.ag.heap.form (13, i) (by rw [HB.out.md.a2]; omega)
                    obtain ⟨g14, d14, e14, _, _⟩ := HB.out.ag.heap.form (14, i) (by rw [HB.out.md.l2, List.length_map, HB.out.llen i]; omega)
                    rw [HVV.out.1] at e11
                    rw [HVV.out.2.1] at e12
                    rw [HVV.out.2.2.1] at e13
                    rw [HVV.out.2.2.2] at e14
                    obtain ⟨q11, -, -⟩ : a11 = some ⟨g11, 0, none⟩ ∧ _ := by simpa using e11
                    obtain ⟨q12, -, -⟩ : a12 = some ⟨g12, 0, none⟩ ∧ _ := by simpa using e12
                    obtain ⟨q13, -, -⟩ : a13 = some ⟨g13, 0, none⟩ ∧ _ := by simpa using e13
                    obtain ⟨q14, -, -⟩ : a14 = some ⟨g14, 0, none⟩ ∧ _ := by simpa using e14
                    subst q11 q12 q13 q14
                    have hjl : j < (ll i).length := by rw [HB.out.llen i]; exact hltj
                    obtain ⟨lv, hlv⟩ : ∃ lv, (ll i)[j] = lv := ⟨_, rfl⟩
                    obtain ⟨av, hav⟩ : ∃ av, (al i)[j] = av := ⟨_, rfl⟩
                    have hok : AltOk w av := HB.out.ok i av (by rw [← hav]; exact List.getElem_mem hltj)
                    have hok' := hok.below HB.out.bel
                    have k11 : W.cell? ⟨g11, j, none⟩ = some av := HB.out.ag.heap.cell HVV.out.1 (by rw [HB.out.ag.gram.aX, List.getElem?_eq_getElem hltj, hav])
                    have k13 : W.cell? ⟨g13, j, none⟩ = some av := HB.out.ag.heap.cell HVV.out.2.2.1 (by rw [HB.out.md.a2, List.getElem?_eq_getElem hltj, hav])
                    have k12 : W.cell? ⟨g12, j, none⟩ = some (.int .i64 lv) := HB.out.ag.heap.cell HVV.out.2.1 (by rw [HB.out.ag.gram.lX, List.getElem?_map, List.getElem?_eq_getElem hjl, hlv]; rfl)
                    have k14 : W.cell? ⟨g14, j, none⟩ = some (.int .i64 lv) := HB.out.ag.heap.cell HVV.out.2.2.2 (by rw [HB.out.md.l2, List.getElem?_map, List.getElem?_eq_getElem hjl, hlv]; rfl)
                    obtain ⟨sa, sn, sc, hsl, _, _⟩ := id hok
                    subst hsl
                    have HOK : Hid (AltOk W (.slice sa sn sc)) := hok'
                    have HOK2 : Hid (AltOk wr (.slice sa sn sc)) := by rw [hw]; exact hok'
                    have HW : Hid (wr = W.drewN x) := hw
                    have cw : ∀ p, wr.cell? p = W.cell? p := fun p => by rw [hw]; rfl
                    have r1' := (cw _).trans r1
                    have r3' := (cw _).trans r3
                    have k7' := (cw _).trans k7
                    have k8' := (cw _).trans k8
                    have k11' := (cw _).trans k11
                    have k12' := (cw _).trans k12
                    have k13' := (cw _).trans k13
                    have k14' := (cw _).trans k14
                    clear hok hok' hav hlv e11 e12 e13 e14 hw cw r0 r1 r2 r3 k5 k6 k7 k8 k11 k12 k13 k14 cg
                    have j1 : (0 : Int) ≤ (j : Int) := by omega
                    have j2 : (j : Int) < ((al i).length : Int) := by omega
                    go_wp2
                    go_quiet (first | (go_at_call 12; refine Calls.quiet_of (eqstrs_any _ _ ?_); exact HOK2.out))
                    go_wp2
                    go_quiet (fail)
                    go_wp2
                    go_roundw
                    case rel => exact ⟨j + 1, _, by omega, by go_num, by rw [HW.out]; simp only [World.drewN_drewN]; rfl⟩
                    case measure => simp [intOf]; omega
                  · subst hw
                    go_wp2
                    go_roundw
                    case rel => exact ⟨i + 1, _, by omega, by go_num, rfl⟩
                    case measure => simp [intOf]; omega
              · go_wp2
                go_ret
                refine ⟨rfl, ?_⟩
                have hb := HB.out.bel
                exact ⟨hb.os, hb.tape, hb.output, hb.size, hb.block⟩
  · have hn' : (1024 : Int) < (n : Int) := by omega
    go_enter Yba.func5, Yba.ntmps5
    go_wp2
    go_ret
    exact ⟨rfl, Below.refl _ _⟩
end Go.Proofs.Ybulkbhho
