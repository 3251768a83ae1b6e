/-
  The window's methods but add: inside, drop; and the law's own comparison zzs2911csame.
-/
import Derived.Test.YbulkbhgmSales
import Derived.Deep.LoopGhost
namespace Go.Proofs.Ybulkbhgm
open Go.RowKit

set_option maxRecDepth 100000 in
set_option maxHeartbeats 400000 in
theorem inside_some (B g n cap f : Nat) (w : World) (hn : n ≤ cap) (hf : f ≤ n) (hm : cap ≤ 9223372036854775807) (c0 : w.cell? ⟨B, 0, none⟩ = some (.slice (some ⟨g, 0, none⟩) n cap)) (c1 : w.cell? ⟨B, 1, none⟩ = some (.int .i64 f)) :
    Calls Yba.prog 21 #[.pointer (some ⟨B, 0, none⟩)] w fun e w' => ∃ ad, e = .returned (.slice (some ad) (n - f) (cap - f)) ∧ (f < cap → ad = ⟨g, f * 2, none⟩) ∧ ∃ m, w' = w.drewN m := by
  have i1 : (0 : Int) ≤ (f : Int) := by omega
  have i2 : (f : Int) ≤ (n : Int) := by omega
  have i3 : (n : Int) ≤ (cap : Int) := by omega
  have i4 : (f : Int) ≤ (cap : Int) := by omega
  rcases Nat.eq_or_lt_of_le (Nat.le_trans hf hn) with rfl | hlt
  · go_enter Yba.func21, Yba.ntmps21
    go_wp2
    go_quiet (fail)
    go_wp2
    go_ret
    have hnf : n - f = 0 := by omega
    exact ⟨⟨g, 0, none⟩, by simp [hnf], fun h => absurd h (by omega), _, rfl⟩
  · have hne : ¬ cap = f := by omega
    go_enter Yba.func21, Yba.ntmps21
    go_wp2
    go_quiet (fail)
    go_wp2
    go_ret
    exact ⟨_, rfl, fun _ => rfl, _, rfl⟩

set_option maxRecDepth 100000 in
set_option maxHeartbeats 400000 in
theorem inside_none (B : Nat) (w : World) (c0 : w.cell? ⟨B, 0, none⟩ = some (.slice none 0 0)) (c1 : w.cell? ⟨B, 1, none⟩ = some (.int .i64 0)) :
    Calls Yba.prog 21 #[.pointer (some ⟨B, 0, none⟩)] w fun e w' => e = .returned (.slice none 0 0) ∧ ∃ m, w' = w.drewN m := by
  go_enter Yba.func21, Yba.ntmps21
  go_wp2
  go_quiet (fail)
  go_wp2
  go_ret
  exact ⟨rfl, _, rfl⟩

/-- The window's sales still inside, in one contract. -/
theorem inside_any {B base n cap f : Nat} {a : Option Addr} {X : List (Int × Int)} {s : Int} (w : World) (hW : Win w B base a n cap X f s) :
    Calls Yba.prog 21 #[.pointer (some ⟨B, 0, none⟩)] w fun e w' => ∃ a', e = .returned (.slice a' (n - f) (cap - f)) ∧ (∀ g, a = some ⟨g, 0, none⟩ → f < cap → a' = some ⟨g, f * 2, none⟩) ∧ ∃ m, w' = w.drewN m := by
  obtain ⟨c0, c1, _⟩ := cells_of_blk hW.blk
  have hfst := hW.fst
  rcases hW.own.2 with ⟨h', _⟩ | ⟨g, cap', cur, h', _, _, hc1, hc2, _, _⟩
  · simp at h'
    obtain ⟨rfl, rfl, rfl⟩ := h'
    have : f = 0 := by omega
    subst this
    refine (inside_none B w c0 c1).mono ?_
    rintro e w' ⟨rfl, hm⟩
    exact ⟨none, rfl, fun g hg => by simp at hg, hm⟩
  · simp at h'
    obtain ⟨rfl, rfl⟩ := h'
    unfold maxLen at hc2
    refine (inside_some B g n cap f w hc1 hfst hc2 c0 c1).mono ?_
    rintro e w' ⟨ad, rfl, ha, hm⟩
    refine ⟨some ad, rfl, fun g' hg' h => ?_, hm⟩
    simp at hg'
    subst hg'
    rw [ha h]

set_option maxRecDepth 100000 in
set_option maxHeartbeats 400000 in
theorem same_any (B base n cap f nm capm h : Nat) (a am : Option Addr) (X L : List (Int × Int)) (s : Int) (w : World) (hn : n ≤ 1024) (hnm : nm ≤ 1024) (hW : Win w B base a n cap X f s)
    (hM : w.ownsRow base 65 2 (.slice am nm capm) nm (flat L)) (hL : L.length = nm) (hh : h ≤ nm) (heq : X.drop f = L.drop h) :
    Calls Yba.prog 15 #[.pointer (some ⟨B, 0, none⟩), .slice am nm capm, .int .i64 h, .int .i64 s] w fun e w' => e = .returned (.bool true) ∧ ∃ m, w' = w.drewN m := by
  obtain ⟨c0, c1, c2, _⟩ := cells_of_blk hW.blk
  have hfst := hW.fst
  have hXl := hW.len
  have hlen : n - f = nm - h := by have := congrArg List.length heq; simp at this; omega
  have HE : Hid (X.drop f = L.drop h) := heq
  have g1 : decide ((f : Int) < 0) = false := by simp
  have g2 : decide ((n : Int) < (f : Int)) = false := by simp; omega
  have g3 : ¬ n < f := by omega
  have e1 : ((n - f : Nat) : Int) = (nm : Int) - (h : Int) := by omega
  clear heq hlen
  go_enter Yba.func15, Yba.ntmps15
  go_wp2
  go_quiet (fail)
  go_wp2_with fail
  refine (inside_any _ (hW.drewN _)).mono ?_
  rintro e w1 ⟨a', rfl, ha', m1, rfl⟩
  go_wp2
  go_loopw [10] (fun j wr => ∃ i : Nat, i ≤ n - f ∧ j = .int .i64 i ∧ ∃ m, wr = w.drewN m) (fun j _ => (n - f) - (intOf j).toNat)
  case atStart => exact ⟨0, Nat.zero_le _, rfl, _, rfl⟩
  case round =>
    obtain ⟨i, hi, rfl, m, rfl⟩ := hrel
    by_cases hlt : i < n - f
    · obtain ⟨g, rfl, hg⟩ := hW.at (by omega)
      obtain ⟨gm, rfl⟩ : ∃ gm, am = some ⟨gm, 0, none⟩ := by
        rcases hM.2 with ⟨h', _⟩ | ⟨gm, _, _, h', _⟩
        · simp at h'; omega
        · simp at h'; exact ⟨gm, h'.1⟩
      have hcap : n ≤ cap := by
        rcases hW.own.2 with ⟨h', _⟩ | ⟨_, _, _, h', _, _, hc1, _⟩
        · simp at h'
        · simp at h'; omega
      have ha := ha' g rfl (by omega)
      subst ha
      obtain ⟨x, hx⟩ : ∃ x, X[f + i]? = some x := ⟨_, List.getElem?_eq_getElem (by omega)⟩
      have hx' : L[h + i]? = some x := by
        have := congrArg (fun l => l[i]?) HE.out
        simp only [List.getElem?_drop] at this
        rw [← this, hx]
      obtain ⟨d0, d1⟩ := own_cells hW.own hx (by omega)
      obtain ⟨d2, d3⟩ := own_cells hM hx' (by omega)
      obtain ⟨xd, xs⟩ := x
      have ea : f * 2 + i * 2 = (f + i) * 2 := by omega
      have i1 : (0 : Int) ≤ (i : Int) := by omega
      have i2 : (i : Int) < ((n - f : Nat) : Int) := by omega
      have i3 : (0 : Int) ≤ (h : Int) + (i : Int) := by omega
      have i4 : (h : Int) + (i : Int) < (nm : Int) := by omega
      have q0 : w.cell? ⟨g, f * 2 + i * 2, none⟩ = some (.int .i32 xd) := by rw [ea]; exact d0
      have q1 : w.cell? ⟨g, f * 2 + i * 2 + 1, none⟩ = some (.int .i64 xs) := by rw [ea]; exact d1
      clear hx hx' ea d0 d1
      go_wp2
      go_quiet (fail)
      go_wp2
      go_roundw
      case rel => exact ⟨i + 1, by omega, by go_num, _, rfl⟩
      case measure => simp [intOf]; omega
    · go_wp2
      go_ret
      exact ⟨by simp, _, rfl⟩

set_option maxRecDepth 100000 in
set_option maxHeartbeats 400000 in
theorem drop_any (B base n cap f : Nat) (a : Option Addr) (X : List (Int × Int)) (s st : Int) (w : World) (hn : n ≤ 1024) (hW : Win w B base a n cap X f s) :
    Calls Yba.prog 13 #[.pointer (some ⟨B, 0, none⟩), .int .i32 st] w fun e w' => e = .returned (.tuple #[]) ∧ ∃ f', Win w' B base a n cap X f' (less st (X.drop f) s) ∧ X.drop f' = rest st (X.drop f) ∧ w.grownBy w' (some B) := by
  go_enter Yba.func13, Yba.ntmps13
  go_wp2
  go_loopg [4] n (fun m _ wr => ∃ f' s', f' + m ≤ n + f' ∧ n ≤ f' + m ∧ Win wr B base a n cap X f' s' ∧ Hid (rest st (X.drop f') = rest st (X.drop f)) ∧ Hid (less st (X.drop f') s' = less st (X.drop f) s) ∧ w.grownBy wr (some B))
  case atStart => exact ⟨f, s, by omega, by omega, hW, rfl, rfl, World.grownBy.refl _ _⟩
  case round =>
    obtain ⟨f', s', _, hm, hWr, hre, hle, hgr⟩ := hrel
    obtain ⟨c0, c1, c2, z0, z1, z2⟩ := cells_of_blk hWr.blk
    by_cases hlt : f' < n
    · obtain ⟨g, rfl, hg⟩ := hWr.at (by omega)
      obtain ⟨x, hx⟩ : ∃ x, X[f']? = some x := ⟨_, List.getElem?_eq_getElem (by have := hWr.len; omega)⟩
      obtain ⟨cd, cs⟩ := own_cells hWr.own hx hlt
      have i1 : (0 : Int) ≤ (f' : Int) := by omega
      have i2 : (f' : Int) < (n : Int) := by omega
      obtain ⟨xd, xs⟩ := x
      have HX : Hid (X[f']? = some (xd, xs)) := hx
      clear hx
      by_cases hd : xd < st
      · go_wp2
        go_quiet (fail)
        go_wp2
        go_region
        go_wp2
        go_roundg (gk - 1)
        case measure => omega
        case rel => exact ⟨f' + 1, wrap64 (s' - xs), by omega, by omega, hWr.set12 _ _ _ (by omega) (by go_num), (rest_hit HX.out hd).trans hre.out, (less_hit HX.out hd s').trans hle.out, grownBy_trans hgr (grownBy_set12 _ _ _ _ _)⟩
      · go_wp2
        go_quiet (fail)
        go_wp2
        go_end0
        refine ⟨rfl, f', ?_, ?_, grownBy_trans hgr (grownBy_drewN _ _ _)⟩
        · rw [← hle.out, less_miss HX.out (Int.not_lt.2 hd)]
          exact ⟨hWr.blk, hWr.own, hWr.len, hWr.fst, hWr.lt⟩
        · rw [← hre.out, rest_miss HX.out (Int.not_lt.2 hd)]
    · have hd : decide ((f' : Int) < (n : Int)) = false := decide_eq_false (by omega)
      go_wp2
      go_quiet (fail)
      go_wp2
      go_end0
      have hl : X.length ≤ f' := by have := hWr.len; omega
      refine ⟨rfl, f', ?_, ?_, grownBy_trans hgr (grownBy_drewN _ _ _)⟩
      · rw [← hle.out, less_end hl]
        exact ⟨hWr.blk, hWr.own, hWr.len, hWr.fst, hWr.lt⟩
      · rw [← hre.out, rest_end hl]
end Go.Proofs.Ybulkbhgm
