/-
  The window's method add: contracts for each of its ways, and one for all.
-/
import Derived.Test.YbulkbhgmWin
import Derived.Deep.AppendLies
import Derived.Laws.CopyRow
import Derived.Deep.Cut
namespace Go.Proofs.Ybulkbhgm
open Go.RowKit


theorem two_oneCell (d sh : Int) : ∀ u ∈ [Value.int .i32 d, Value.int .i64 sh], u.oneCell' = true := by
  intro u hu
  simp at hu
  rcases hu with rfl | rfl <;> rfl

/-- What an add of a positive number of shares has done. -/
def Added (w w' : World) (B base n f : Nat) (ob : Option Nat) (X : List (Int × Int)) (s d sh : Int) : Prop :=
  ∃ a' n' cap' X' f', Win w' B base a' n' cap' X' f' (wrap64 (s + sh)) ∧ X'.drop f' = X.drop f ++ [(d, sh)] ∧ n' ≤ n + 1 ∧ Moved w w' B ob (Value.slice a' n' cap').ownBlock

set_option maxRecDepth 100000 in
set_option maxHeartbeats 400000 in
theorem add_asis (B base n cap f : Nat) (a : Option Addr) (X : List (Int × Int)) (s d sh : Int) (w : World) (hn : n ≤ 1024) (hbs : base ≤ w.heap.size) (hsh : 0 < sh) (hW : Win w B base a n cap X f s) (hne : ((n : Int) == (cap : Int)) = false ∨ (n = cap ∧ f = 0)) :
    Calls Yba.prog 14 #[.pointer (some ⟨B, 0, none⟩), .int .i32 d, .int .i64 sh] w fun e w' => e = .returned (.tuple #[]) ∧ Added w w' B base n f (Value.slice a n cap).ownBlock X s d sh := by
  obtain ⟨c0, c1, c2, z0, z1, z2⟩ := cells_of_blk hW.blk
  obtain ⟨i0, hi, hz0, hz1, hz2⟩ := info_parts Yba.info65
  have hn0 : ¬ sh ≤ 0 := by omega
  have hBs : B < w.heap.size := by have := hW.lt; omega
  have hown : ∀ m O, (World.alloc (w.drewN m) O).ownsRow base 65 2 (.slice a n cap) n (flat X) := fun m O => World.ownsRow.alloc (w := w.drewN m) hW.own O
  have hmv : ∀ m, Moved w (w.drewN m) B (Value.slice a n cap).ownBlock (Value.slice a n cap).ownBlock := fun m => ⟨rfl, rfl, rfl, Nat.le_refl _, fun _ _ _ _ => rfl, fun g hg => .inl hg⟩
  rcases hne with hne | ⟨rfl, rfl⟩
  all_goals
    go_enter Yba.func14, Yba.ntmps14
    go_wp2
    go_quiet (fail)
    go_wp2_with (at_builtin; refine wpList_append_lies _ (by rfl) _ _ 58 (by rfl) base 65 i0 _ 2 16 Yba.underlying58 hi hz0 hz1 hz2 rfl (by omega) _ n (flat X) (by rfl) (hown _ _) ⟨w.heap.size, 0, none⟩ 1 1 [.int .i32 d, .int .i64 sh] (by rfl) rfl (World.news_of_block (Go.heap_alloc_new (w.drewN _) _)) (two_oneCell d sh) (by omega) (by unfold maxLen; omega) (by omega) (by simp; omega) (w.heap.size + 1) (by simp) ?_)
    intro g cap1 w1 hown1 hgrow hat hlt
    have hb1 := blk_grown (W := w.drewN _) hW.blk hgrow hW.ne
    obtain ⟨d0, d1, d2, y0, y1, y2⟩ := cells_of_blk hb1
    rw [flat_snoc] at hown1
    have HMV := Moved.mk02 (hmv _) hgrow hat (.slice (some ⟨g, 0, none⟩) (n + 1) cap1) (.int .i64 (wrap64 (s + sh)))
    have HW := Win.mk02 (s' := wrap64 (s + sh)) hb1 hown1 (by have := hW.len; simp; omega) (Nat.le_succ_of_le hW.fst) hW.lt
    have HD : Hid (Added w ((w1.setCell ⟨B, 0, none⟩ (.slice (some ⟨g, 0, none⟩) (n + 1) cap1)).setCell ⟨B, 2, none⟩ (.int .i64 (wrap64 (s + sh)))) B base n _ (Value.slice a n _).ownBlock X s d sh) :=
      ⟨_, _, _, _, _, HW, by rw [List.drop_append_of_le_length (by have := hW.fst; have := hW.len; omega)], Nat.le_refl _, HMV⟩
    clear HMV HW hown1 hgrow hat hlt hown hmv
    go_wp2
    go_end0
    exact ⟨rfl, HD.out⟩

theorem run_copy_sized {P : Program} (w : World) (dT sT ty elem : TypeId) (size : Nat) (g o dLen dCap : Nat) (a : Addr) (sLen sCap : Nat) (cur : Array Value) (t : TypeId) (cs : List Value)
    (hu : P.underlying dT = some (.slice elem)) (hs : (P.info? elem).map (·.size) = some size)
    (hg : w.heap[g]? = some (.cells cur t (0, 0))) (hn : cs.length = Nat.min sLen dLen * size)
    (hsrc : ∀ j v, cs[j]? = some v → w.cell? (a.add j) = some v) (hfit : o + cs.length ≤ cur.size) (h1 : ∀ v ∈ cs, v.oneCell' = true) :
    (Builtin.copy_ #[dT, sT] ty #[.slice (some ⟨g, o, none⟩) dLen dCap, .slice (some a) sLen sCap]).run P w =
      .ok (goInt (Nat.min sLen dLen)) (w.setRow g (cur.toList.take o ++ cs ++ cur.toList.drop (o + cs.length)).toArray) := by
  have hl := run_loadCells_list (P := P) w a cs hsrc
  have hst := run_storeCells_at P g o t cs 0 cur w hg (by simpa using hfit) h1
  cases hq : P.info? elem with
  | none => simp [hq] at hs
  | some i =>
    have hi : i.size = size := by simpa [hq] using hs
    rw [hn] at hl
    simp [Builtin.copy_, run_underlying hu, Builtin.lenOf, Builtin.firstCells, sizeOf, typeInfo, hq, hi, hl, hst]


theorem flat_oneCell : ∀ (X : List (Int × Int)), ∀ v ∈ flat X, v.oneCell' = true
  | [], v, h => by simp [flat] at h
  | x :: r, v, h => by
    simp [flat] at h
    rcases h with rfl | rfl | h
    · rfl
    · rfl
    · exact flat_oneCell r v h

/-- 'copy(w.sales, inside)': the sales still inside come to the front of the array. -/
theorem copy_front {w : World} {B base g n f : Nat} {X : List (Int × Int)} {s : Int} (hW : Win w B base (some ⟨g, 0, none⟩) n n X f s) (ad : Addr) (ha : f < n → ad = ⟨g, f * 2, none⟩) :
    ∃ C : Array Value, (∀ m ty, (Builtin.copy_ #[58, 58] ty #[.slice (some ⟨g, 0, none⟩) n n, .slice (some ad) (n - f) (n - f)]).run Yba.prog (w.drewN m) = .ok (goInt ((n - f : Nat) : Int)) ((w.setRow g C).drewN m)) ∧
      (w.setRow g C).heap[B]? = some (.cells #[.slice (some ⟨g, 0, none⟩) n n, .int .i64 f, .int .i64 s] 60 (0, 0)) ∧ (w.setRow g C).ownsRow base 65 2 (.slice (some ⟨g, 0, none⟩) (n - f) n) (n - f) (flat (X.drop f)) ∧ Moved w (w.setRow g C) B (some g) (some g) := by
  have hfn := hW.fst
  have hXl := hW.len
  rcases hW.own.2 with ⟨h', _⟩ | ⟨g', cap', cur, h', hbg, hg, _, hcm, hcs, htake⟩
  · simp at h'
  simp at h'
  obtain ⟨rfl, rfl⟩ := h'
  have hfl : (flat (X.drop f)).length = (n - f) * 2 := by rw [flat_length, List.length_drop, hXl]
  have hmin : Nat.min (n - f) n = n - f := Nat.min_eq_left (by omega)
  have hgB : g ≠ B := by have := hW.lt; omega
  have hsrc : ∀ j v, (flat (X.drop f))[j]? = some v → w.cell? (ad.add j) = some v := by
    intro j v hv
    obtain ⟨hj, _⟩ := List.getElem?_eq_some_iff.1 hv
    have hlt : f < n := by omega
    have e1 : (ad.add j) = ⟨g, f * 2 + j, none⟩ := by rw [ha hlt]; unfold Addr.add; split <;> simp_all
    rw [e1, hW.own.cellAt (f * 2 + j) (by omega), ← hv, ← flat_drop, List.getElem?_drop]
  refine ⟨(cur.toList.take 0 ++ flat (X.drop f) ++ cur.toList.drop (0 + (flat (X.drop f)).length)).toArray, fun m ty => ?_, ?_, ?_, ?_⟩
  · have h := run_copy_sized (P := Yba.prog) (w.drewN m) 58 58 ty 65 2 g 0 n n ad (n - f) (n - f) cur 65 (flat (X.drop f)) Yba.underlying58 Yba.size65 hg (by rw [hfl, hmin]) hsrc (by omega) (flat_oneCell _)
    rw [hmin] at h
    exact h
  · rw [setRow_other w g B _ (fun e => hgB e.symm)]
    exact hW.blk
  · refine ⟨hfl, .inr ⟨g, n, _, rfl, hbg, setRow_heap w g cur _ 65 _ hg, by omega, hcm, ?_, ?_⟩⟩
    · simp
      omega
    · simp only [List.take_zero, List.nil_append]
      rw [List.take_append_of_le_length (by omega), List.take_of_length_le (by omega)]
  · exact ⟨rfl, rfl, rfl, by simp, fun k _ _ hr => setRow_other w g k _ (fun e => hr (by rw [e])), fun j hj => .inl hj⟩

set_option maxRecDepth 100000 in
set_option maxHeartbeats 400000 in
theorem add_front (B base n f g : Nat) (X : List (Int × Int)) (s d sh : Int) (w : World) (hn : n ≤ 1024) (hbs : base ≤ w.heap.size) (hsh : 0 < sh) (hW : Win w B base (some ⟨g, 0, none⟩) n n X f s) (hf : 0 < f) (h2 : 2 * (n - f) ≤ n) :
    Calls Yba.prog 14 #[.pointer (some ⟨B, 0, none⟩), .int .i32 d, .int .i64 sh] w fun e w' => e = .returned (.tuple #[]) ∧ Added w w' B base n f (some g) X s d sh := by
  obtain ⟨c0, c1, c2, z0, z1, z2⟩ := cells_of_blk hW.blk
  obtain ⟨i0, hi, hz0, hz1, hz2⟩ := info_parts Yba.info65
  have hfn := hW.fst
  have hn0 : ¬ sh ≤ 0 := by omega
  have hBs : B < w.heap.size := by have := hW.lt; omega
  have hf' : (0 : Int) < (f : Int) := by omega
  have h2' : 2 * ((n - f : Nat) : Int) ≤ (n : Int) := by omega
  have i1 : (0 : Int) ≤ ((n - f : Nat) : Int) := by omega
  have i2 : ((n - f : Nat) : Int) ≤ (n : Int) := by omega
  go_enter Yba.func14, Yba.ntmps14
  go_wp2
  go_quiet (fail)
  go_wp2_with fail
  refine (inside_some B g n n f _ (Nat.le_refl _) hfn (by omega) (by exact c0) (by exact c1)).mono ?_
  rintro e w1 ⟨ad, rfl, had, m1, rfl⟩
  obtain ⟨C, hcp, hb2, hown2, hmv2⟩ := copy_front hW ad had
  obtain ⟨e0, e1, e2, y0, y1, y2⟩ := cells_of_blk hb2
  go_wp2_with fail
  go_region
  all_goals go_upto_region 6 with fail
  have hW5 := Win.mk01 hb2 hown2 (by have := hW.len; simp; omega) (Nat.zero_le _) hW.lt (nq + m1 + 1) (u1 := .int .i64 0) rfl
  have hmv5 := hmv2.set01 (nq + m1 + 1) (.slice (some ⟨g, 0, none⟩) (n - f) n) (.int .i64 0)
  generalize (((w.setRow g C).drewN (nq + m1 + 1)).setCell ⟨B, 0, none⟩ (.slice (some ⟨g, 0, none⟩) (n - f) n)).setCell ⟨B, 1, none⟩ (.int .i64 0) = W5 at hW5 hmv5 ⊢
  obtain ⟨c0, c1, c2, z0, z1, z2⟩ := cells_of_blk hW5.blk
  have hbs5 : base ≤ W5.heap.size := Nat.le_trans hbs hmv5.size
  have hown := fun O => hW5.own.alloc O
  clear hcp hb2 hown2 hmv2 e0 e1 e2 y0 y1 y2 had h2' i1 i2
  go_wp2_with (at_builtin; refine wpList_append_lies _ (by rfl) _ _ 58 (by rfl) base 65 i0 _ 2 16 Yba.underlying58 hi hz0 hz1 hz2 rfl (by omega) _ (n - f) (flat (X.drop f)) (by rfl) (hown _) ⟨W5.heap.size, 0, none⟩ 1 1 [.int .i32 d, .int .i64 sh] (by rfl) rfl (World.news_of_block (Go.heap_alloc_new W5 _)) (two_oneCell d sh) (by omega) (by unfold maxLen; omega) (by omega) (by simp; omega) (W5.heap.size + 1) (by simp) ?_)
  intro g' cap1 w1 hown1 hgrow hat hlt
  have hb1 := blk_grown hW5.blk hgrow hW5.ne
  obtain ⟨d0, d1, d2, y0, y1, y2⟩ := cells_of_blk hb1
  rw [flat_snoc] at hown1
  have HMV := Moved.mk02 hmv5 hgrow hat (.slice (some ⟨g', 0, none⟩) (n - f + 1) cap1) (.int .i64 (wrap64 (s + sh)))
  have HW := Win.mk02 (s' := wrap64 (s + sh)) hb1 hown1 (by have := hW5.len; simp at *; omega) (Nat.zero_le _) hW.lt
  have HD : Hid (Added w ((w1.setCell ⟨B, 0, none⟩ (.slice (some ⟨g', 0, none⟩) (n - f + 1) cap1)).setCell ⟨B, 2, none⟩ (.int .i64 (wrap64 (s + sh)))) B base n f (some g) X s d sh) :=
    ⟨_, _, _, _, _, HW, by simp, by omega, HMV⟩
  clear HMV HW hown1 hgrow hat hlt hown hmv5
  go_wp2
  go_end0
  exact ⟨rfl, HD.out⟩

set_option maxRecDepth 100000 in
set_option maxHeartbeats 400000 in
theorem add_grow (B base n f g : Nat) (X : List (Int × Int)) (s d sh : Int) (w : World) (hn : n ≤ 1024) (hbs : base ≤ w.heap.size) (hsh : 0 < sh) (hW : Win w B base (some ⟨g, 0, none⟩) n n X f s) (hf : 0 < f) (h2 : n < 2 * (n - f)) :
    Calls Yba.prog 14 #[.pointer (some ⟨B, 0, none⟩), .int .i32 d, .int .i64 sh] w fun e w' => e = .returned (.tuple #[]) ∧ Added w w' B base n f (some g) X s d sh := by
  obtain ⟨c0, c1, c2, z0, z1, z2⟩ := cells_of_blk hW.blk
  obtain ⟨i0, hi, hz0, hz1, hz2⟩ := info_parts Yba.info65
  have hfn := hW.fst
  have hn0 : ¬ sh ≤ 0 := by omega
  have hBs : B < w.heap.size := by have := hW.lt; omega
  have hf' : (0 : Int) < (f : Int) := by omega
  have h2' : (n : Int) < 2 * ((n - f : Nat) : Int) := by omega
  have hgs : g < w.heap.size := (hW.own.lt g rfl).2
  go_enter Yba.func14, Yba.ntmps14
  go_wp2
  go_quiet (fail)
  go_wp2_with fail
  refine (inside_some B g n n f _ (Nat.le_refl _) hfn (by omega) (by exact c0) (by exact c1)).mono ?_
  rintro e w1 ⟨ad, rfl, had, m1, rfl⟩
  obtain rfl := had (by omega)
  go_upto_region 6 with fail
  have hfl : (flat (X.drop f)).length = (n - f) * 2 := by rw [flat_length, List.length_drop, hW.len]
  have hb5 : (((w.drewN (nq + m1)).setCell ⟨B, 0, none⟩ (.slice (some ⟨g, f * 2, none⟩) (n - f) (n - f))).setCell ⟨B, 1, none⟩ (.int .i64 0)).heap[B]? = some (.cells #[.slice (some ⟨g, f * 2, none⟩) (n - f) (n - f), .int .i64 (0 : Nat), .int .i64 s] 60 (0, 0)) := by
    rw [heap_setCell_same _ _ _ _ _ _ (heap_setCell_same (w.drewN (nq + m1)) _ _ _ _ _ hW.blk)]; rfl
  have hmv5 : Moved w (((w.drewN (nq + m1)).setCell ⟨B, 0, none⟩ (.slice (some ⟨g, f * 2, none⟩) (n - f) (n - f))).setCell ⟨B, 1, none⟩ (.int .i64 0)) B (some g) none :=
    Moved.set01 (W := w) ⟨rfl, rfl, rfl, Nat.le_refl _, fun _ _ _ _ => rfl, fun _ h => by cases h⟩ _ _ _
  have hsrc : ∀ O j u, (flat (X.drop f))[j]? = some u → (World.alloc (((w.drewN (nq + m1)).setCell ⟨B, 0, none⟩ (.slice (some ⟨g, f * 2, none⟩) (n - f) (n - f))).setCell ⟨B, 1, none⟩ (.int .i64 0)) O).cell? ((⟨g, f * 2, none⟩ : Addr).add j) = some u := by
    intro O j u hu
    have hgB : g ≠ B := by have h1 := (hW.own.lt g rfl).1; have h2 := hW.lt; omega
    obtain ⟨hj, _⟩ := List.getElem?_eq_some_iff.1 hu
    have e1 : ((⟨g, f * 2, none⟩ : Addr).add j) = ⟨g, f * 2 + j, none⟩ := by unfold Addr.add; split <;> simp_all
    have e2 : w.cell? ⟨g, f * 2 + j, none⟩ = some u := by
      rw [hW.own.cellAt (f * 2 + j) (by omega), ← hu, ← flat_drop, List.getElem?_drop]
    rw [e1, ← e2]
    refine World.cell?_of_block ?_
    rw [Below.heap_alloc _ _ _ (by simp [World.setCell]; exact hgs), heap_setCell_other _ _ _ _ hgB, heap_setCell_other _ _ _ _ hgB]
    rfl
  generalize ((w.drewN (nq + m1)).setCell ⟨B, 0, none⟩ (.slice (some ⟨g, f * 2, none⟩) (n - f) (n - f))).setCell ⟨B, 1, none⟩ (.int .i64 0) = W5 at hb5 hmv5 hsrc ⊢
  obtain ⟨c0, c1, c2, z0, z1, z2⟩ := cells_of_blk hb5
  have hbs5 : base ≤ W5.heap.size := Nat.le_trans hbs hmv5.size
  clear h2'
  go_wp2_with (at_builtin; refine wpList_append_grows _ (by rfl) _ _ 58 (by rfl) 65 i0 _ 2 16 Yba.underlying58 hi hz0 hz1 hz2 rfl (by omega) (some ⟨g, f * 2, none⟩) (n - f) (n - f) (flat (X.drop f)) (by rfl) (by simp) hfl (by intro b hb; cases hb; exact hsrc _) ⟨W5.heap.size, 0, none⟩ 1 1 [.int .i32 d, .int .i64 sh] (by rfl) rfl (World.news_of_block (Go.heap_alloc_new W5 _)) (two_oneCell d sh) (by omega) (by unfold maxLen; omega) (by omega) ?_)
  intro v1 w1 hown1 hgrow
  obtain ⟨g', cap1, hv, hg1⟩ : ∃ g' cap1, v1 = .slice (some ⟨g', 0, none⟩) (n - f + 1) cap1 ∧ W5.heap.size + 1 ≤ g' := by
    rcases hown1.2 with ⟨_, h⟩ | ⟨g', cap1, _, h, hb, _⟩
    · omega
    · exact ⟨g', cap1, h, by simpa using hb⟩
  rw [hv]
  rw [hv] at hown1
  have hown2 := ownsRow_base (b' := base) hown1 (by omega)
  have hb1 := blk_grown hb5 hgrow (by simp)
  obtain ⟨d0, d1, d2, y0, y1, y2⟩ := cells_of_blk hb1
  rw [flat_snoc] at hown2
  have HMV := Moved.mk02' (g := g') hmv5 hgrow (.inr (by omega)) (.slice (some ⟨g', 0, none⟩) (n - f + 1) cap1) (.int .i64 (wrap64 (s + sh)))
  have HW := Win.mk02 (s' := wrap64 (s + sh)) hb1 hown2 (by have := hW.len; simp; omega) (Nat.zero_le _) hW.lt
  have HD : Hid (Added w ((w1.setCell ⟨B, 0, none⟩ (.slice (some ⟨g', 0, none⟩) (n - f + 1) cap1)).setCell ⟨B, 2, none⟩ (.int .i64 (wrap64 (s + sh)))) B base n f (some g) X s d sh) :=
    ⟨_, _, _, _, _, HW, by simp, by omega, HMV⟩
  clear HMV HW hown1 hown2 hgrow hv hsrc hmv5
  go_wp2
  go_end0
  exact ⟨rfl, HD.out⟩

set_option maxRecDepth 100000 in
set_option maxHeartbeats 400000 in
theorem add_none (B : Nat) (d sh : Int) (w : World) (hsh : sh ≤ 0) :
    Calls Yba.prog 14 #[.pointer (some ⟨B, 0, none⟩), .int .i32 d, .int .i64 sh] w fun e w' => e = .returned (.tuple #[]) ∧ w = w' := by
  go_enter Yba.func14, Yba.ntmps14
  go_wp2
  refine bodyPost_ret (results_none rfl _ _ _) rfl ?_
  exact ⟨rfl, rfl⟩

/-- An add of a positive number of shares. -/
theorem add_any (B base n cap f : Nat) (a : Option Addr) (X : List (Int × Int)) (s d sh : Int) (w : World) (hn : n ≤ 1024) (hbs : base ≤ w.heap.size) (hsh : 0 < sh) (hW : Win w B base a n cap X f s) :
    Calls Yba.prog 14 #[.pointer (some ⟨B, 0, none⟩), .int .i32 d, .int .i64 sh] w fun e w' => e = .returned (.tuple #[]) ∧ Added w w' B base n f (Value.slice a n cap).ownBlock X s d sh := by
  by_cases hc : n = cap
  · by_cases hf : f = 0
    · exact add_asis B base n cap f a X s d sh w hn hbs hsh hW (.inr ⟨hc, hf⟩)
    · have hfst := hW.fst
      obtain ⟨g, rfl, _⟩ := hW.at (by omega)
      subst hc
      by_cases h2 : 2 * (n - f) ≤ n
      · exact add_front B base n f g X s d sh w hn hbs hsh hW (by omega) h2
      · exact add_grow B base n f g X s d sh w hn hbs hsh hW (by omega) (by omega)
  · refine add_asis B base n cap f a X s d sh w hn hbs hsh hW (.inl ?_)
    simp
    omega
end Go.Proofs.Ybulkbhgm
