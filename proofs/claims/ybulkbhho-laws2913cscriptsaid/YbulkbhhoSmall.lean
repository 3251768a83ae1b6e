/-
  Contracts of zzs2913chead, Rules, Number and zzs2913ceqstrs.
-/
import Derived.Test.YbulkbhhoAdd
namespace Go.Proofs.Ybulkbhho
open Go.RowKit Go.Maps Go.WideMaps

/-- The head that zzs2913chead picks. -/
def hname (p : Int) : ByteArray := if p % 4 = 0 then ⟨#[83]⟩ else if p % 4 = 1 then ⟨#[101, 120, 112, 114]⟩ else if p % 4 = 2 then ⟨#[116, 101, 114, 109]⟩ else ⟨#[]⟩
theorem hname_size (p : Int) : (hname p).size ≤ maxLen := by
  unfold hname maxLen
  split
  · decide
  · split
    · decide
    · split <;> decide

set_option maxRecDepth 100000 in
set_option maxHeartbeats 400000 in
theorem head_any (p : Int) (w : World) (h0 : 0 ≤ p) (h1 : p ≤ 255) :
    Calls Yba.prog 8 #[.int .u8 p] w fun e w' => e = .returned (.string (hname p)) ∧ w = w' := by
  have h : p % 4 = 0 ∨ p % 4 = 1 ∨ p % 4 = 2 ∨ p % 4 = 3 := by omega
  rcases h with h | h | h | h
  · have e : hname p = ⟨#[83]⟩ := by simp [hname, h]
    rw [e]
    go_enter Yba.func8, Yba.ntmps8
    go_wp2
    go_ret
    exact ⟨rfl, rfl⟩
  · have e : hname p = ⟨#[101, 120, 112, 114]⟩ := by simp [hname, h]
    rw [e]
    go_enter Yba.func8, Yba.ntmps8
    go_wp2
    go_ret
    exact ⟨rfl, rfl⟩
  · have e : hname p = ⟨#[116, 101, 114, 109]⟩ := by simp [hname, h]
    rw [e]
    go_enter Yba.func8, Yba.ntmps8
    go_wp2
    go_ret
    exact ⟨rfl, rfl⟩
  · have e : hname p = ⟨#[]⟩ := by simp [hname, h]
    rw [e]
    go_enter Yba.func8, Yba.ntmps8
    go_wp2
    go_ret
    exact ⟨rfl, rfl⟩

set_option maxRecDepth 100000 in
set_option maxHeartbeats 400000 in
theorem rules_any (B m : Nat) (a : Option Addr) (cap : Nat) (w : World) (c0 : w.cell? ⟨B, 0, none⟩ = some (.slice a m cap)) :
    Calls Yba.prog 10 #[.pointer (some ⟨B, 0, none⟩)] w fun e w' => e = .returned (.slice a m cap) ∧ w = w' := by
  go_enter Yba.func10, Yba.ntmps10
  go_wp2
  go_ret
  exact ⟨rfl, rfl⟩

set_option maxRecDepth 100000 in
set_option maxHeartbeats 400000 in
theorem number_any (B : Nat) (M : Option Nat) (q : ByteArray) (n : Int) (ok : Bool) (w : World) (c1 : w.cell? ⟨B, 1, none⟩ = some (.map M)) (hl : (Instr.lookup 36 (.map M) (.string q) true).run Yba.prog w = .ok (.tuple #[.int .i64 n, .bool ok]) w) :
    Calls Yba.prog 11 #[.pointer (some ⟨B, 0, none⟩), .string q] w fun e w' => e = .returned (.tuple #[.int .i64 n, .bool ok]) ∧ w = w' := by
  go_enter Yba.func11, Yba.ntmps11
  go_wp2
  go_ret2
  exact ⟨rfl, rfl⟩

/-- A choice that can be read: its strings lie there. -/
def AltOk (w : World) (v : Value) : Prop :=
  ∃ a n cap, v = .slice a n cap ∧ n ≤ 9223372036854775807 ∧ (n = 0 ∨ ∃ b off, a = some ⟨b, off, none⟩ ∧ b < w.heap.size ∧ ∀ j, j < n → ∃ s, w.cell? ⟨b, off + j, none⟩ = some (.string s))
theorem AltOk.below {w w' : World} {v : Value} (h : AltOk w v) (hb : Below w.heap.size w w') : AltOk w' v := by
  obtain ⟨a, n, cap, hv, hn, h⟩ := h
  refine ⟨a, n, cap, hv, hn, ?_⟩
  rcases h with h | ⟨b, off, ha, hlt, hc⟩
  · exact .inl h
  · exact .inr ⟨b, off, ha, Nat.lt_of_lt_of_le hlt hb.size, fun j hj => by obtain ⟨s, hs⟩ := hc j hj; exact ⟨s, (hb.cell (p := ⟨b, off + j, none⟩) hlt).trans hs⟩⟩
theorem AltOk.one {w : World} {v : Value} (h : AltOk w v) : v.oneCell' = true := by
  obtain ⟨a, n, cap, rfl, _⟩ := h
  rfl

set_option maxRecDepth 100000 in
set_option maxHeartbeats 400000 in
theorem eqstrs_any (v : Value) (w : World) (h : AltOk w v) :
    Calls Yba.prog 12 #[v, v] w fun e w' => e = .returned (.bool true) ∧ ∃ m, w' = w.drewN m := by
  obtain ⟨a, n, cap, rfl, hn, h⟩ := h
  go_enter Yba.func12, Yba.ntmps12
  go_wp2
  go_loopw [5, 13] (fun _ i wr => ∃ k : Nat, k ≤ n ∧ i = .int .i64 k ∧ ∃ m, wr = w.drewN m) (fun _ i _ => n - (intOf i).toNat)
  case atStart => exact ⟨0, Nat.zero_le _, rfl, 0, rfl⟩
  case round =>
    obtain ⟨k, hk, rfl, m, rfl⟩ := hrel
    by_cases hlt : k < n
    · rcases h with h | ⟨b, off, ha, _, hc⟩
      · omega
      subst ha
      obtain ⟨s, hs⟩ := hc k hlt
      have i1 : (0 : Int) ≤ (k : Int) := by omega
      have i2 : (k : Int) < (n : Int) := by omega
      clear hc
      go_wp2
      go_quiet (fail)
      go_wp2
      go_roundw
      case rel => exact ⟨k + 1, by omega, by go_num, _, rfl⟩
      case measure => simp [intOf]; omega
    · go_wp2
      go_ret
      exact ⟨rfl, _, rfl⟩
end Go.Proofs.Ybulkbhho
