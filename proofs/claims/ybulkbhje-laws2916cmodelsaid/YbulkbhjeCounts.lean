/-
  The plain side: what the map holds after k stores, and the last count stored under a name.
-/
import Derived.Test.YbulkbhjeProg
import Derived.WalkKit
import Derived.OpenShut
import Derived.Maps.OwnSet
namespace Go.Proofs.Ybulkbhje
open Go.RowKit Go.Maps

theorem toList_data (a : ByteArray) : a.toList = a.data.toList := ByteArray.toList_eq a

/-- Is it that name? -/
def same (a b : ByteArray) : Bool := a.toList == b.toList
theorem same_true {a b : ByteArray} (h : same a b = true) : a.data.toList = b.data.toList := by
  unfold same at h
  rw [toList_data, toList_data] at h
  simpa using h
theorem same_false {a b : ByteArray} (h : same a b = false) : a.data.toList ≠ b.data.toList := by
  unfold same at h
  rw [toList_data, toList_data] at h
  simpa using h

def key (s : ByteArray) : Lit := .string s.data.toList
theorem key_lit (s : ByteArray) : WideAt.IsKeyLit (key s) := trivial
/-- The map after k stores. -/
def dat (S : Nat → ByteArray) (v : Nat → Int) : Nat → DataW Unit
  | 0 => .map []
  | k + 1 => (dat S v k).put (key (S k)) (.lit (.int .i64 (v k)))
/-- Was the name among the first k? -/
def fnd (S : Nat → ByteArray) (q : ByteArray) : Nat → Bool
  | 0 => false
  | k + 1 => if same (S k) q then true else fnd S q k
/-- The count last stored under it. -/
def wnt (S : Nat → ByteArray) (v : Nat → Int) (q : ByteArray) : Nat → Int
  | 0 => 0
  | k + 1 => if same (S k) q then v k else wnt S v q k

theorem fnd_hit {S : Nat → ByteArray} {q : ByteArray} {k : Nat} (h : same (S k) q = true) : fnd S q (k + 1) = true := by simp [fnd, h]
theorem fnd_miss {S : Nat → ByteArray} {q : ByteArray} {k : Nat} (h : same (S k) q = false) : fnd S q (k + 1) = fnd S q k := by simp [fnd, h]
theorem wnt_hit {S : Nat → ByteArray} {v : Nat → Int} {q : ByteArray} {k : Nat} (h : same (S k) q = true) : wnt S v q (k + 1) = v k := by simp [wnt, h]
theorem wnt_miss {S : Nat → ByteArray} {v : Nat → Int} {q : ByteArray} {k : Nat} (h : same (S k) q = false) : wnt S v q (k + 1) = wnt S v q k := by simp [wnt, h]

theorem dat_isMap (S : Nat → ByteArray) (v : Nat → Int) : ∀ k, IsMap (dat S v k)
  | 0 => isMap_empty
  | k + 1 => (dat_isMap S v k).put _ _
theorem dat_has (S : Nat → ByteArray) (v : Nat → Int) (q : ByteArray) : ∀ k, Maps.has (dat S v k) (key q) = fnd S q k
  | 0 => rfl
  | k + 1 => by
    unfold dat fnd
    cases h : same (S k) q with
    | true =>
      have e : key (S k) = key q := by unfold key; rw [same_true h]
      rw [e, has_put_same (dat_isMap S v k) (key_lit q)]
      simp
    | false =>
      have e : key q ≠ key (S k) := by unfold key; intro e; injection e with e; exact same_false h e.symm
      rw [has_put_other e, dat_has S v q k]
      simp
theorem dat_at (S : Nat → ByteArray) (v : Nat → Int) (q : ByteArray) : ∀ k, (dat S v k).atKey (key q) (.lit (.int .i64 0)) = .lit (.int .i64 (wnt S v q k))
  | 0 => rfl
  | k + 1 => by
    unfold dat wnt
    cases h : same (S k) q with
    | true =>
      have e : key (S k) = key q := by unfold key; rw [same_true h]
      rw [e, atKey_put_same (dat_isMap S v k) (key_lit q)]
      simp
    | false =>
      have e : key q ≠ key (S k) := by unfold key; intro e; injection e with e; exact same_false h e.symm
      rw [atKey_put_other e, dat_at S v q k]
      simp
end Go.Proofs.Ybulkbhje
