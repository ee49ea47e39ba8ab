/-
  PLAIN: lists of strings, their total length; no Go program in sight.
-/
import Derived.WalkKit
namespace Go.Proofs.Yoebvw
open Go.RowKit

theorem ret_int {k : IntKind} {a b : Int} (h : a = b) : Ending.returned (.int k a) = .returned (.int k b) := by rw [h]
theorem val_int {k : IntKind} {a b : Int} (h : a = b) : Value.int k a = .int k b := by rw [h]

/-- The sum of the lengths. -/
def tot : List ByteArray → Nat
  | [] => 0
  | s :: ss => s.size + tot ss

theorem tot_append (a b : List ByteArray) : tot (a ++ b) = tot a + tot b := by
  induction a with
  | nil => simp [tot]
  | cons s ss ih => simp [tot, ih]; omega

theorem take_next {α : Type} (l : List α) (k : Nat) (h : k < l.length) : l.take (k + 1) = l.take k ++ [l[k]] := List.take_succ_eq_append_getElem h

theorem tot_next (ss : List ByteArray) (k : Nat) (h : k < ss.length) : tot (ss.take (k + 1)) = tot (ss.take k) + ss[k].size := by
  rw [take_next ss k h, tot_append]; simp [tot]

theorem tot_take_le (ss : List ByteArray) (k : Nat) : tot (ss.take k) ≤ tot ss := by
  have h := tot_append (ss.take k) (ss.drop k)
  rw [List.take_append_drop] at h
  omega

/-- Is a sum of lengths within the bound? -/
def okB (n : Nat) : Bool := decide (n ≤ 1048576)
theorem okB_true {n : Nat} (h : n ≤ 1048576) : okB n = true := decide_eq_true h
theorem okB_false {n : Nat} (h : 1048576 < n) : okB n = false := decide_eq_false (by omega)
theorem okB_le {n : Nat} (h : okB n = true) : n ≤ 1048576 := of_decide_eq_true h
theorem ret_bool {a b : Bool} (h : a = b) : Ending.returned (.bool a) = .returned (.bool b) := by rw [h]

/-- A slice of strings in memory: empty, or a row of cells. -/
def IsStrs (w : World) (ao : Option Addr) (ss : List ByteArray) : Prop :=
  ss = [] ∨ ∃ b off, ao = some ⟨b, off, none⟩ ∧ ∀ j, (h : j < ss.length) → w.cell? ⟨b, off + j, none⟩ = some (.string ss[j])

/-- A slice of ints in memory. -/
def IsInts (w : World) (ao : Option Addr) (zs : List Int) : Prop :=
  zs = [] ∨ ∃ b off, ao = some ⟨b, off, none⟩ ∧ ∀ j, (h : j < zs.length) → w.cell? ⟨b, off + j, none⟩ = some (.int .i64 zs[j])

theorem mul_gt (n N c : Nat) (h : c < n * N) : ((c : Nat) : Int) < (n : Int) * (N : Int) := by
  rw [← Int.natCast_mul]; exact Int.ofNat_lt.2 h
theorem mul_le (n N c : Nat) (h : n * N ≤ c) : (n : Int) * (N : Int) ≤ ((c : Nat) : Int) := by
  rw [← Int.natCast_mul]; exact Int.ofNat_le.2 h

end Go.Proofs.Yoebvw
