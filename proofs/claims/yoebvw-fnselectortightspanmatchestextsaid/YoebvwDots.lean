/-
  PLAIN: the bytes of the dotted join, and the conversion of an owned row of bytes to a string.
-/
import Derived.Test.YoebvwBytes
import Derived.Laws.BytesArg
namespace Go.Proofs.Yoebvw
open Go.RowKit

def bv (c : UInt8) : Value := .int .u8 (c.toNat : Int)
def bytesL (s : ByteArray) : List UInt8 := s.data.toList
theorem bytesL_length (s : ByteArray) : (bytesL s).length = s.size := Array.length_toList

def dl : List ByteArray → List UInt8
  | [] => []
  | s :: ss => (46 :: bytesL s) ++ dl ss
def dots (base : ByteArray) (ss : List ByteArray) : List UInt8 := bytesL base ++ dl ss

theorem dl_append (a b : List ByteArray) : dl (a ++ b) = dl a ++ dl b := by
  induction a with
  | nil => rfl
  | cons s ss ih => simp [dl, ih]

theorem dl_length (ss : List ByteArray) : (dl ss).length = ss.length + tot ss := by
  induction ss with
  | nil => rfl
  | cons s ss ih => simp [dl, tot, ih, bytesL_length]; omega

theorem dots_length (base : ByteArray) (ss : List ByteArray) : (dots base ss).length = base.size + ss.length + tot ss := by
  simp [dots, dl_length, bytesL_length]; omega

theorem dots_next (base : ByteArray) (ss : List ByteArray) (k : Nat) (h : k < ss.length) : dots base (ss.take (k + 1)) = (dots base (ss.take k) ++ [46]) ++ bytesL ss[k] := by
  unfold dots; rw [take_next ss k h, dl_append]; simp [dl]

theorem bytesL_next (s : ByteArray) (k : Nat) (h : k < s.size) : (bytesL s).take (k + 1) = (bytesL s).take k ++ [s[k]] := by
  rw [take_next _ k (by rw [bytesL_length]; exact h)]; rfl

def rowL (bs : List UInt8) : List Value := bs.map bv
def preL (s : ByteArray) (k : Nat) : List UInt8 := (bytesL s).take k
theorem rowL_push (bs : List UInt8) (c : UInt8) : rowL (bs ++ [c]) = rowL bs ++ [.int .u8 (c.toNat : Int)] := by simp [rowL, bv]
theorem preL_next (s : ByteArray) (k : Nat) (h : k < s.size) : preL s (k + 1) = preL s k ++ [s[k]] := bytesL_next s k h
theorem preL_all (s : ByteArray) : preL s s.size = bytesL s := List.take_of_length_le (by rw [bytesL_length]; exact Nat.le_refl _)
theorem preL_length (s : ByteArray) (k : Nat) (h : k ≤ s.size) : (preL s k).length = k := by unfold preL; rw [List.length_take, bytesL_length]; omega

theorem Ebvg.info5 : (Ebvg.prog.info? 5).map (fun i => (i.zero, i.size, i.bytes)) = some (some (.int .u8 0), 1, 1) := by kernel_rfl

theorem strOfNums_bytes (bs : List UInt8) : strOfNums (bs.map fun c => (c.toNat : Int)) = ⟨bs.toArray⟩ := by
  have h : (bs.map fun c => (c.toNat : Int)).map (fun n => UInt8.ofNat n.toNat) = bs := by
    rw [List.map_map]
    conv => rhs; rw [← List.map_id bs]
    apply List.map_congr_left
    intro c _
    simp
  simp only [strOfNums]
  rw [h]

theorem conv_own {w : World} {B : Nat} {v : Value} {bs : List UInt8} (h : w.ownsRow B 5 1 v bs.length (rowL bs)) : (convert 45 9 v).run Ebvg.prog w = .ok (.string ⟨bs.toArray⟩) w := by
  have h' := h
  rcases h.2 with ⟨rfl, h0⟩ | ⟨g, cap, cur, rfl, _⟩
  · have e : bs = [] := List.length_eq_zero_iff.1 h0
    subst e
    rw [run_convert_bytes_nil w 45 5 Ebvg.underlying45 Ebvg.underlying5 0 0 9 Ebvg.underlying9]
    rfl
  · rw [run_convert_bytes_arg w 45 5 Ebvg.underlying45 Ebvg.underlying5 g 0 bs.length cap (bs.map fun c => (c.toNat : Int)) (by simp) ?_ 9 Ebvg.underlying9, strOfNums_bytes]
    intro i hi
    rw [Nat.zero_add, h'.cellAt i (by omega)]
    simp [rowL, bv, List.getD, hi]

end Go.Proofs.Yoebvw
