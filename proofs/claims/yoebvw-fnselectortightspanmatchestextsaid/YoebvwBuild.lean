/-
  HOW THE CHAIN GROWS: the blocks that one composite literal lays, and what they mean.
-/
import Derived.Test.YoebvwStr
import Derived.Test.YoebvwDots
namespace Go.Proofs.Yoebvw
open Go.RowKit

theorem row_lt {w : World} {B n m : Nat} {e : TypeId} {xs : List Value} (h : w.ownsRow B e 1 (.slice (some ⟨B, 0, none⟩) n m) n xs) : B < w.heap.size := by
  rcases h.2 with ⟨h', _⟩ | ⟨g, cap, cur, h', _, hg, _⟩
  · simp at h'
  · simp only [Value.slice.injEq, Option.some.injEq, Addr.mk.injEq, and_true, true_and] at h'
    obtain ⟨rfl, rfl⟩ := h'
    exact lt_of_block hg
theorem row_cell {w : World} {B n m : Nat} {ss : List ByteArray} (h : w.ownsRow B 9 1 (.slice (some ⟨B, 0, none⟩) n m) n (ss.map Value.string)) (j : Nat) (hj : j < ss.length) : w.cell? ⟨B, j, none⟩ = some (.string ss[j]) := by
  have hl : ss.length = n * 1 := by simpa using h.1
  rw [h.cellAt j (by omega)]
  simp [hj]

/-- Every cell that is there stays. -/
def Stays (w w' : World) : Prop := ∀ a x, w.cell? a = some x → w'.cell? a = some x
theorem Stays.refl (w : World) : Stays w w := fun _ _ h => h
theorem Stays.trans {a b c : World} (h : Stays a b) (k : Stays b c) : Stays a c := fun p x hp => k p x (h p x hp)
theorem Stays.alloc {w w' : World} (h : Stays w w') (o : Obj) : Stays w (w'.alloc o) := fun a x hx => by
  have := h a x hx
  rw [World.cell?_alloc_lt w' o a (World.block_lt_of_cell? _ _ this)]; exact this
theorem Stays.drew {w w' : World} (h : Stays w w') : Stays w w'.drew := h
theorem Stays.below {w w' : World} (h : Below w.heap.size w w') : Stays w w' := fun _ _ hx => (h.cell (World.block_lt_of_cell? _ _ hx)).trans hx

theorem cell3 (w : World) (c : Array Value) (t : TypeId) (o2 o3 : Obj) (i : Nat) : (((w.alloc (.cells c t)).alloc o2).alloc o3).cell? ⟨w.heap.size, i, none⟩ = c[i]? := by
  rw [World.cell?_alloc_past _ _ _ (by rw [World.size_alloc, World.size_alloc]; omega), World.cell?_alloc_past _ _ _ (by rw [World.size_alloc]; omega), World.cell?_alloc_new]

/-- The Ident's block laid behind the StringLit's. -/
theorem first_a (w : World) (name s : ByteArray) (pos p : Int) :
    ExprAt (((w.alloc (.cells #[.string s, .int .i64 p, .string s] 33)).alloc (.cells #[.string name, .int .i64 pos] 30)).alloc
      (.cells #[.iface 27 (.pointer (some ⟨w.heap.size + 1, 0, none⟩)), .iface 31 (.pointer (some ⟨w.heap.size, 0, none⟩))] 37)).drew name pos [(s, p)] (.iface 26 (.pointer (some ⟨w.heap.size + 1 + 1, 0, none⟩))) := by
  refine ⟨_, w.heap.size, .iface 27 (.pointer (some ⟨w.heap.size + 1, 0, none⟩)), rfl, ?_, ?_, ?_, ?_, w.heap.size + 1, rfl, ?_, ?_⟩ <;> simp [World.cell?_alloc_at, World.cell?_alloc_past, cell3]

/-- .. ahead of it. -/
theorem first_b (w : World) (name s : ByteArray) (pos p : Int) :
    ExprAt (((w.alloc (.cells #[.string name, .int .i64 pos] 30)).alloc (.cells #[.string s, .int .i64 p, .string s] 33)).alloc
      (.cells #[.iface 27 (.pointer (some ⟨w.heap.size, 0, none⟩)), .iface 31 (.pointer (some ⟨w.heap.size + 1, 0, none⟩))] 37)).drew name pos [(s, p)] (.iface 26 (.pointer (some ⟨w.heap.size + 1 + 1, 0, none⟩))) := by
  refine ⟨_, w.heap.size + 1, .iface 27 (.pointer (some ⟨w.heap.size, 0, none⟩)), rfl, ?_, ?_, ?_, ?_, w.heap.size, rfl, ?_, ?_⟩ <;> simp [World.cell?_alloc_at, World.cell?_alloc_past, cell3]

/-- One link more. -/
theorem link (w : World) (name s : ByteArray) (pos p : Int) (xs : List (ByteArray × Int)) (g : Nat) (h : ExprAt w name pos xs (.iface 26 (.pointer (some ⟨g, 0, none⟩)))) :
    ExprAt ((w.alloc (.cells #[.string s, .int .i64 p, .string s] 33)).alloc
      (.cells #[.iface 26 (.pointer (some ⟨g, 0, none⟩)), .iface 31 (.pointer (some ⟨w.heap.size, 0, none⟩))] 37)).drew name pos ((s, p) :: xs) (.iface 26 (.pointer (some ⟨w.heap.size + 1, 0, none⟩))) := by
  refine ⟨_, w.heap.size, .iface 26 (.pointer (some ⟨g, 0, none⟩)), rfl, ?_, ?_, ?_, ?_, ExprAt.stays (((Stays.refl w).alloc _).alloc _).drew h⟩ <;> simp

/-- The selectors of the first k names, the last first. -/
def revl (ss : List ByteArray) (pos : Nat → Int) : Nat → List (ByteArray × Int)
  | 0 => []
  | k + 1 => (ss.getD k ByteArray.empty, pos k) :: revl ss pos k

theorem revl_next (ss : List ByteArray) (pos : Nat → Int) (k : Nat) (h : k < ss.length) : revl ss pos (k + 1) = (ss[k], pos k) :: revl ss pos k := by
  show (ss.getD k ByteArray.empty, pos k) :: revl ss pos k = _
  rw [List.getD_eq_getElem?_getD, List.getElem?_eq_getElem h]; rfl

theorem str_revl (base : ByteArray) (ss : List ByteArray) (pos : Nat → Int) : ∀ k, k ≤ ss.length → strOf base (revl ss pos k) = ⟨(dots base (ss.take k)).toArray⟩
  | 0, _ => by
    show base = _
    simp [dots, dl, bytesL]
  | k + 1, h => by
    rw [revl_next ss pos k (by omega), dots_next base ss k (by omega)]
    show strOf base (revl ss pos k) ++ ⟨#[46]⟩ ++ ss[k] = _
    rw [str_revl base ss pos k (by omega)]
    ext1
    simp [bytesL]

theorem str_size (base : ByteArray) (ss : List ByteArray) (pos : Nat → Int) (k : Nat) (h : k ≤ ss.length) : (strOf base (revl ss pos k)).size = base.size + k + tot (ss.take k) := by
  rw [str_revl base ss pos k h]
  show (dots base (ss.take k)).toArray.size = _
  rw [List.size_toArray, dots_length, List.length_take, Nat.min_eq_left h]

end Go.Proofs.Yoebvw
