/-
  FnSelectorPosEndAtEveryDepth (4): the relation of the loop that builds the chain, its start and its step; no walk.
-/
import Derived.Test.YoebvwMid4
namespace Go.Proofs.Yoebvw
open Go.RowKit

def posOf (zs : List Int) (k : Nat) : Int := zs.getD k 0
theorem posOf_eq (zs : List Int) (k : Nat) (h : k < zs.length) : posOf zs k = zs[k] := by
  unfold posOf; rw [List.getD_eq_getElem?_getD, List.getElem?_eq_getElem h]; rfl

def SRow (w : World) (B : Nat) (ss : List ByteArray) : Prop := ∀ j, (h : j < ss.length) → w.cell? ⟨B, j, none⟩ = some (.string ss[j])
def IRow (w : World) (B : Nat) (zs : List Int) : Prop := ∀ j, (h : j < zs.length) → w.cell? ⟨B, j, none⟩ = some (.int .i64 zs[j])

theorem irow_of {w : World} {B n m : Nat} {zs : List Int} (h : w.ownsRow B 3 1 (.slice (some ⟨B, 0, none⟩) n m) n (zs.map (Value.int .i64))) : IRow w B zs := by
  intro j hj
  have hl : zs.length = n * 1 := by simpa using h.1
  rw [h.cellAt j (by omega)]
  simp [hj]

def Rel4 (w : World) (B B2 : Nat) (bp : Int) (base : ByteArray) (ss : List ByteArray) (zs : List Int) (k g : Nat) (wr : World) : Prop :=
  ExprAt wr base bp (revl ss (posOf zs) k) (.iface 26 (.pointer (some ⟨g, 0, none⟩))) ∧ SRow wr B ss ∧ IRow wr B2 zs ∧ Below B w wr ∧ B < wr.heap.size

theorem rel4_start {w w1 W : World} {B B2 : Nat} {bp : Int} {base : ByteArray} {ss : List ByteArray} {zs : List Int} {g : Nat} {s : ByteArray} {z : Int} (h5 : 0 < ss.length) (h6 : 0 < zs.length) (hs : s = ss[0]) (hz : z = zs[0])
    (h1 : SRow w1 B ss) (h2 : IRow w1 B2 zs) (hbl : Below B w w1) (hB : B < w1.heap.size)
    (hx : ExprAt W base bp [(s, z)] (.iface 26 (.pointer (some ⟨g, 0, none⟩)))) (hst : Stays w1 W) (hb : Below B w1 W) : Rel4 w B B2 bp base ss zs 1 g W :=
  ⟨by rw [revl_next ss _ 0 h5, posOf_eq zs 0 h6, ← hs, ← hz]; exact hx, fun j hj => hst _ _ (h1 j hj), fun j hj => hst _ _ (h2 j hj), hbl.trans hb, Nat.lt_of_lt_of_le hB hb.size⟩

theorem rel4_next {w wr : World} {B B2 : Nat} {bp : Int} {base : ByteArray} {ss : List ByteArray} {zs : List Int} {k g : Nat} {s : ByteArray} {z : Int} (hk : k < ss.length) (hk2 : k < zs.length) (hs : s = ss[k]) (hz : z = zs[k]) (h : Rel4 w B B2 bp base ss zs k g wr) :
    Rel4 w B B2 bp base ss zs (k + 1) (wr.heap.size + 1) ((wr.alloc (.cells #[.string s, .int .i64 z, .string s] 33)).alloc
      (.cells #[.iface 26 (.pointer (some ⟨g, 0, none⟩)), .iface 31 (.pointer (some ⟨wr.heap.size, 0, none⟩))] 37)).drew := by
  obtain ⟨h1, h2, h2', h3, h4⟩ := h
  have st : Stays wr ((wr.alloc (.cells #[.string s, .int .i64 z, .string s] 33)).alloc
      (.cells #[.iface 26 (.pointer (some ⟨g, 0, none⟩)), .iface 31 (.pointer (some ⟨wr.heap.size, 0, none⟩))] 37)).drew := (((Stays.refl wr).alloc _).alloc _).drew
  refine ⟨?_, fun j hj => st _ _ (h2 j hj), fun j hj => st _ _ (h2' j hj), ((h3.alloc (Nat.le_of_lt h4) _).alloc (by rw [World.size_alloc]; omega) _).drew, ?_⟩
  · rw [revl_next ss _ k hk, posOf_eq zs k hk2, ← hs, ← hz]
    exact link wr base s bp z _ g h1
  · show B < ((wr.alloc _).alloc _).heap.size
    rw [World.size_alloc, World.size_alloc]; omega

theorem rel4_drewN {w W : World} {B B2 : Nat} {bp : Int} {base : ByteArray} {ss : List ByteArray} {zs : List Int} {k g : Nat} (q : Nat) (h : Rel4 w B B2 bp base ss zs k g W) : Rel4 w B B2 bp base ss zs k g (W.drewN q) :=
  ⟨ExprAt.stays (fun a x h => cell_drewN a x h) h.1, h.2.1, h.2.2.1, ⟨h.2.2.2.1.os, h.2.2.2.1.tape, h.2.2.2.1.output, h.2.2.2.1.size, h.2.2.2.1.block⟩, h.2.2.2.2⟩

/-- What the round reads and calls, the chain k + 1 links long. -/
theorem rel4_calls {w W : World} {B B2 : Nat} {bp : Int} {base : ByteArray} {ss : List ByteArray} {zs : List Int} {k g : Nat} {s : ByteArray} {z : Int} (hk : k < ss.length) (hk2 : k < zs.length) (hs : s = ss[k]) (hz : z = zs[k]) (h : Rel4 w B B2 bp base ss zs (k + 1) g W)
    (hz0 : 0 ≤ z) (hb : z + (s.size : Int) ≤ 9223372036854775807) :
    W.cell? ⟨B, k, none⟩ = some (.string s) ∧ W.cell? ⟨B2, k, none⟩ = some (.int .i64 z) ∧
    (Calls Ebvg.prog 13 #[.pointer (some ⟨g, 0, none⟩)] W fun e w' => e = .returned (.int .i64 bp) ∧ W = w') ∧
    (∀ q, Calls Ebvg.prog 14 #[.pointer (some ⟨g, 0, none⟩)] (W.drewN q) fun e w' => e = .returned (.int .i64 (z + (s.size : Int))) ∧ ∃ m, w' = (W.drewN q).drewN m) := by
  obtain ⟨h1, h2, h2', h3, h4⟩ := h
  refine ⟨by rw [h2 k hk, hs], by rw [h2' k hk2, hz], (selPos base bp _ g W h1).mono fun _ _ h => ⟨h.1, h.2.symm⟩, fun q => ?_⟩
  rw [revl_next ss _ k hk, posOf_eq zs k hk2, ← hs, ← hz] at h1
  exact selEnd base bp _ s z g (W.drewN q) (ExprAt.stays (fun a x h => cell_drewN a x h) h1) hz0 hb

end Go.Proofs.Yoebvw
