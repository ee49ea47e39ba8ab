/-
  FnSelectorTightSpanMatchesText (5): the positions, the relation of the loop that builds the chain; no walk.
-/
import Derived.Test.YoebvwLaw5
namespace Go.Proofs.Yoebvw
open Go.RowKit

/-- Where selector k stands in the text laid out without a gap. -/
def posT (bp : Int) (base : ByteArray) (ss : List ByteArray) (k : Nat) : Int := bp + ((base.size + (k + 1) + tot (ss.take k) : Nat) : Int)

theorem posT_zero (bp : Int) (base : ByteArray) (ss : List ByteArray) : bp + (base.size : Int) + 1 = posT bp base ss 0 := by
  have e : tot (ss.take 0) = 0 := rfl
  unfold posT
  rw [e]
  omega
theorem posT_next (bp : Int) (base : ByteArray) (ss : List ByteArray) (k : Nat) (h : k < ss.length) : posT bp base ss k + (ss[k].size : Int) + 1 = posT bp base ss (k + 1) := by
  unfold posT
  rw [tot_next ss k h]
  omega
theorem posT_bd (bp : Int) (base : ByteArray) (ss : List ByteArray) (k : Nat) (h : k ≤ ss.length) (h1 : base.size + ss.length + tot ss ≤ 1048576) (h5 : 0 ≤ bp) (h6 : bp ≤ 1073741824) : 0 ≤ posT bp base ss k ∧ posT bp base ss k ≤ 1074790401 := by
  have := tot_take_le ss k
  unfold posT
  omega

def Rows5 (w : World) (B : Nat) (ss : List ByteArray) : Prop := ∀ j, (h : j < ss.length) → w.cell? ⟨B, j, none⟩ = some (.string ss[j])

def Rel5 (w : World) (B : Nat) (bp : Int) (base : ByteArray) (ss : List ByteArray) (k g : Nat) (wr : World) : Prop :=
  ExprAt wr base bp (revl ss (posT bp base ss) k) (.iface 26 (.pointer (some ⟨g, 0, none⟩))) ∧ Rows5 wr B ss ∧ Below B w wr ∧ B < wr.heap.size

theorem rel5_start {w w1 W : World} {B : Nat} {bp : Int} {base : ByteArray} {ss : List ByteArray} {g : Nat} {s : ByteArray} (h5 : 0 < ss.length) (hs : s = ss[0])
    (h1 : Rows5 w1 B ss) (hbl : Below B w w1) (hB : B < w1.heap.size)
    (hx : ExprAt W base bp [(s, bp + (base.size : Int) + 1)] (.iface 26 (.pointer (some ⟨g, 0, none⟩)))) (hst : Stays w1 W) (hb : Below B w1 W) : Rel5 w B bp base ss 1 g W :=
  ⟨by rw [revl_next ss _ 0 h5, ← hs, ← posT_zero bp base ss]; exact hx, fun j hj => hst _ _ (h1 j hj), hbl.trans hb, Nat.lt_of_lt_of_le hB hb.size⟩

theorem rel5_next {w wr : World} {B : Nat} {bp : Int} {base : ByteArray} {ss : List ByteArray} {k g : Nat} {s : ByteArray} {z : Int} (hk : k < ss.length) (hs : s = ss[k]) (hz : z = posT bp base ss k) (h : Rel5 w B bp base ss k g wr) :
    Rel5 w B bp base ss (k + 1) (wr.heap.size + 1) ((wr.alloc (.cells #[.string s, .int .i64 z, .string s] 33)).alloc
      (.cells #[.iface 26 (.pointer (some ⟨g, 0, none⟩)), .iface 31 (.pointer (some ⟨wr.heap.size, 0, none⟩))] 37)).drew := by
  obtain ⟨h1, h2, h3, h4⟩ := h
  have st : Stays wr ((wr.alloc (.cells #[.string s, .int .i64 z, .string s] 33)).alloc
      (.cells #[.iface 26 (.pointer (some ⟨g, 0, none⟩)), .iface 31 (.pointer (some ⟨wr.heap.size, 0, none⟩))] 37)).drew := (((Stays.refl wr).alloc _).alloc _).drew
  refine ⟨?_, fun j hj => st _ _ (h2 j hj), ((h3.alloc (Nat.le_of_lt h4) _).alloc (by rw [World.size_alloc]; omega) _).drew, ?_⟩
  · rw [revl_next ss _ k hk, ← hs, ← hz]
    exact link wr base s bp z _ g h1
  · show B < ((wr.alloc _).alloc _).heap.size
    rw [World.size_alloc, World.size_alloc]; omega

/-- The whole chain: End, Pos, String. -/
theorem rel5_calls {w W : World} {B : Nat} {bp : Int} {base : ByteArray} {ss : List ByteArray} {n g : Nat} (hn : n = ss.length) (h0 : 0 < n) (h1 : base.size + ss.length + tot ss ≤ 1048576) (h5 : 0 ≤ bp) (h6 : bp ≤ 1073741824) (h : Rel5 w B bp base ss n g W) :
    ∃ (L : Nat) (D : ByteArray), L ≤ 1048576 ∧ D.size = L ∧
    (∀ q, Calls Ebvg.prog 14 #[.pointer (some ⟨g, 0, none⟩)] (W.drewN q) fun e w' => e = .returned (.int .i64 (bp + (L : Int))) ∧ ∃ m, w' = (W.drewN q).drewN m) ∧
    (∀ q, Calls Ebvg.prog 13 #[.pointer (some ⟨g, 0, none⟩)] (W.drewN q) fun e w' => e = .returned (.int .i64 bp) ∧ (W.drewN q) = w') ∧
    (∀ q, Calls Ebvg.prog 9 #[.pointer (some ⟨g, 0, none⟩)] (W.drewN q) fun e w' => e = .returned (.string D) ∧ ∃ m, w' = (W.drewN q).drewN m) := by
  obtain ⟨hx, _, _, _⟩ := h
  have hx' : ∀ q, ExprAt (W.drewN q) base bp (revl ss (posT bp base ss) n) (.iface 26 (.pointer (some ⟨g, 0, none⟩))) := fun q => ExprAt.stays (fun a x h => cell_drewN a x h) hx
  have hsz := str_size base ss (posT bp base ss) n (by omega)
  have htl : tot (ss.take n) = tot ss := by rw [hn, List.take_length]
  rw [htl] at hsz
  refine ⟨base.size + n + tot ss, strOf base (revl ss (posT bp base ss) n), by omega, hsz, fun q => ?_, fun q => (selPos base bp _ g _ (hx' q)).mono fun _ _ h => ⟨h.1, h.2.symm⟩, fun q => selString base bp _ g _ (hx' q) (by omega)⟩
  obtain ⟨m, rfl⟩ : ∃ m, n = m + 1 := ⟨n - 1, by omega⟩
  have hm : m < ss.length := by omega
  have hb := posT_bd bp base ss m (by omega) h1 h5 h6
  have hs : ss[m].size ≤ 1048576 := by
    have e1 := tot_next ss m hm
    have e2 := tot_take_le ss (m + 1)
    omega
  have hq := hx' q
  rw [revl_next ss _ m hm] at hq
  have e : bp + ((base.size + (m + 1) + tot ss : Nat) : Int) = posT bp base ss m + (ss[m].size : Int) := by
    have e1 := tot_next ss m hm
    rw [htl] at e1
    unfold posT
    omega
  rw [e]
  exact selEnd base bp _ ss[m] _ g _ hq hb.1 (by omega)

end Go.Proofs.Yoebvw
