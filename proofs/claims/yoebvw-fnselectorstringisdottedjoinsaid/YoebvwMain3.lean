/-
  FnSelectorStringIsDottedJoin (3): the main way.
-/
import Derived.Test.YoebvwLaw3
import Derived.Test.YoebvwBuild
namespace Go.Proofs.Yoebvw
open Go.RowKit

theorem belowN {B : Nat} {w wr : World} (h : Below B w wr) (q : Nat) : Below B w (wr.drewN q) := ⟨h.os, h.tape, h.output, h.size, h.block⟩

/-- What holds at the head of each round of the loop that builds the chain, and at its start. -/
def Rel3 (w : World) (B : Nat) (base : ByteArray) (ss : List ByteArray) (k g : Nat) (wr : World) : Prop :=
  ExprAt wr base 0 (revl ss (fun _ => 0) k) (.iface 26 (.pointer (some ⟨g, 0, none⟩))) ∧ (∀ j, (h : j < ss.length) → wr.cell? ⟨B, j, none⟩ = some (.string ss[j])) ∧ Below B w wr ∧ B < wr.heap.size

theorem rel3_start {w w1 W : World} {B : Nat} {base : ByteArray} {ss : List ByteArray} {g n m : Nat} (h5 : 0 < ss.length) (ho : w1.ownsRow B 9 1 (.slice (some ⟨B, 0, none⟩) n m) n (ss.map Value.string)) (hbl : Below B w w1)
    (hx : ExprAt W base 0 [(ss[0], 0)] (.iface 26 (.pointer (some ⟨g, 0, none⟩)))) (hst : Stays w1 W) (hb : Below B w1 W) : Rel3 w B base ss 1 g W :=
  ⟨by rw [revl_next ss _ 0 h5]; exact hx, fun j hj => hst _ _ (row_cell ho j hj), hbl.trans hb, Nat.lt_of_lt_of_le (row_lt ho) hb.size⟩

theorem rel3_next {w wr : World} {B : Nat} {base : ByteArray} {ss : List ByteArray} {k g : Nat} {s : ByteArray} (hk : k < ss.length) (hs : s = ss[k]) (h : Rel3 w B base ss k g wr) :
    Rel3 w B base ss (k + 1) (wr.heap.size + 1) ((wr.alloc (.cells #[.string s, .int .i64 0, .string s] 33)).alloc
      (.cells #[.iface 26 (.pointer (some ⟨g, 0, none⟩)), .iface 31 (.pointer (some ⟨wr.heap.size, 0, none⟩))] 37)).drew := by
  obtain ⟨h1, h2, h3, h4⟩ := h
  refine ⟨?_, fun j hj => (((Stays.refl wr).alloc _).alloc _).drew _ _ (h2 j hj), ((h3.alloc (Nat.le_of_lt h4) _).alloc (by rw [World.size_alloc]; omega) _).drew, ?_⟩
  · rw [revl_next ss _ k hk, ← hs]
    exact link wr base s 0 0 _ g h1
  · show B < ((wr.alloc _).alloc _).heap.size
    rw [World.size_alloc, World.size_alloc]; omega

set_option maxHeartbeats 1600000 in
theorem law3_main (base : ByteArray) (ss : List ByteArray) (b off cap : Nat) (w : World) (hc : ∀ j, (h : j < ss.length) → w.cell? ⟨b, off + j, none⟩ = some (.string ss[j]))
    (h1 : base.size + ss.length + tot ss ≤ 1048576) (h2 : ss.length ≤ 4096) (h3 : base.size + 8 * ss.length + tot ss ≤ 1048576) (h4 : ss.length * (base.size + 8 * ss.length + tot ss) ≤ 1073741824) (h5 : 0 < ss.length) :
    Calls Ebvg.prog 3 #[.string base, .slice (some ⟨b, off, none⟩) ss.length cap] w fun e w' => e = .returned (.bool true) ∧ Below w.heap.size w w' := by
  have hs : IsStrs w (some ⟨b, off, none⟩) ss := .inr ⟨b, off, rfl, hc⟩
  have hb : b < w.heap.size := World.block_lt_of_cell? _ _ (hc 0 h5)
  have C6 : Hid (Calls Ebvg.prog 6 #[.string base, .slice (some ⟨b, off, none⟩) ss.length cap] w fun e w' => e = .returned (.bool true) ∧ w = w') := by
    have := bound6 base ss (some ⟨b, off, none⟩) cap w hs
    rw [okB_true h1] at this
    exact this.mono fun _ _ h => ⟨h.1, h.2.symm⟩
  have C7 : Hid (Calls Ebvg.prog 7 #[.string base, .slice (some ⟨b, off, none⟩) ss.length cap] w fun e w' => e = .returned (.int .i64 ((base.size + 8 * ss.length + tot ss : Nat) : Int)) ∧ w = w') := (selBytes base ss _ cap w hs h1).mono fun _ _ h => ⟨h.1, h.2.symm⟩
  have C8 : Hid (Calls Ebvg.prog 8 #[.slice (some ⟨b, off, none⟩) ss.length cap] w fun e w' => e = .returned (.slice (some ⟨w.heap.size, 0, none⟩) ss.length ss.length) ∧
      w'.ownsRow w.heap.size 9 1 (.slice (some ⟨w.heap.size, 0, none⟩) ss.length ss.length) ss.length (ss.map Value.string) ∧ Below w.heap.size w w') := copyStrs ss b off cap w hc hb h2
  obtain ⟨B, hB⟩ : ∃ B, B = w.heap.size := ⟨_, rfl⟩
  have HB : Hid (B = w.heap.size) := hB
  rw [← hB] at C8 ⊢
  clear hB hb
  clear hs hc
  obtain ⟨N, hNe⟩ : ∃ N, N = base.size + 8 * ss.length + tot ss := ⟨_, rfl⟩
  rw [← hNe] at C7 h3 h4
  clear hNe
  obtain ⟨n, hn⟩ : ∃ n, n = ss.length := ⟨_, rfl⟩
  have HN : Hid (n = ss.length) := hn
  rw [← hn] at C6 C7 C8 h1 h2 h4 h5 ⊢
  clear hn
  have k4' : (n : Int) * (N : Int) ≤ 1073741824 := mul_le n N 1073741824 h4
  have k5' : ((n : Int) == 0) = false := by simp; omega
  have k6' : 0 ≤ (n : Int) * (N : Int) := Int.mul_nonneg (Int.natCast_nonneg n) (Int.natCast_nonneg N)
  clear h4
  go_enter Ebvg.func3, Ebvg.ntmps3
  go_wp2_with (first | (go_at_call 6; refine C6.out.mono ?_; rintro e w' ⟨rfl, rfl⟩) | (go_at_call 7; refine C7.out.mono ?_; rintro e w' ⟨rfl, rfl⟩) | (go_at_call 8; refine C8.out.mono ?_; rintro e w1 ⟨rfl, hown, hbl⟩))
  clear C6 C7 C8
  have hsz : B < w1.heap.size := row_lt hown
  have hcell0 : w1.cell? ⟨B, 0, none⟩ = some (.string (ss[0]'(HN.out ▸ h5))) := row_cell hown 0 (HN.out ▸ h5)
  obtain ⟨s0, hs0⟩ : ∃ s0, s0 = ss[0]'(HN.out ▸ h5) := ⟨_, rfl⟩
  rw [← hs0] at hcell0
  have HS0 : Hid (s0 = ss[0]'(HN.out ▸ h5)) := hs0
  have HA : Hid (Rel3 w B base ss 1 (w1.heap.size + 1 + 1) (((w1.alloc (.cells #[.string s0, .int .i64 0, .string s0] 33)).alloc (.cells #[.string base, .int .i64 0] 30)).alloc
      (.cells #[.iface 27 (.pointer (some ⟨w1.heap.size + 1, 0, none⟩)), .iface 31 (.pointer (some ⟨w1.heap.size, 0, none⟩))] 37)).drew) :=
    rel3_start (HN.out ▸ h5) hown hbl (by rw [← hs0]; exact first_a w1 base s0 0 0) ((((Stays.refl w1).alloc _).alloc _).alloc _).drew
      ((((Below.refl B w1).alloc (by omega) _).alloc (by rw [World.size_alloc]; omega) _).alloc (by rw [World.size_alloc, World.size_alloc]; omega) _).drew
  have HA' : Hid (Rel3 w B base ss 1 (w1.heap.size + 1 + 1) (((w1.alloc (.cells #[.string base, .int .i64 0] 30)).alloc (.cells #[.string s0, .int .i64 0, .string s0] 33)).alloc
      (.cells #[.iface 27 (.pointer (some ⟨w1.heap.size, 0, none⟩)), .iface 31 (.pointer (some ⟨w1.heap.size + 1, 0, none⟩))] 37)).drew) :=
    rel3_start (HN.out ▸ h5) hown hbl (by rw [← hs0]; exact first_b w1 base s0 0 0) ((((Stays.refl w1).alloc _).alloc _).alloc _).drew
      ((((Below.refl B w1).alloc (by omega) _).alloc (by rw [World.size_alloc]; omega) _).alloc (by rw [World.size_alloc, World.size_alloc]; omega) _).drew
  clear hs0 hown HS0 hbl
  have h5' : (0 : Int) < (n : Int) := by omega
  go_region
  all_goals
    clear hcell0
    go_wp2_with fail
    go_loopw [5, 6] (fun v i wr => ∃ k g : Nat, 1 ≤ k ∧ k ≤ n ∧ i = .int .i64 k ∧ v = .pointer (some ⟨g, 0, none⟩) ∧ Hid (Rel3 w B base ss k g wr)) (fun _ i _ => n - (intOf i).toNat)
    case atStart => first | exact ⟨1, _, Nat.le_refl _, h5, rfl, rfl, HA⟩ | exact ⟨1, _, Nat.le_refl _, h5, rfl, rfl, HA'⟩
    case round =>
      clear HA HA'
      obtain ⟨k, g, hk1, hk, rfl, rfl, HR⟩ := hrel
      by_cases hlt : k < n
      · have hlt' : k < ss.length := by have := HN.out; omega
        have hcell := HR.out.2.1 k hlt'
        obtain ⟨s, hse⟩ : ∃ s, s = ss[k]'hlt' := ⟨_, rfl⟩
        rw [← hse] at hcell
        have HX : Hid (_) := rel3_next hlt' hse HR.out
        clear hse HR
        have hlI : (k : Int) < (n : Int) := by omega
        go_wp2_with fail
        go_region
        go_wp2_with fail
        go_roundw
        case rel => exact ⟨k + 1, _, by omega, by omega, by go_num, rfl, HX⟩
        case measure => simp [intOf]; omega
      · have hkn : k = n := by omega
        subst hkn
        have hR := HR.out
        clear HR
        obtain ⟨hx, hcs, hbl, hBs⟩ := hR
        obtain ⟨D, hD⟩ : ∃ D : ByteArray, D = ⟨(dots base ss).toArray⟩ := ⟨_, rfl⟩
        have hnl : k = ss.length := HN.out
        have C9 : Hid (Calls Ebvg.prog 9 #[.pointer (some ⟨g, 0, none⟩)] wr fun e w' => e = .returned (.string D) ∧ ∃ n, w' = wr.drewN n) := by
          have e : strOf base (revl ss (fun _ => 0) k) = D := by rw [str_revl base ss _ k (by omega), hD, hnl, List.take_length]
          rw [← e]
          exact selString base 0 _ g wr hx (by rw [str_size base ss _ k (by omega)]; have := tot_take_le ss k; omega)
        have C10 : Hid (∀ q, Calls Ebvg.prog 10 #[.string base, .slice (some ⟨B, 0, none⟩) k k] (wr.drewN q) fun e w' => e = .returned (.string D) ∧ Below B w w') := fun q => by
          rw [hD]
          have := selDotted base ss B k (wr.drewN q) hcs hBs (by omega)
          rw [← hnl] at this
          exact this.mono fun e w' h => ⟨h.1, (belowN hbl q).trans (h.2.mono (Nat.le_of_lt hBs))⟩
        clear hx hcs hbl hBs hD hnl
        go_wp2_with (first | (go_at_call 9; refine C9.out.mono ?_; rintro e w2 ⟨rfl, q, rfl⟩) | (go_at_call 10; refine (C10.out _).mono ?_; rintro e w3 ⟨rfl, hb3⟩))
        go_ret
        exact ⟨rfl, hb3⟩

end Go.Proofs.Yoebvw
