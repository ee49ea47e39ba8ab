/-
  FnSelectorTightSpanMatchesText (5): the main way.
-/
import Derived.Test.YoebvwRel5
import Derived.Deep.Cut
import Derived.Deep.CutRange
import Derived.Deep.LoopGhost
namespace Go.Proofs.Yoebvw
open Go.RowKit

set_option maxHeartbeats 3200000 in
set_option maxRecDepth 1000000 in
theorem law5_main (bp : Int) (base : ByteArray) (ss : List ByteArray) (b off cap : Nat) (w : World) (hc : ∀ j, (h : j < ss.length) → w.cell? ⟨b, off + j, none⟩ = some (.string ss[j]))
    (h1 : base.size + ss.length + tot ss ≤ 1048576) (h2 : ss.length ≤ 4096) (h3 : base.size + 8 * ss.length + tot ss ≤ 1048576) (h4 : ss.length * (base.size + 8 * ss.length + tot ss) ≤ 1073741824) (h5 : 0 ≤ bp) (h6 : bp ≤ 1073741824) (h8 : 0 < ss.length) :
    Calls Ebvg.prog 5 #[.int .i64 bp, .string base, .slice (some ⟨b, off, none⟩) ss.length cap] w fun e w' => e = .returned (.bool true) ∧ Below w.heap.size w w' := by
  have hs : IsStrs w (some ⟨b, off, none⟩) ss := .inr ⟨b, off, rfl, hc⟩
  have hb : b < w.heap.size := World.block_lt_of_cell? _ _ (hc 0 h8)
  have C6 : Hid (Calls Ebvg.prog 15 #[.int .i64 bp, .string base, .slice (some ⟨b, off, none⟩) ss.length cap] w fun e w' => e = .returned (.bool true) ∧ w = w') := by
    have := bound15 bp base ss (some ⟨b, off, none⟩) cap w hs
    rw [okB_true h1] at this
    exact this.mono fun _ _ h => ⟨h.1, h.2.symm⟩
  have C7 : Hid (Calls Ebvg.prog 7 #[.string base, .slice (some ⟨b, off, none⟩) ss.length cap] w fun e w' => e = .returned (.int .i64 ((base.size + 8 * ss.length + tot ss : Nat) : Int)) ∧ w = w') := (selBytes base ss _ cap w hs h1).mono fun _ _ h => ⟨h.1, h.2.symm⟩
  have C8 : Hid (Calls Ebvg.prog 8 #[.slice (some ⟨b, off, none⟩) ss.length cap] w fun e w' => e = .returned (.slice (some ⟨w.heap.size, 0, none⟩) ss.length ss.length) ∧
      Rows5 w' w.heap.size ss ∧ Below w.heap.size w w' ∧ w.heap.size < w'.heap.size) := (copyStrs ss b off cap w hc hb h2).mono fun _ _ h => ⟨h.1, fun j hj => row_cell h.2.1 j hj, h.2.2, row_lt h.2.1⟩
  have HSZ : Hid (∀ k, (h : k < ss.length) → ss[k].size ≤ 1048576) := fun k h => by
    have e1 := tot_next ss k h
    have e2 := tot_take_le ss (k + 1)
    omega
  have H1 : Hid (base.size + ss.length + tot ss ≤ 1048576) := h1
  have hbs : base.size ≤ 1048576 := by omega
  obtain ⟨B, hB⟩ : ∃ B, B = w.heap.size := ⟨_, rfl⟩
  have HB : Hid (B = w.heap.size) := hB
  rw [← hB] at C8 ⊢
  clear hB hb hs hc
  obtain ⟨N, hNe⟩ : ∃ N, N = base.size + 8 * ss.length + tot ss := ⟨_, rfl⟩
  rw [← hNe] at C7 h3 h4
  clear hNe h1
  obtain ⟨n, hn⟩ : ∃ n, n = ss.length := ⟨_, rfl⟩
  have HN : Hid (n = ss.length) := hn
  rw [← hn] at C6 C7 C8 h2 h4 h8 ⊢
  clear hn
  have k4' : (n : Int) * (N : Int) ≤ 1073741824 := mul_le n N 1073741824 h4
  have k5' : ((n : Int) == 0) = false := by simp; omega
  have k6' : 0 ≤ (n : Int) * (N : Int) := Int.mul_nonneg (Int.natCast_nonneg n) (Int.natCast_nonneg N)
  clear h4
  go_enter Ebvg.func5, Ebvg.ntmps5
  go_wp2_with (first | (go_at_call 15; refine C6.out.mono ?_; rintro e w' ⟨rfl, rfl⟩) | (go_at_call 7; refine C7.out.mono ?_; rintro e w' ⟨rfl, rfl⟩) | (go_at_call 8; refine C8.out.mono ?_; rintro e w2 ⟨rfl, hS2, hb2, hl2⟩))
  clear C6 C7 C8 k4' k6'
  have h8s : 0 < ss.length := HN.out ▸ h8
  have hcs0 := hS2 0 h8s
  obtain ⟨s0, hs0⟩ : ∃ s0, s0 = ss[0]'h8s := ⟨_, rfl⟩
  rw [← hs0] at hcs0
  have hsz0 : s0.size ≤ 1048576 := by rw [hs0]; exact HSZ.out 0 h8s
  have HA : Hid (Rel5 w B bp base ss 1 (w2.heap.size + 1 + 1) (((w2.alloc (.cells #[.string s0, .int .i64 (bp + (base.size : Int) + 1), .string s0] 33)).alloc (.cells #[.string base, .int .i64 bp] 30)).alloc
      (.cells #[.iface 27 (.pointer (some ⟨w2.heap.size + 1, 0, none⟩)), .iface 31 (.pointer (some ⟨w2.heap.size, 0, none⟩))] 37)).drew) :=
    rel5_start h8s hs0 hS2 hb2 hl2 (first_a w2 base s0 bp _) ((((Stays.refl w2).alloc _).alloc _).alloc _).drew
      ((((Below.refl B w2).alloc (by omega) _).alloc (by rw [World.size_alloc]; omega) _).alloc (by rw [World.size_alloc, World.size_alloc]; omega) _).drew
  have HA' : Hid (Rel5 w B bp base ss 1 (w2.heap.size + 1 + 1) (((w2.alloc (.cells #[.string base, .int .i64 bp] 30)).alloc (.cells #[.string s0, .int .i64 (bp + (base.size : Int) + 1), .string s0] 33)).alloc
      (.cells #[.iface 27 (.pointer (some ⟨w2.heap.size, 0, none⟩)), .iface 31 (.pointer (some ⟨w2.heap.size + 1, 0, none⟩))] 37)).drew) :=
    rel5_start h8s hs0 hS2 hb2 hl2 (first_b w2 base s0 bp _) ((((Stays.refl w2).alloc _).alloc _).alloc _).drew
      ((((Below.refl B w2).alloc (by omega) _).alloc (by rw [World.size_alloc]; omega) _).alloc (by rw [World.size_alloc, World.size_alloc]; omega) _).drew
  have HS0 : Hid (s0 = ss[0]'h8s) := hs0
  clear hS2 hb2 hs0
  have h8' : (0 : Int) < (n : Int) := by omega
  go_cut [8] from 10 (fun v wc => ∃ g : Nat, v = .pointer (some ⟨g, 0, none⟩) ∧ Hid (Rel5 w B bp base ss 1 g wc))
  case first =>
    go_region
    all_goals
      go_wp2_with fail
      go_meet
      case rel => first | exact ⟨_, rfl, HA⟩ | exact ⟨_, rfl, HA'⟩
  case rest =>
    clear HA HA' hcs0 hl2
    obtain ⟨g0, rfl, HR0⟩ := hcut
    have hcs0 : wc.cell? ⟨B, 0, none⟩ = some (.string s0) := by rw [HS0.out]; exact HR0.out.2.1 0 h8s
    go_wp2_with fail
    have HP0 : Hid (bp + (base.size : Int) + 1 + (s0.size : Int) + 1 = posT bp base ss 1) := (by rw [posT_zero bp base ss, HS0.out]; exact posT_next bp base ss 0 h8s : bp + (base.size : Int) + 1 + (s0.size : Int) + 1 = posT bp base ss 1)
    go_loopg [7, 8, 9] n (fun r pv v i wr => ∃ (k g : Nat) (P : Int), 1 ≤ k ∧ k ≤ n ∧ n ≤ k + r ∧ i = .int .i64 k ∧ v = .pointer (some ⟨g, 0, none⟩) ∧ pv = .int .i64 P ∧ Hid (P = posT bp base ss k) ∧ Hid (Rel5 w B bp base ss k g wr))
    case atStart => exact ⟨1, g0, _, Nat.le_refl _, by omega, by omega, rfl, rfl, rfl, HP0, HR0⟩
    case round =>
      clear HR0 HP0 hcs0
      obtain ⟨k, g, P, hk1, hk, hgk, rfl, rfl, rfl, HP, HR⟩ := hrel
      have hbd := posT_bd bp base ss k (HN.out ▸ hk) H1.out h5 h6
      rw [← HP.out] at hbd
      obtain ⟨hP0, hP1⟩ := hbd
      by_cases hlt : k < n
      · have hks : k < ss.length := by have := HN.out; omega
        have hlI : (k : Int) < (n : Int) := by omega
        obtain ⟨s, hse⟩ : ∃ s, s = ss[k]'hks := ⟨_, rfl⟩
        have hss : s.size ≤ 1048576 := by rw [hse]; exact HSZ.out k hks
        have hcS0 : wr.cell? ⟨B, k, none⟩ = some (.string s) := by rw [hse]; exact HR.out.2.1 k hks
        have HR1 : Hid (Rel5 w B bp base ss (k + 1) (wr.heap.size + 1) ((wr.alloc (.cells #[.string s, .int .i64 P, .string s] 33)).alloc
          (.cells #[.iface 26 (.pointer (some ⟨g, 0, none⟩)), .iface 31 (.pointer (some ⟨wr.heap.size, 0, none⟩))] 37)).drew) := rel5_next hks hse HP.out HR.out
        have HPN : Hid (P + (s.size : Int) + 1 = posT bp base ss (k + 1)) := (by rw [HP.out, hse]; exact posT_next bp base ss k hks : P + (s.size : Int) + 1 = posT bp base ss (k + 1))
        have HSE : Hid (s = ss[k]'hks) := hse
        clear HR HP hse
        go_wp2_with fail
        go_cut [8] from 71 to 100 (fun v wc => ∃ g : Nat, v = .pointer (some ⟨g, 0, none⟩) ∧ Hid (Rel5 w B bp base ss (k + 1) g wc))
        case first =>
          go_region
          go_wp2_with fail
          go_meet
          case rel => exact ⟨_, rfl, HR1⟩
        case rest =>
          clear HR1 hcS0
          obtain ⟨g1, rfl, HR2⟩ := hcut
          have hcS0 : wc.cell? ⟨B, k, none⟩ = some (.string s) := by rw [HSE.out]; exact HR2.out.2.1 k hks
          go_wp2_with fail
          go_roundg (gk - 1)
          case measure => omega
          case rel => exact ⟨k + 1, g1, _, by omega, by omega, by omega, by go_num, rfl, rfl, HPN, HR2⟩
      · have hkn : n = ss.length := HN.out
        have ek : k = n := by omega
        subst ek
        obtain ⟨L, D, hL, hDL, c14, c13, c9⟩ := rel5_calls hkn h8 H1.out h5 h6 HR.out
        have C14 : Hid (∀ q, Calls Ebvg.prog 14 #[.pointer (some ⟨g, 0, none⟩)] (wr.drewN q) fun e w' => e = .returned (.int .i64 (bp + (L : Int))) ∧ ∃ m, w' = (wr.drewN q).drewN m) := c14
        have C13 : Hid (∀ q, Calls Ebvg.prog 13 #[.pointer (some ⟨g, 0, none⟩)] (wr.drewN q) fun e w' => e = .returned (.int .i64 bp) ∧ (wr.drewN q) = w') := c13
        have C9 : Hid (∀ q, Calls Ebvg.prog 9 #[.pointer (some ⟨g, 0, none⟩)] (wr.drewN q) fun e w' => e = .returned (.string D) ∧ ∃ m, w' = (wr.drewN q).drewN m) := c9
        have hbl := HR.out.2.2.1
        clear c14 c13 c9 HR HP hkn
        go_wp2_with (first | (go_at_call 14; refine (C14.out 0).mono ?_; rintro e w3 ⟨rfl, q, rfl⟩) | (go_at_call 13; refine (C13.out _).mono ?_; rintro e w4 ⟨rfl, rfl⟩) | (go_at_call 9; refine (C9.out _).mono ?_; rintro e w5 ⟨rfl, q5, rfl⟩))
        go_ret
        exact ⟨ret_bool (beq_iff_eq.2 (by omega)), ⟨hbl.os, hbl.tape, hbl.output, hbl.size, hbl.block⟩⟩

end Go.Proofs.Yoebvw
