/-
  FnSelectorPosEndAtEveryDepth (4): the main way.
-/
import Derived.Test.YoebvwRel4
import Derived.Deep.Cut
import Derived.Deep.CutRange
import Derived.Deep.LoopGhost
namespace Go.Proofs.Yoebvw
open Go.RowKit

set_option maxHeartbeats 3200000 in
set_option maxRecDepth 1000000 in
theorem law4_main (bp : Int) (base : ByteArray) (ss : List ByteArray) (zs : List Int) (b off cap b2 off2 cap2 : Nat) (w : World) (hc : ∀ j, (h : j < ss.length) → w.cell? ⟨b, off + j, none⟩ = some (.string ss[j]))
    (hci : ∀ j, (h : j < zs.length) → w.cell? ⟨b2, off2 + j, none⟩ = some (.int .i64 zs[j]))
    (h1 : base.size + ss.length + tot ss + zs.length ≤ 1048576) (h2 : ss.length ≤ 4096) (h4 : base.size + 8 * ss.length + tot ss + 8 * zs.length ≤ 1048576) (h5 : 0 ≤ bp) (h6 : bp ≤ 1073741824)
    (h7 : zs.length = ss.length) (h8 : 0 < ss.length) :
    Calls Ebvg.prog 4 #[.int .i64 bp, .string base, .slice (some ⟨b, off, none⟩) ss.length cap, .slice (some ⟨b2, off2, none⟩) zs.length cap2] w fun e w' => e = .returned (.bool true) ∧ Below w.heap.size w w' := by
  have hs : IsStrs w (some ⟨b, off, none⟩) ss := .inr ⟨b, off, rfl, hc⟩
  have hb : b < w.heap.size := World.block_lt_of_cell? _ _ (hc 0 h8)
  have hb2 : b2 < w.heap.size := World.block_lt_of_cell? _ _ (hci 0 (by omega))
  have C6 : Hid (Calls Ebvg.prog 11 #[.int .i64 bp, .string base, .slice (some ⟨b, off, none⟩) ss.length cap, .slice (some ⟨b2, off2, none⟩) zs.length cap2] w fun e w' => e = .returned (.bool true) ∧ w = w') := by
    have := bound11 bp base ss (some ⟨b, off, none⟩) cap (some ⟨b2, off2, none⟩) zs.length cap2 w hs
    rw [okB_true h1] at this
    exact this.mono fun _ _ h => ⟨h.1, h.2.symm⟩
  have C7 : Hid (Calls Ebvg.prog 7 #[.string base, .slice (some ⟨b, off, none⟩) ss.length cap] w fun e w' => e = .returned (.int .i64 ((base.size + 8 * ss.length + tot ss : Nat) : Int)) ∧ w = w') := (selBytes base ss _ cap w hs (by omega)).mono fun _ _ h => ⟨h.1, h.2.symm⟩
  have C8 : Hid (Calls Ebvg.prog 8 #[.slice (some ⟨b, off, none⟩) ss.length cap] w fun e w' => e = .returned (.slice (some ⟨w.heap.size, 0, none⟩) ss.length ss.length) ∧
      SRow w' w.heap.size ss ∧ Below w.heap.size w w' ∧ w.heap.size < w'.heap.size) := (copyStrs ss b off cap w hc hb h2).mono fun _ _ h => ⟨h.1, fun j hj => row_cell h.2.1 j hj, h.2.2, row_lt h.2.1⟩
  have C12 : Hid (∀ w1, SRow w1 w.heap.size ss → Below w.heap.size w w1 → w.heap.size < w1.heap.size → Calls Ebvg.prog 12 #[.slice (some ⟨b2, off2, none⟩) zs.length cap2] w1 fun e w' => ∃ B2, e = .returned (.slice (some ⟨B2, 0, none⟩) zs.length zs.length) ∧
      SRow w' w.heap.size ss ∧ IRow w' B2 zs ∧ Below w.heap.size w w' ∧ w.heap.size < w'.heap.size) := fun w1 r1 r2 r3 =>
    (copyInts zs b2 off2 cap2 w1 (fun j hj => (r2.cell (p := ⟨b2, off2 + j, none⟩) hb2).trans (hci j hj)) (by omega) (by omega)).mono fun _ _ h =>
      ⟨_, h.1, fun j hj => Stays.below h.2.2 _ _ (r1 j hj), irow_of h.2.1, r2.trans (h.2.2.mono (Nat.le_of_lt r3)), Nat.lt_of_lt_of_le r3 h.2.2.size⟩
  have hszs : ∀ k, (h : k < ss.length) → ss[k].size ≤ 1048576 := fun k h => by
    have e1 := tot_next ss k h
    have e2 := tot_take_le ss (k + 1)
    omega
  have HSZ : Hid (∀ k, (h : k < ss.length) → ss[k].size ≤ 1048576) := hszs
  obtain ⟨B, hB⟩ : ∃ B, B = w.heap.size := ⟨_, rfl⟩
  have HB : Hid (B = w.heap.size) := hB
  rw [← hB] at C8 C12 ⊢
  clear hB hb hb2 hs hc hszs
  obtain ⟨N, hNe⟩ : ∃ N, N = base.size + 8 * ss.length + tot ss := ⟨_, rfl⟩
  rw [← hNe] at C7 h4
  clear hNe h1
  rw [h7] at C6 C12 h4 ⊢
  have HZ : Hid (zs.length = ss.length) := h7
  clear h7
  obtain ⟨n, hn⟩ : ∃ n, n = ss.length := ⟨_, rfl⟩
  have HN : Hid (n = ss.length) := hn
  rw [← hn] at C6 C7 C8 C12 h2 h4 h8 ⊢
  clear hn
  go_enter Ebvg.func4, Ebvg.ntmps4
  go_wp2_with (first | (go_at_call 11; refine C6.out.mono ?_; rintro e w' ⟨rfl, rfl⟩) | (go_at_call 7; refine C7.out.mono ?_; rintro e w' ⟨rfl, rfl⟩))
  clear C6 C7
  go_loop [9] (fun i => ∃ k : Nat, k ≤ n ∧ i = .int .i64 k ∧ Hid (∀ j, (h : j < zs.length) → j < k → 0 ≤ zs[j] ∧ zs[j] ≤ 1073741824)) (fun i => n - (intOf i).toNat)
  case atStart => exact ⟨0, Nat.zero_le _, rfl, fun j h hj => absurd hj (Nat.not_lt_zero j)⟩
  case round =>
    obtain ⟨k, hk, rfl, HP⟩ := hrel
    by_cases hlt : k < n
    · have hkz : k < zs.length := by have := HN.out; have := HZ.out; omega
      have hcell := hci k hkz
      obtain ⟨z, hze⟩ : ∃ z, z = zs[k]'hkz := ⟨_, rfl⟩
      rw [← hze] at hcell
      have HE : Hid (z = zs[k]'hkz) := hze
      clear hze hci
      have hlI : (k : Int) < (n : Int) := by omega
      by_cases g1 : z < 0
      · go_wp2_with fail
        go_ret
        exact ⟨rfl, Below.refl _ _⟩
      · by_cases g2 : 1073741824 < z
        · go_wp2_with fail
          go_ret
          exact ⟨rfl, Below.refl _ _⟩
        · go_wp2_with fail
          go_round
          case rel =>
            refine ⟨k + 1, by omega, by go_num, fun j h hj => ?_⟩
            by_cases hjk : j = k
            · subst hjk
              rw [← HE.out]
              omega
            · exact HP.out j h (by omega)
          case measure => simp [intOf]; omega
    · have hkn : k = n := by omega
      have HP' : Hid (∀ j, (h : j < zs.length) → 0 ≤ zs[j] ∧ zs[j] ≤ 1073741824) := fun j h => HP.out j h (by have := HN.out; have := HZ.out; omega)
      clear HP hci
      have g0 : ((n : Int) == 0) = false := by simp; omega
      go_wp2_with (first | (go_at_call 8; refine C8.out.mono ?_; rintro e w1 ⟨rfl, HS1, HB1, HL1⟩) | (go_at_call 12; refine (C12.out _ ‹_› ‹_› ‹_›).mono ?_; rintro e w2 ⟨B2, rfl, hS2, hI2, hb2, hl2⟩))
      clear C8 C12 hkn hlt hk
      have h8s : 0 < ss.length := HN.out ▸ h8
      have h8z : 0 < zs.length := by have := HZ.out; omega
      have hcs0 := hS2 0 h8s
      have hcz0 := hI2 0 h8z
      obtain ⟨s0, hs0⟩ : ∃ s0, s0 = ss[0]'h8s := ⟨_, rfl⟩
      obtain ⟨z0, hz0⟩ : ∃ z0, z0 = zs[0]'h8z := ⟨_, rfl⟩
      rw [← hs0] at hcs0
      rw [← hz0] at hcz0
      have HA : Hid (Rel4 w B B2 bp base ss zs 1 (w2.heap.size + 1 + 1) (((w2.alloc (.cells #[.string s0, .int .i64 z0, .string s0] 33)).alloc (.cells #[.string base, .int .i64 bp] 30)).alloc
          (.cells #[.iface 27 (.pointer (some ⟨w2.heap.size + 1, 0, none⟩)), .iface 31 (.pointer (some ⟨w2.heap.size, 0, none⟩))] 37)).drew) :=
        rel4_start h8s h8z hs0 hz0 hS2 hI2 hb2 hl2 (first_a w2 base s0 bp z0) ((((Stays.refl w2).alloc _).alloc _).alloc _).drew
          ((((Below.refl B w2).alloc (by omega) _).alloc (by rw [World.size_alloc]; omega) _).alloc (by rw [World.size_alloc, World.size_alloc]; omega) _).drew
      have HA' : Hid (Rel4 w B B2 bp base ss zs 1 (w2.heap.size + 1 + 1) (((w2.alloc (.cells #[.string base, .int .i64 bp] 30)).alloc (.cells #[.string s0, .int .i64 z0, .string s0] 33)).alloc
          (.cells #[.iface 27 (.pointer (some ⟨w2.heap.size, 0, none⟩)), .iface 31 (.pointer (some ⟨w2.heap.size + 1, 0, none⟩))] 37)).drew) :=
        rel4_start h8s h8z hs0 hz0 hS2 hI2 hb2 hl2 (first_b w2 base s0 bp z0) ((((Stays.refl w2).alloc _).alloc _).alloc _).drew
          ((((Below.refl B w2).alloc (by omega) _).alloc (by rw [World.size_alloc]; omega) _).alloc (by rw [World.size_alloc, World.size_alloc]; omega) _).drew
      have hl3 : B2 < w2.heap.size := World.block_lt_of_cell? _ _ hcz0
      clear hS2 hI2 hb2 hs0 hz0 HS1 HB1 HL1
      have h8' : (0 : Int) < (n : Int) := by omega
      go_cut [10] from 12 (fun v wc => ∃ g : Nat, v = .pointer (some ⟨g, 0, none⟩) ∧ Hid (Rel4 w B B2 bp base ss zs 1 g wc))
      case first =>
        go_region
        all_goals
          go_wp2_with fail
          go_meet
          case rel => first | exact ⟨_, rfl, HA⟩ | exact ⟨_, rfl, HA'⟩
      case rest =>
        clear HA HA' hcs0 hcz0 hl2 hl3
        obtain ⟨g0, rfl, HR0⟩ := hcut
        go_wp2_with fail
        go_loopg [10, 11] n (fun r v i wr => ∃ k g : Nat, k ≤ n ∧ n ≤ k + r ∧ i = .int .i64 k ∧ v = .pointer (some ⟨g, 0, none⟩) ∧ Hid (Rel4 w B B2 bp base ss zs (max 1 k) g wr))
        case atStart => exact ⟨0, g0, Nat.zero_le _, by omega, rfl, rfl, HR0⟩
        case round =>
          clear HR0
          obtain ⟨k, g, hk, hgk, rfl, rfl, HR⟩ := hrel
          by_cases hlt : k < n
          · have hks : k < ss.length := by have := HN.out; omega
            have hkz : k < zs.length := by have := HZ.out; omega
            have hlI : (k : Int) < (n : Int) := by omega
            go_upto_if 100 with fail
            go_cut [10] from 93 to 136 (fun v wc => ∃ g : Nat, v = .pointer (some ⟨g, 0, none⟩) ∧ Hid (Rel4 w B B2 bp base ss zs (k + 1) g wc))
            case first =>
              by_cases k0 : k = 0
              · subst k0
                go_wp2_with fail
                go_meet
                case rel => exact ⟨g, rfl, HR⟩
              · have hpos : (0 : Int) < (k : Int) := by omega
                have hRk : Rel4 w B B2 bp base ss zs k g wr := by
                  have := HR.out
                  rw [Nat.max_eq_right (by omega)] at this
                  exact this
                obtain ⟨s, hse⟩ : ∃ s, s = ss[k]'hks := ⟨_, rfl⟩
                obtain ⟨z, hze⟩ : ∃ z, z = zs[k]'hkz := ⟨_, rfl⟩
                have hcS0 : wr.cell? ⟨B, k, none⟩ = some (.string s) := by rw [hse]; exact hRk.2.1 k hks
                have hcI0 : wr.cell? ⟨B2, k, none⟩ = some (.int .i64 z) := by rw [hze]; exact hRk.2.2.1 k hkz
                have HR1 : Hid (Rel4 w B B2 bp base ss zs (k + 1) (wr.heap.size + 1) ((wr.alloc (.cells #[.string s, .int .i64 z, .string s] 33)).alloc
                  (.cells #[.iface 26 (.pointer (some ⟨g, 0, none⟩)), .iface 31 (.pointer (some ⟨wr.heap.size, 0, none⟩))] 37)).drew) := rel4_next hks hkz hse hze hRk
                clear hRk HR hse hze HP' HSZ
                go_wp2_with fail
                go_region
                go_wp2_with fail
                go_meet
                case rel => exact ⟨_, rfl, HR1⟩
            case rest =>
              clear HR
              obtain ⟨g1, rfl, HR1⟩ := hcut
              obtain ⟨s, hse⟩ : ∃ s, s = ss[k]'hks := ⟨_, rfl⟩
              obtain ⟨z, hze⟩ : ∃ z, z = zs[k]'hkz := ⟨_, rfl⟩
              have hss : s.size ≤ 1048576 := by rw [hse]; exact HSZ.out k hks
              have hzz := HP'.out k hkz
              rw [← hze] at hzz
              obtain ⟨hz0, hz1⟩ := hzz
              have R := rel4_calls hks hkz hse hze HR1.out hz0 (by omega)
              have hcS : wc.cell? ⟨B, k, none⟩ = some (.string s) := R.1
              have hcI : wc.cell? ⟨B2, k, none⟩ = some (.int .i64 z) := R.2.1
              have C13 : Hid (Calls Ebvg.prog 13 #[.pointer (some ⟨g1, 0, none⟩)] wc fun e w' => e = .returned (.int .i64 bp) ∧ wc = w') := R.2.2.1
              have C14 : Hid (∀ q, Calls Ebvg.prog 14 #[.pointer (some ⟨g1, 0, none⟩)] (wc.drewN q) fun e w' => e = .returned (.int .i64 (z + (s.size : Int))) ∧ ∃ m, w' = (wc.drewN q).drewN m) := R.2.2.2
              have HX : Hid (∀ q, Rel4 w B B2 bp base ss zs (max 1 (k + 1)) g1 (wc.drewN q)) := fun q => rel4_drewN q (by rw [Nat.max_eq_right (by omega)]; exact HR1.out)
              clear R hse hze HR1 HP' HSZ
              go_wp2_with (go_at_call 13; refine C13.out.mono ?_; rintro e w' ⟨rfl, rfl⟩)
              go_quiet ((go_at_call 14; exact Calls.quiet_of (C14.out _)))
              go_wp2_with fail
              go_roundg (gk - 1)
              case measure => omega
              case rel => exact ⟨k + 1, g1, by omega, by omega, by go_num, rfl, HX.out _⟩
          · have hbl := HR.out.2.2.2.1
            clear HR
            go_wp2_with fail
            go_ret
            exact ⟨rfl, hbl⟩

end Go.Proofs.Yoebvw
