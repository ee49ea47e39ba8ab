/-
  FnSelectorPosEndAtEveryDepth (4): the way through the test of the positions, where the lengths part or are zero.
-/
import Derived.Test.YoebvwLaw4
namespace Go.Proofs.Yoebvw
open Go.RowKit

set_option maxHeartbeats 800000 in
theorem law4_mid (bp : Int) (base : ByteArray) (ss : List ByteArray) (zs : List Int) (ao : Option Addr) (cap : Nat) (ap : Option Addr) (cap2 : Nat) (w : World) (hs : IsStrs w ao ss) (hz : IsInts w ap zs)
    (h1 : base.size + ss.length + tot ss + zs.length ≤ 1048576) (h2 : ss.length ≤ 4096) (h3 : zs.length ≤ 4096) (h4 : base.size + 8 * ss.length + tot ss + 8 * zs.length ≤ 1048576) (h5 : 0 ≤ bp) (h6 : bp ≤ 1073741824)
    (h7 : ¬ zs.length = ss.length ∨ ss.length = 0) :
    Calls Ebvg.prog 4 #[.int .i64 bp, .string base, .slice ao ss.length cap, .slice ap zs.length cap2] w fun e w' => e = .returned (.bool true) ∧ w = w' := by
  have C6 : Hid (Calls Ebvg.prog 11 #[.int .i64 bp, .string base, .slice ao ss.length cap, .slice ap zs.length cap2] w fun e w' => e = .returned (.bool true) ∧ w = w') := by
    have := bound11 bp base ss ao cap ap zs.length cap2 w hs
    rw [okB_true h1] at this
    exact this.mono fun _ _ h => ⟨h.1, h.2.symm⟩
  have C7 : Hid (Calls Ebvg.prog 7 #[.string base, .slice ao ss.length cap] w fun e w' => e = .returned (.int .i64 ((base.size + 8 * ss.length + tot ss : Nat) : Int)) ∧ w = w') := (selBytes base ss _ cap w hs (by omega)).mono fun _ _ h => ⟨h.1, h.2.symm⟩
  obtain ⟨N, hNe⟩ : ∃ N, N = base.size + 8 * ss.length + tot ss := ⟨_, rfl⟩
  rw [← hNe] at C7 h4
  clear hNe hs h1
  obtain ⟨n, hn⟩ : ∃ n, n = ss.length := ⟨_, rfl⟩
  rw [← hn] at C6 C7 h2 h7 ⊢
  clear hn
  obtain ⟨m, hm⟩ : ∃ m, m = zs.length := ⟨_, rfl⟩
  have HM : Hid (m = zs.length) := hm
  rw [← hm] at C6 h3 h4 h7 ⊢
  clear hm
  rcases hz with h0 | ⟨b, off, rfl, hc⟩
  · have hm0 : m = 0 := by rw [HM.out, h0]; rfl
    subst hm0
    go_enter Ebvg.func4, Ebvg.ntmps4
    go_wp2_with (first | (go_at_call 11; refine C6.out.mono ?_; rintro e w' ⟨rfl, rfl⟩) | (go_at_call 7; refine C7.out.mono ?_; rintro e w' ⟨rfl, rfl⟩))
    refine wp_loop_rounds 1 ?_
    rw [rounds_succ]
    by_cases g : n = 0
    · subst g
      go_wp2_with fail
      go_ret
      exact ⟨rfl, rfl⟩
    · have g1 : ((0 : Int) != (n : Int)) = true := by simp; omega
      go_wp2_with fail
      go_ret
      exact ⟨rfl, rfl⟩
  · go_enter Ebvg.func4, Ebvg.ntmps4
    go_wp2_with (first | (go_at_call 11; refine C6.out.mono ?_; rintro e w' ⟨rfl, rfl⟩) | (go_at_call 7; refine C7.out.mono ?_; rintro e w' ⟨rfl, rfl⟩))
    go_loop [9] (fun i => ∃ k : Nat, k ≤ m ∧ i = .int .i64 k) (fun i => m - (intOf i).toNat)
    case atStart => exact ⟨0, Nat.zero_le _, rfl⟩
    case round =>
      obtain ⟨k, hk, rfl⟩ := hrel
      clear C6 C7
      by_cases hlt : k < m
      · have hcell := hc k (HM.out ▸ hlt)
        obtain ⟨z, hze⟩ : ∃ z, z = zs[k]'(HM.out ▸ hlt) := ⟨_, rfl⟩
        rw [← hze] at hcell
        clear hze hc
        have hlI : (k : Int) < (m : Int) := by omega
        by_cases g1 : z < 0
        · go_wp2_with fail
          go_ret
          exact ⟨rfl, rfl⟩
        · by_cases g2 : 1073741824 < z
          · go_wp2_with fail
            go_ret
            exact ⟨rfl, rfl⟩
          · go_wp2_with fail
            go_round
            case rel => exact ⟨k + 1, by omega, by go_num⟩
            case measure => simp [intOf]; omega
      · clear hc
        by_cases g : m = n
        · have hn0 : n = 0 := by omega
          subst hn0
          subst g
          go_wp2_with fail
          go_ret
          exact ⟨rfl, rfl⟩
        · have g1 : ((m : Int) != (n : Int)) = true := by simp; omega
          go_wp2_with fail
          go_ret
          exact ⟨rfl, rfl⟩

end Go.Proofs.Yoebvw
