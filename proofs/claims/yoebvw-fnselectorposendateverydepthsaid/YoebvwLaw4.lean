/-
  FnSelectorPosEndAtEveryDepth (4): the early ways.
-/
import Derived.Test.YoebvwBound11
import Derived.Test.YoebvwCopyI
import Derived.Test.YoebvwBuild
import Derived.RegionTactic
import Derived.BigRegion
namespace Go.Proofs.Yoebvw
open Go.RowKit

set_option maxHeartbeats 800000 in
theorem law4_out (bp : Int) (base : ByteArray) (ss : List ByteArray) (ao : Option Addr) (cap : Nat) (ap : Option Addr) (m cap2 : Nat) (w : World) (hs : IsStrs w ao ss)
    (h : 1048576 < base.size + ss.length + tot ss + m ∨ 4096 < ss.length ∨ 4096 < m ∨ 1048576 < base.size + 8 * ss.length + tot ss + 8 * m ∨ bp < 0 ∨ 1073741824 < bp) :
    Calls Ebvg.prog 4 #[.int .i64 bp, .string base, .slice ao ss.length cap, .slice ap m cap2] w fun e w' => e = .returned (.bool true) ∧ w' = w := by
  have C6 : Hid (∀ w, IsStrs w ao ss → Calls Ebvg.prog 11 #[.int .i64 bp, .string base, .slice ao ss.length cap, .slice ap m cap2] w fun e w' => e = .returned (.bool (okB (base.size + ss.length + tot ss + m))) ∧ w' = w) := fun w h => bound11 bp base ss ao cap ap m cap2 w h
  by_cases h1 : 1048576 < base.size + ss.length + tot ss + m
  · rw [okB_false h1] at C6
    have HS : Hid (IsStrs w ao ss) := hs
    clear h h1 hs
    obtain ⟨n, hn⟩ : ∃ n, n = ss.length := ⟨_, rfl⟩
    rw [← hn] at C6 ⊢
    clear hn
    go_enter Ebvg.func4, Ebvg.ntmps4
    go_wp2_with (go_at_call 11; refine (C6.out _ HS.out).mono ?_; rintro e w' ⟨rfl, rfl⟩)
    go_ret
    exact ⟨rfl, rfl⟩
  · rw [okB_true (by omega)] at C6
    have C7 : Hid (∀ w, IsStrs w ao ss → Calls Ebvg.prog 7 #[.string base, .slice ao ss.length cap] w fun e w' => e = .returned (.int .i64 ((base.size + 8 * ss.length + tot ss : Nat) : Int)) ∧ w' = w) := fun w h => selBytes base ss ao cap w h (by omega)
    have HS : Hid (IsStrs w ao ss) := hs
    have hN : base.size + 8 * ss.length + tot ss ≤ 8388608 := by omega
    have h' : 4096 < ss.length ∨ 4096 < m ∨ 1048576 < base.size + 8 * ss.length + tot ss + 8 * m ∨ bp < 0 ∨ 1073741824 < bp := by
      rcases h with h | h
      · exact absurd h h1
      · exact h
    clear h h1 hs
    obtain ⟨N, hNe⟩ : ∃ N, N = base.size + 8 * ss.length + tot ss := ⟨_, rfl⟩
    rw [← hNe] at C7 hN h'
    clear hNe
    obtain ⟨n, hn⟩ : ∃ n, n = ss.length := ⟨_, rfl⟩
    rw [← hn] at C6 C7 h' ⊢
    clear hn
    by_cases k1 : 4096 < n
    · have k1' : (4096 : Int) < (n : Int) := by omega
      clear h'
      go_enter Ebvg.func4, Ebvg.ntmps4
      go_wp2_with (go_at_call 11; refine (C6.out _ HS.out).mono ?_; rintro e w' ⟨rfl, rfl⟩)
      go_ret
      exact ⟨rfl, rfl⟩
    · have k1' : ¬ (4096 : Int) < (n : Int) := by omega
      by_cases k2 : 4096 < m
      · have k2' : (4096 : Int) < (m : Int) := by omega
        clear h'
        go_enter Ebvg.func4, Ebvg.ntmps4
        go_wp2_with (go_at_call 11; refine (C6.out _ HS.out).mono ?_; rintro e w' ⟨rfl, rfl⟩)
        go_ret
        exact ⟨rfl, rfl⟩
      · have k2' : ¬ (4096 : Int) < (m : Int) := by omega
        by_cases k3 : 1048576 < N + 8 * m
        · have k3' : (1048576 : Int) < (N : Int) + 8 * (m : Int) := by omega
          clear h'
          go_enter Ebvg.func4, Ebvg.ntmps4
          go_wp2_with (first | (go_at_call 11; refine (C6.out _ HS.out).mono ?_; rintro e w' ⟨rfl, rfl⟩) | (go_at_call 7; refine (C7.out _ HS.out).mono ?_; rintro e w' ⟨rfl, rfl⟩))
          go_ret
          exact ⟨rfl, rfl⟩
        · have k3' : ¬ (1048576 : Int) < (N : Int) + 8 * (m : Int) := by omega
          by_cases k4 : bp < 0
          · clear h'
            go_enter Ebvg.func4, Ebvg.ntmps4
            go_wp2_with (first | (go_at_call 11; refine (C6.out _ HS.out).mono ?_; rintro e w' ⟨rfl, rfl⟩) | (go_at_call 7; refine (C7.out _ HS.out).mono ?_; rintro e w' ⟨rfl, rfl⟩))
            go_ret
            exact ⟨rfl, rfl⟩
          · have k5 : 1073741824 < bp := by omega
            clear h'
            go_enter Ebvg.func4, Ebvg.ntmps4
            go_wp2_with (first | (go_at_call 11; refine (C6.out _ HS.out).mono ?_; rintro e w' ⟨rfl, rfl⟩) | (go_at_call 7; refine (C7.out _ HS.out).mono ?_; rintro e w' ⟨rfl, rfl⟩))
            go_ret
            exact ⟨rfl, rfl⟩

end Go.Proofs.Yoebvw
