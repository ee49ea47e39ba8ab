/-
  FnSelectorTightSpanMatchesText (5): the early ways.
-/
import Derived.Test.YoebvwBound15
import Derived.Test.YoebvwCopyS
import Derived.Test.YoebvwBuild
import Derived.RegionTactic
import Derived.BigRegion
namespace Go.Proofs.Yoebvw
open Go.RowKit

set_option maxHeartbeats 800000 in
theorem law5_out (bp : Int) (base : ByteArray) (ss : List ByteArray) (ao : Option Addr) (cap : Nat) (w : World) (hs : IsStrs w ao ss)
    (h : 1048576 < base.size + ss.length + tot ss ∨ 4096 < ss.length ∨ 1048576 < base.size + 8 * ss.length + tot ss ∨ 1073741824 < ss.length * (base.size + 8 * ss.length + tot ss) ∨ bp < 0 ∨ 1073741824 < bp ∨ ss.length = 0) :
    Calls Ebvg.prog 5 #[.int .i64 bp, .string base, .slice ao ss.length cap] w fun e w' => e = .returned (.bool true) ∧ w' = w := by
  have C6 : Hid (∀ w, IsStrs w ao ss → Calls Ebvg.prog 15 #[.int .i64 bp, .string base, .slice ao ss.length cap] w fun e w' => e = .returned (.bool (okB (base.size + ss.length + tot ss))) ∧ w' = w) := fun w h => bound15 bp base ss ao cap w h
  by_cases h1 : 1048576 < base.size + ss.length + tot ss
  · rw [okB_false h1] at C6
    have HS : Hid (IsStrs w ao ss) := hs
    clear h h1 hs
    obtain ⟨n, hn⟩ : ∃ n, n = ss.length := ⟨_, rfl⟩
    rw [← hn] at C6 ⊢
    clear hn
    go_enter Ebvg.func5, Ebvg.ntmps5
    go_wp2_with (go_at_call 15; refine (C6.out _ HS.out).mono ?_; rintro e w' ⟨rfl, rfl⟩)
    go_ret
    exact ⟨rfl, rfl⟩
  · rw [okB_true (by omega)] at C6
    have C7 : Hid (∀ w, IsStrs w ao ss → Calls Ebvg.prog 7 #[.string base, .slice ao ss.length cap] w fun e w' => e = .returned (.int .i64 ((base.size + 8 * ss.length + tot ss : Nat) : Int)) ∧ w' = w) := fun w h => selBytes base ss ao cap w h (by omega)
    have HS : Hid (IsStrs w ao ss) := hs
    have hN : base.size + 8 * ss.length + tot ss ≤ 8388608 := by omega
    have h' : 4096 < ss.length ∨ 1048576 < base.size + 8 * ss.length + tot ss ∨ 1073741824 < ss.length * (base.size + 8 * ss.length + tot ss) ∨ bp < 0 ∨ 1073741824 < bp ∨ ss.length = 0 := by
      rcases h with h | h
      · exact absurd h h1
      · exact h
    clear h h1 hs
    obtain ⟨N, hNe⟩ : ∃ N, N = base.size + 8 * ss.length + tot ss := ⟨_, rfl⟩
    rw [← hNe] at C7 hN h'
    clear hNe
    obtain ⟨n, hn⟩ : ∃ n, n = ss.length := ⟨_, rfl⟩
    rw [← hn] at C6 C7 h' ⊢
    clear hn
    by_cases k1 : 4096 < n
    · have k1' : (4096 : Int) < (n : Int) := by omega
      clear h'
      go_enter Ebvg.func5, Ebvg.ntmps5
      go_wp2_with (go_at_call 15; refine (C6.out _ HS.out).mono ?_; rintro e w' ⟨rfl, rfl⟩)
      go_ret
      exact ⟨rfl, rfl⟩
    · have k1' : ¬ (4096 : Int) < (n : Int) := by omega
      by_cases k2 : 1048576 < N
      · have k2' : (1048576 : Int) < (N : Int) := by omega
        clear h'
        go_enter Ebvg.func5, Ebvg.ntmps5
        go_wp2_with (first | (go_at_call 15; refine (C6.out _ HS.out).mono ?_; rintro e w' ⟨rfl, rfl⟩) | (go_at_call 7; refine (C7.out _ HS.out).mono ?_; rintro e w' ⟨rfl, rfl⟩))
        go_ret
        exact ⟨rfl, rfl⟩
      · have k2' : ¬ (1048576 : Int) < (N : Int) := by omega
        have hmul : n * N ≤ 4294967296 := Nat.mul_le_mul (show n ≤ 4096 by omega) (show N ≤ 1048576 by omega)
        by_cases k3 : 1073741824 < n * N
        · have k3' : (1073741824 : Int) < (n : Int) * (N : Int) := mul_gt n N 1073741824 k3
          have k4' : (n : Int) * (N : Int) ≤ 4294967296 := mul_le n N 4294967296 hmul
          clear h' k3 hmul
          go_enter Ebvg.func5, Ebvg.ntmps5
          go_wp2_with (first | (go_at_call 15; refine (C6.out _ HS.out).mono ?_; rintro e w' ⟨rfl, rfl⟩) | (go_at_call 7; refine (C7.out _ HS.out).mono ?_; rintro e w' ⟨rfl, rfl⟩))
          go_ret
          exact ⟨rfl, rfl⟩
        · have k4' : (n : Int) * (N : Int) ≤ 1073741824 := mul_le n N 1073741824 (by omega)
          have k6' : 0 ≤ (n : Int) * (N : Int) := Int.mul_nonneg (Int.natCast_nonneg n) (Int.natCast_nonneg N)
          have h'' : bp < 0 ∨ 1073741824 < bp ∨ n = 0 := by
            rcases h' with h | h | h | h
            · exact absurd h k1
            · exact absurd h k2
            · exact absurd h k3
            · exact h
          clear h' k3 hmul
          by_cases k7 : bp < 0
          · clear h''
            go_enter Ebvg.func5, Ebvg.ntmps5
            go_wp2_with (first | (go_at_call 15; refine (C6.out _ HS.out).mono ?_; rintro e w' ⟨rfl, rfl⟩) | (go_at_call 7; refine (C7.out _ HS.out).mono ?_; rintro e w' ⟨rfl, rfl⟩))
            go_ret
            exact ⟨rfl, rfl⟩
          · by_cases k8 : 1073741824 < bp
            · clear h''
              go_enter Ebvg.func5, Ebvg.ntmps5
              go_wp2_with (first | (go_at_call 15; refine (C6.out _ HS.out).mono ?_; rintro e w' ⟨rfl, rfl⟩) | (go_at_call 7; refine (C7.out _ HS.out).mono ?_; rintro e w' ⟨rfl, rfl⟩))
              go_ret
              exact ⟨rfl, rfl⟩
            · have hn0 : n = 0 := by omega
              subst hn0
              clear h''
              go_enter Ebvg.func5, Ebvg.ntmps5
              go_wp2_with (first | (go_at_call 15; refine (C6.out _ HS.out).mono ?_; rintro e w' ⟨rfl, rfl⟩) | (go_at_call 7; refine (C7.out _ HS.out).mono ?_; rintro e w' ⟨rfl, rfl⟩))
              go_ret
              exact ⟨rfl, rfl⟩

end Go.Proofs.Yoebvw
