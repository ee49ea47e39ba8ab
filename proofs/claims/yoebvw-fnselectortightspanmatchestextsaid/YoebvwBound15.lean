/-
  zzBytes_FnSelectorTightSpanMatchesText (15): is the sum of the lengths within 1048576?
-/
import Derived.Test.YoebvwBytes
namespace Go.Proofs.Yoebvw
open Go.RowKit

set_option maxHeartbeats 400000 in
theorem bound15_early (bp : Int) (base : ByteArray) (n : Nat) (ao : Option Addr) (cap : Nat) (w : World) (hb : 1048576 < base.size + n) :
    Calls Ebvg.prog 15 #[.int .i64 bp, .string base, .slice ao n cap] w fun e w' => e = .returned (.bool false) ∧ w' = w := by
  by_cases h1 : 1048576 < base.size
  · have h1' : (1048576 : Int) < (base.size : Int) := by omega
    go_enter Ebvg.func15, Ebvg.ntmps15
    go_wp2
    go_ret
    exact ⟨rfl, rfl⟩
  · have h1' : ¬ (1048576 : Int) < (base.size : Int) := by omega
    by_cases h2 : 1048576 < n
    · have h2' : (1048576 : Int) < (n : Int) := by omega
      go_enter Ebvg.func15, Ebvg.ntmps15
      go_wp2
      go_ret
      exact ⟨rfl, rfl⟩
    · have h2' : ¬ (1048576 : Int) < (n : Int) := by omega
      have h3 : (1048576 : Int) < (base.size : Int) + (n : Int) := by omega
      go_enter Ebvg.func15, Ebvg.ntmps15
      go_wp2
      go_ret
      exact ⟨rfl, rfl⟩

set_option maxHeartbeats 800000 in
theorem bound15_late (bp : Int) (base : ByteArray) (ss : List ByteArray) (ao : Option Addr) (cap : Nat) (w : World) (hs : IsStrs w ao ss) (hb : base.size + ss.length ≤ 1048576) :
    Calls Ebvg.prog 15 #[.int .i64 bp, .string base, .slice ao ss.length cap] w fun e w' => e = .returned (.bool (okB (base.size + ss.length + tot ss))) ∧ w' = w := by
  obtain ⟨n, hn⟩ : ∃ n, n = ss.length := ⟨_, rfl⟩
  have HN : Hid (n = ss.length) := hn
  rw [← hn] at hb ⊢
  clear hn
  have h1' : ¬ (1048576 : Int) < (base.size : Int) := by omega
  have h2' : ¬ (1048576 : Int) < (n : Int) := by omega
  have h3 : ¬ (1048576 : Int) < (base.size : Int) + (n : Int) := by omega
  rcases hs with h0 | ⟨b, off, rfl, hc⟩
  · have hn0 : n = 0 := by rw [HN.out, h0]; rfl
    subst hn0
    subst h0
    clear HN
    go_enter Ebvg.func15, Ebvg.ntmps15
    go_wp2
    refine wp_loop_rounds 1 ?_
    rw [rounds_succ]
    go_wp2
    go_ret
    exact ⟨ret_bool (okB_true (by simp [tot]; omega)).symm, rfl⟩
  · go_enter Ebvg.func15, Ebvg.ntmps15
    go_wp2
    go_loop [7, 8] (fun t i => ∃ k : Nat, k ≤ n ∧ i = .int .i64 k ∧ base.size + n + tot (ss.take k) ≤ 1048576 ∧ t = .int .i64 ((base.size + n + tot (ss.take k) : Nat) : Int)) (fun _ i => n - (intOf i).toNat)
    case atStart => exact ⟨0, Nat.zero_le _, rfl, by simpa [tot] using hb, by simp [tot]⟩
    case round =>
      obtain ⟨k, hk, rfl, hle, rfl⟩ := hrel
      obtain ⟨T, hT⟩ : ∃ T, T = tot (ss.take k) := ⟨_, rfl⟩
      rw [← hT] at hle
      by_cases hlt : k < n
      · have hcell := hc k (HN.out ▸ hlt)
        have hnx := tot_next ss k (HN.out ▸ hlt)
        have hle2 := tot_take_le ss (k + 1)
        obtain ⟨s, hse⟩ : ∃ s, s = ss[k]'(HN.out ▸ hlt) := ⟨_, rfl⟩
        rw [← hse] at hcell hnx
        rw [← hT] at hnx ⊢
        have HX : Hid (tot (ss.take (k + 1)) = T + s.size) := hnx
        have HL : Hid (T + s.size ≤ tot ss) := (by omega : T + s.size ≤ tot ss)
        clear hnx hse hT hle2 hc
        by_cases g1 : 1048576 < s.size
        · have g1' : (1048576 : Int) < (s.size : Int) := by omega
          go_wp2
          go_ret
          exact ⟨ret_bool (okB_false (by have := HL.out; omega)).symm, rfl⟩
        · have g1' : ¬ (1048576 : Int) < (s.size : Int) := by omega
          by_cases g2 : 1048576 < base.size + n + T + s.size
          · have g2' : (1048576 : Int) < ((base.size + n + T : Nat) : Int) + (s.size : Int) := by omega
            go_wp2
            go_ret
            exact ⟨ret_bool (okB_false (by have := HL.out; omega)).symm, rfl⟩
          · have g2' : ¬ (1048576 : Int) < ((base.size + n + T : Nat) : Int) + (s.size : Int) := by omega
            go_wp2
            go_round
            case rel => exact ⟨k + 1, by omega, by go_num, by rw [HX.out]; omega, val_int (by rw [HX.out]; omega)⟩
            case measure => simp [intOf]; omega
      · have hkn : k = n := by omega
        have HT : Hid (T = tot ss) := (by rw [hT, hkn, HN.out, List.take_length] : T = tot ss)
        rw [← hT]
        clear hT hc
        go_wp2
        go_ret
        exact ⟨ret_bool (okB_true (by have := HT.out; omega)).symm, rfl⟩

theorem bound15 (bp : Int) (base : ByteArray) (ss : List ByteArray) (ao : Option Addr) (cap : Nat) (w : World) (hs : IsStrs w ao ss) :
    Calls Ebvg.prog 15 #[.int .i64 bp, .string base, .slice ao ss.length cap] w fun e w' => e = .returned (.bool (okB (base.size + ss.length + tot ss))) ∧ w' = w := by
  by_cases h : base.size + ss.length ≤ 1048576
  · exact bound15_late bp base ss ao cap w hs h
  · have e : okB (base.size + ss.length + tot ss) = false := okB_false (by omega)
    rw [e]
    exact bound15_early bp base ss.length ao cap w (by omega)

end Go.Proofs.Yoebvw
