/-
  zzSelBytes (7): the count of bytes.
-/
import Derived.Test.YoebvwRows
import Derived.Test.YoebvwPlain
import Derived.WalkSpells
import Derived.WalkLawsBesides
namespace Go.Proofs.Yoebvw
open Go.RowKit

set_option maxHeartbeats 400000 in
theorem selBytes (base : ByteArray) (ss : List ByteArray) (ao : Option Addr) (cap : Nat) (w : World) (hs : IsStrs w ao ss) (hb : base.size + ss.length + tot ss ≤ 1048576) :
    Calls Ebvg.prog 7 #[.string base, .slice ao ss.length cap] w fun e w' => e = .returned (.int .i64 ((base.size + 8 * ss.length + tot ss : Nat) : Int)) ∧ w' = w := by
  obtain ⟨n, hn⟩ : ∃ n, n = ss.length := ⟨_, rfl⟩
  have HN : Hid (n = ss.length) := hn
  rw [← hn] at hb ⊢
  clear hn
  rcases hs with h0 | ⟨b, off, rfl, hc⟩
  · have hn0 : n = 0 := by rw [HN.out, h0]; rfl
    subst hn0
    subst h0
    clear HN
    go_enter Ebvg.func7, Ebvg.ntmps7
    go_wp2
    refine wp_loop_rounds 1 ?_
    rw [rounds_succ]
    go_wp2
    go_ret
    exact ⟨ret_int (by simp [tot]), rfl⟩
  · go_enter Ebvg.func7, Ebvg.ntmps7
    go_wp2
    go_loop [5, 6] (fun t i => ∃ k : Nat, k ≤ n ∧ i = .int .i64 k ∧ t = .int .i64 ((base.size + 8 * n + tot (ss.take k) : Nat) : Int)) (fun _ i => n - (intOf i).toNat)
    case atStart => exact ⟨0, Nat.zero_le _, rfl, by simp [tot]⟩
    case round =>
      obtain ⟨k, hk, rfl, rfl⟩ := hrel
      obtain ⟨T, hT⟩ : ∃ T, T = tot (ss.take k) := ⟨_, rfl⟩
      have hTle : T ≤ tot ss := hT ▸ tot_take_le ss k
      by_cases hlt : k < n
      · have hcell := hc k (HN.out ▸ hlt)
        have hnx := tot_next ss k (HN.out ▸ hlt)
        have hle2 := tot_take_le ss (k + 1)
        obtain ⟨s, hse⟩ : ∃ s, s = ss[k]'(HN.out ▸ hlt) := ⟨_, rfl⟩
        rw [← hse] at hcell hnx
        rw [← hT] at hnx ⊢
        have hsz : s.size ≤ 1048576 := by omega
        have HX : Hid (tot (ss.take (k + 1)) = T + s.size) := hnx
        clear hnx hse hT hle2 hc
        go_wp2
        go_round
        case rel => exact ⟨k + 1, by omega, by go_num, val_int (by rw [HX.out]; omega)⟩
        case measure => simp [intOf]; omega
      · have hkn : k = n := by omega
        have HT : Hid (T = tot ss) := (by rw [hT, hkn, HN.out, List.take_length] : T = tot ss)
        rw [← hT]
        clear hT hc
        go_wp2
        go_ret
        exact ⟨ret_int (by have := HT.out; omega), rfl⟩

end Go.Proofs.Yoebvw
