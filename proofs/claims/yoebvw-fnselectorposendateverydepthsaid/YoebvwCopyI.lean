/-
  zzCopyInts (12): a fresh row with the same numbers.
-/
import Derived.Test.YoebvwCopyS
namespace Go.Proofs.Yoebvw
open Go.RowKit

theorem Ebvg.info3 : (Ebvg.prog.info? 3).map (fun i => (i.zero, i.size, i.bytes)) = some (some (.int .i64 0), 1, 8) := by kernel_rfl

set_option maxHeartbeats 800000 in
theorem copyInts (ss : List Int) (b off cap : Nat) (w : World) (hc : ∀ j, (h : j < ss.length) → w.cell? ⟨b, off + j, none⟩ = some (.int .i64 ss[j])) (hb : b < w.heap.size) (hn : ss.length ≤ 4096) :
    Calls Ebvg.prog 12 #[.slice (some ⟨b, off, none⟩) ss.length cap] w fun e w' => e = .returned (.slice (some ⟨w.heap.size, 0, none⟩) ss.length ss.length) ∧
      w'.ownsRow w.heap.size 3 1 (.slice (some ⟨w.heap.size, 0, none⟩) ss.length ss.length) ss.length (ss.map (Value.int .i64)) ∧ Below w.heap.size w w' := by
  obtain ⟨n, hne⟩ : ∃ n, n = ss.length := ⟨_, rfl⟩
  have HN : Hid (n = ss.length) := hne
  rw [← hne] at hn ⊢
  clear hne
  obtain ⟨i0, hi, hz0, hz1, hz2⟩ := info_parts Ebvg.info3
  have q40 : ∀ (w : World) (a : Option Addr) (n c n' c' : Nat), (binOp .eql 40 (.slice a n c) (.slice none n' c')).run Ebvg.prog w = .ok (.bool a.isNone) w := fun w a n c n' c' => Lib.run_eql_slice_nil w _ _ a n c n' c' Ebvg.underlying40
  go_enter Ebvg.func12, Ebvg.ntmps12
  go_wp2_with (at_make; refine wpList_make_full _ rfl _ _ 40 rfl w.heap.size 3 i0 (.int .i64 0) 1 Ebvg.underlying40 hi hz0 hz1 .i64 .i64 _ _ n rfl rfl rfl rfl (by rw [hz2]; omega) (by unfold maxLen; omega) (Nat.le_refl _) ?_)
  intro w1 hown hgrow
  have hb1 : Below w.heap.size w w1 := (Below.refl _ _).grown hgrow (Nat.le_refl _) (by intro k h; cases h)
  clear hgrow hi hz0 hz1 hz2 i0 q40
  obtain ⟨ys, hown⟩ : ∃ ys, w1.ownsRow w.heap.size 3 1 (.slice (some ⟨w.heap.size, 0, none⟩) n n) n ys := ⟨_, hown⟩
  obtain ⟨B, hB⟩ : ∃ B, B = w.heap.size := ⟨_, rfl⟩
  have HB : Hid (B = w.heap.size) := hB
  rw [← hB] at hown hb1 hb ⊢
  clear hB
  go_wp2_with fail
  go_loopw [4] (fun i wr => ∃ k : Nat, k ≤ n ∧ i = .int .i64 k ∧ (∃ xs : List Value, wr.ownsRow B 3 1 (.slice (some ⟨B, 0, none⟩) n n) n xs ∧ xs.take k = (ss.take k).map (Value.int .i64)) ∧ Below B w wr) (fun i _ => n - (intOf i).toNat)
  case atStart => exact ⟨0, Nat.zero_le _, rfl, ⟨ys, hown, by simp⟩, hb1⟩
  case round =>
    obtain ⟨k, hk, rfl, ⟨xs, ho, hx⟩, hbl⟩ := hrel
    clear hown hb1
    have hxl : xs.length = n := by have := ho.1; omega
    by_cases hlt : k < n
    · have hcell := hc k (HN.out ▸ hlt)
      rw [← hbl.cell (p := ⟨b, off + k, none⟩) hb] at hcell
      have hnx := take_next ss k (HN.out ▸ hlt)
      obtain ⟨s, hse⟩ : ∃ s, s = ss[k]'(HN.out ▸ hlt) := ⟨_, rfl⟩
      rw [← hse] at hcell hnx
      obtain ⟨v, hv⟩ : ∃ v, xs[k]? = some v := ⟨xs[k]'(by omega), List.getElem?_eq_getElem (by omega)⟩
      have hold : wr.cell? ⟨B, k, none⟩ = some v := (ho.cellAt k (by omega)).trans hv
      have hfr := ho.frozenAt k
      have hst := (ho.stored k (.int .i64 s)).1
      have HR : Hid ((wr.setCell ⟨B, k, none⟩ (.int .i64 s)).ownsRow B 3 1 (.slice (some ⟨B, 0, none⟩) n n) n (xs.set k (.int .i64 s)) ∧ (xs.set k (.int .i64 s)).take (k + 1) = (ss.take (k + 1)).map (Value.int .i64) ∧ Below B w (wr.setCell ⟨B, k, none⟩ (.int .i64 s))) :=
        ⟨hst, by rw [set_take xs k _ (by omega), hx, hnx]; simp, hbl.setCell (Nat.le_refl _) _⟩
      clear hst hx hnx hse hv ho hc hbl hxl
      go_wp2_with fail
      go_roundw
      case rel => exact ⟨k + 1, by omega, by go_num, ⟨_, HR.out.1, HR.out.2.1⟩, HR.out.2.2⟩
      case measure => simp [intOf]; omega
    · have hkn : k = n := by omega
      subst hkn
      have HR : Hid (wr.ownsRow B 3 1 (.slice (some ⟨B, 0, none⟩) k k) k (ss.map (Value.int .i64))) := by
        have e1 : xs.take k = xs := List.take_of_length_le (by omega)
        have e2 : ss.take k = ss := by rw [HN.out, List.take_length]
        rw [e1, e2] at hx
        rw [← hx]
        exact ho
      clear hx ho hc hxl
      go_wp2_with fail
      go_ret
      rw [← HB.out]
      exact ⟨rfl, HR.out, hbl⟩

end Go.Proofs.Yoebvw
