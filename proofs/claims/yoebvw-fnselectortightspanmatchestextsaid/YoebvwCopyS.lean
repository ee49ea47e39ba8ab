/-
  zzCopyStrings (8): a fresh row with the same strings.
-/
import Derived.Test.YoebvwBytes
namespace Go.Proofs.Yoebvw
open Go.RowKit

theorem Ebvg.info9 : (Ebvg.prog.info? 9).map (fun i => (i.zero, i.size, i.bytes)) = some (some (.string ByteArray.empty), 1, 16) := by kernel_rfl

theorem set_take {α : Type} (xs : List α) (k : Nat) (u : α) (h : k < xs.length) : (xs.set k u).take (k + 1) = xs.take k ++ [u] := by
  rw [take_next _ k (by simpa using h)]
  simp [List.take_set_of_le]

set_option maxHeartbeats 800000 in
theorem copyStrs (ss : List ByteArray) (b off cap : Nat) (w : World) (hc : ∀ j, (h : j < ss.length) → w.cell? ⟨b, off + j, none⟩ = some (.string ss[j])) (hb : b < w.heap.size) (hn : ss.length ≤ 4096) :
    Calls Ebvg.prog 8 #[.slice (some ⟨b, off, none⟩) ss.length cap] w fun e w' => e = .returned (.slice (some ⟨w.heap.size, 0, none⟩) ss.length ss.length) ∧
      w'.ownsRow w.heap.size 9 1 (.slice (some ⟨w.heap.size, 0, none⟩) ss.length ss.length) ss.length (ss.map Value.string) ∧ Below w.heap.size w w' := by
  obtain ⟨n, hne⟩ : ∃ n, n = ss.length := ⟨_, rfl⟩
  have HN : Hid (n = ss.length) := hne
  rw [← hne] at hn ⊢
  clear hne
  obtain ⟨i0, hi, hz0, hz1, hz2⟩ := info_parts Ebvg.info9
  have q22 : ∀ (w : World) (a : Option Addr) (n c n' c' : Nat), (binOp .eql 22 (.slice a n c) (.slice none n' c')).run Ebvg.prog w = .ok (.bool a.isNone) w := fun w a n c n' c' => Lib.run_eql_slice_nil w _ _ a n c n' c' Ebvg.underlying22
  go_enter Ebvg.func8, Ebvg.ntmps8
  go_wp2_with (at_make; refine wpList_make_full _ rfl _ _ 22 rfl w.heap.size 9 i0 (.string ByteArray.empty) 1 Ebvg.underlying22 hi hz0 hz1 .i64 .i64 _ _ n rfl rfl rfl rfl (by rw [hz2]; omega) (by unfold maxLen; omega) (Nat.le_refl _) ?_)
  intro w1 hown hgrow
  have hb1 : Below w.heap.size w w1 := (Below.refl _ _).grown hgrow (Nat.le_refl _) (by intro k h; cases h)
  clear hgrow hi hz0 hz1 hz2 i0 q22
  obtain ⟨ys, hown⟩ : ∃ ys, w1.ownsRow w.heap.size 9 1 (.slice (some ⟨w.heap.size, 0, none⟩) n n) n ys := ⟨_, hown⟩
  obtain ⟨B, hB⟩ : ∃ B, B = w.heap.size := ⟨_, rfl⟩
  have HB : Hid (B = w.heap.size) := hB
  rw [← hB] at hown hb1 hb ⊢
  clear hB
  go_wp2_with fail
  go_loopw [4] (fun i wr => ∃ k : Nat, k ≤ n ∧ i = .int .i64 k ∧ (∃ xs : List Value, wr.ownsRow B 9 1 (.slice (some ⟨B, 0, none⟩) n n) n xs ∧ xs.take k = (ss.take k).map Value.string) ∧ Below B w wr) (fun i _ => n - (intOf i).toNat)
  case atStart => exact ⟨0, Nat.zero_le _, rfl, ⟨ys, hown, by simp⟩, hb1⟩
  case round =>
    obtain ⟨k, hk, rfl, ⟨xs, ho, hx⟩, hbl⟩ := hrel
    clear hown hb1
    have hxl : xs.length = n := by have := ho.1; omega
    by_cases hlt : k < n
    · have hcell := hc k (HN.out ▸ hlt)
      rw [← hbl.cell (p := ⟨b, off + k, none⟩) hb] at hcell
      have hnx := take_next ss k (HN.out ▸ hlt)
      obtain ⟨s, hse⟩ : ∃ s, s = ss[k]'(HN.out ▸ hlt) := ⟨_, rfl⟩
      rw [← hse] at hcell hnx
      obtain ⟨v, hv⟩ : ∃ v, xs[k]? = some v := ⟨xs[k]'(by omega), List.getElem?_eq_getElem (by omega)⟩
      have hold : wr.cell? ⟨B, k, none⟩ = some v := (ho.cellAt k (by omega)).trans hv
      have hfr := ho.frozenAt k
      have hst := (ho.stored k (.string s)).1
      have HR : Hid ((wr.setCell ⟨B, k, none⟩ (.string s)).ownsRow B 9 1 (.slice (some ⟨B, 0, none⟩) n n) n (xs.set k (.string s)) ∧ (xs.set k (.string s)).take (k + 1) = (ss.take (k + 1)).map Value.string ∧ Below B w (wr.setCell ⟨B, k, none⟩ (.string s))) :=
        ⟨hst, by rw [set_take xs k _ (by omega), hx, hnx]; simp, hbl.setCell (Nat.le_refl _) _⟩
      clear hst hx hnx hse hv ho hc hbl hxl
      go_wp2_with fail
      go_roundw
      case rel => exact ⟨k + 1, by omega, by go_num, ⟨_, HR.out.1, HR.out.2.1⟩, HR.out.2.2⟩
      case measure => simp [intOf]; omega
    · have hkn : k = n := by omega
      subst hkn
      have HR : Hid (wr.ownsRow B 9 1 (.slice (some ⟨B, 0, none⟩) k k) k (ss.map Value.string)) := by
        have e1 : xs.take k = xs := List.take_of_length_le (by omega)
        have e2 : ss.take k = ss := by rw [HN.out, List.take_length]
        rw [e1, e2] at hx
        rw [← hx]
        exact ho
      clear hx ho hc hxl
      go_wp2_with fail
      go_ret
      rw [← HB.out]
      exact ⟨rfl, HR.out, hbl⟩

end Go.Proofs.Yoebvw
