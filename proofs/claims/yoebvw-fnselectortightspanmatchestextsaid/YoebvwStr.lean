/-
  SelectorExpr.String (9) over the chain.
-/
import Derived.Test.YoebvwChain
namespace Go.Proofs.Yoebvw
open Go.RowKit

theorem cell_drewN {w : World} {n : Nat} (a : Addr) (x : Value) (h : w.cell? a = some x) : (w.drewN n).cell? a = some x := h

theorem strOf_size (name s : ByteArray) (p : Int) (xs : List (ByteArray × Int)) : (strOf name ((s, p) :: xs)).size = (strOf name xs).size + 1 + s.size := by
  show (strOf name xs ++ ⟨#[46]⟩ ++ s).size = _
  rw [ByteArray.size_append, ByteArray.size_append]
  rfl

set_option maxHeartbeats 1600000 in
theorem selString (name : ByteArray) (pos : Int) : ∀ (xs : List (ByteArray × Int)) (b : Nat) (w : World), ExprAt w name pos xs (.iface 26 (.pointer (some ⟨b, 0, none⟩))) →
    (strOf name xs).size ≤ 9223372036854775807 →
    Calls Ebvg.prog 9 #[.pointer (some ⟨b, 0, none⟩)] w fun e w' => e = .returned (.string (strOf name xs)) ∧ ∃ n, w' = w.drewN n := by
  intro xs
  induction xs with
  | nil => intro b w h; obtain ⟨b', hv, _⟩ := h; simp at hv
  | cons x xs ih =>
    obtain ⟨s, p⟩ := x
    intro b w h hsz
    obtain ⟨b', c, u, hv, h0, h1, h2, h3, hx⟩ := h
    simp at hv
    subst hv
    rw [strOf_size] at hsz
    cases xs with
    | nil =>
      obtain ⟨bi, rfl, g0, g1⟩ := hx
      have hm := m27Str
      have hm' := m31Str
      clear ih
      have hsz3 : name.size + 1 + s.size ≤ 9223372036854775807 := hsz
      clear hsz
      go_enter Ebvg.func9, Ebvg.ntmps9
      go_wp2_with fail
      go_quiet (first | (go_at_call 34; exact Calls.quiet_of_same (identString _ _ _ g0)) | (go_at_call 39; exact Calls.quiet_of_same (litString _ _ _ h3)))
      go_wp2_with fail
      go_ret
      exact ⟨rfl, nq, rfl⟩
    | cons y ys =>
      have hx' := hx
      obtain ⟨b2, c2, u2, rfl, _⟩ := hx
      have IH : Hid (∀ (b : Nat) (w : World), ExprAt w name pos (y :: ys) (.iface 26 (.pointer (some ⟨b, 0, none⟩))) → (strOf name (y :: ys)).size ≤ 9223372036854775807 →
        Calls Ebvg.prog 9 #[.pointer (some ⟨b, 0, none⟩)] w fun e w' => e = .returned (.string (strOf name (y :: ys))) ∧ ∃ n, w' = w.drewN n) := ih
      have HX : Hid (∀ n, ExprAt (w.drewN n) name pos (y :: ys) (.iface 26 (.pointer (some ⟨b2, 0, none⟩)))) := fun n => ExprAt.stays (fun a x h => cell_drewN a x h) hx'
      have hm := m26Str
      have hm' := m31Str
      clear ih hx'
      have hd : strOf name ((s, p) :: y :: ys) = strOf name (y :: ys) ++ ⟨#[46]⟩ ++ s := rfl
      rw [hd]
      clear hd
      obtain ⟨t, ht⟩ : ∃ t, t = strOf name (y :: ys) := ⟨_, rfl⟩
      rw [← ht] at hsz IH ⊢
      clear ht
      go_enter Ebvg.func9, Ebvg.ntmps9
      go_wp2_with fail
      go_quiet (first | (go_at_call 9; refine Calls.quiet_of (IH.out _ _ (HX.out _) ?_); omega) | (go_at_call 39; exact Calls.quiet_of_same (litString _ _ _ h3)))
      go_wp2_with fail
      go_ret
      exact ⟨rfl, nq, rfl⟩

end Go.Proofs.Yoebvw
