/-
  zzSelDotted (10).
-/
import Derived.Test.YoebvwDots
namespace Go.Proofs.Yoebvw
open Go.RowKit

theorem own_ge {w : World} {B e size n : Nat} {v : Value} {xs : List Value} (h : w.ownsRow B e size v n xs) : ∀ k, v.ownBlock = some k → B ≤ k := by
  intro k hk
  rcases h.2 with ⟨rfl, _⟩ | ⟨g, cap, cur, rfl, hg, _⟩
  · cases hk
  · simp [Value.ownBlock] at hk
    omega

/-- What one append of one byte does. -/
theorem pushed {w wr w2 : World} {B n : Nat} {v v' : Value} {xs : List Value} {o : Obj} {u : Value} (ho : wr.ownsRow B 5 1 v n xs) (hbl : Below B w wr) (hw : B ≤ wr.heap.size)
    (h1 : w2.ownsRow B 5 1 v' (n + 1) (xs ++ [u])) (h2 : (wr.alloc o).grownBy w2 v.ownBlock) : w2.ownsRow B 5 1 v' (n + 1) (xs ++ [u]) ∧ Below B w w2 :=
  ⟨h1, (hbl.alloc hw o).grown h2 (by simp; omega) (own_ge ho)⟩

def dotsK (base : ByteArray) (ss : List ByteArray) (k : Nat) : List UInt8 := dots base (ss.take k)
theorem dotsK_length (base : ByteArray) (ss : List ByteArray) (k : Nat) (h : k ≤ ss.length) : (dotsK base ss k).length = base.size + k + tot (ss.take k) := by
  unfold dotsK; rw [dots_length, List.length_take, Nat.min_eq_left h]

theorem own_first {w : World} {B : Nat} {v : Value} {base : ByteArray} (ss : List ByteArray) (h : w.ownsRow B 5 1 v base.size (rowL (preL base base.size))) :
    w.ownsRow B 5 1 v (dotsK base ss 0).length (rowL (dotsK base ss 0)) := by
  have e1 : preL base base.size = dotsK base ss 0 := by rw [preL_all]; simp [dotsK, dots, dl]
  have e2 : (dotsK base ss 0).length = base.size := by rw [dotsK_length _ _ _ (Nat.zero_le _)]; simp [tot]
  rw [e2, ← e1]
  exact h

def mid (D : List UInt8) (s : ByteArray) (m : Nat) : List UInt8 := (D ++ [46]) ++ preL s m
theorem rowL_mid (D : List UInt8) (s : ByteArray) (m : Nat) (h : m < s.size) : rowL (mid D s (m + 1)) = rowL (mid D s m) ++ [.int .u8 (s[m].toNat : Int)] := by
  unfold mid; rw [preL_next s m h, ← rowL_push, List.append_assoc (D ++ [46])]
theorem rowL_mid0 (D : List UInt8) (s : ByteArray) : rowL (mid D s 0) = rowL D ++ [.int .u8 46] := by
  have e : mid D s 0 = D ++ [46] := by show (D ++ [46]) ++ preL s 0 = _; have e : preL s 0 = [] := rfl; rw [e, List.append_nil]
  rw [e, rowL_push]; rfl

/-- One round of the outer loop, the inner one left: the row as the next round wants it. -/
theorem own_next {w : World} {B : Nat} {v : Value} {base : ByteArray} {ss : List ByteArray} {k : Nat} (hk : k < ss.length) {s : ByteArray} (hs : s = ss[k])
    (h : w.ownsRow B 5 1 v ((dotsK base ss k).length + 1 + s.size) (rowL (mid (dotsK base ss k) s s.size))) :
    w.ownsRow B 5 1 v (dotsK base ss (k + 1)).length (rowL (dotsK base ss (k + 1))) := by
  have e : dotsK base ss (k + 1) = mid (dotsK base ss k) s s.size := by
    unfold mid; rw [preL_all, hs]; exact dots_next base ss k hk
  have e2 : (dotsK base ss (k + 1)).length = (dotsK base ss k).length + 1 + s.size := by
    rw [e]; unfold mid; rw [preL_all]; simp [bytesL_length]; omega
  rw [e2, e]
  exact h

theorem own_all {w : World} {B : Nat} {v : Value} {base : ByteArray} {ss : List ByteArray} {k : Nat} (hk : k = ss.length) (h : w.ownsRow B 5 1 v (dotsK base ss k).length (rowL (dotsK base ss k))) :
    (convert 45 9 v).run Ebvg.prog w = .ok (.string ⟨(dots base ss).toArray⟩) w := by
  have e : dotsK base ss k = dots base ss := by unfold dotsK; rw [hk, List.take_length]
  rw [e] at h
  exact conv_own h

set_option maxHeartbeats 1600000 in
set_option maxRecDepth 1000000 in
theorem selDotted (base : ByteArray) (ss : List ByteArray) (g cap : Nat) (w : World) (hc : ∀ j, (h : j < ss.length) → w.cell? ⟨g, j, none⟩ = some (.string ss[j])) (hg : g < w.heap.size) (hb : base.size + ss.length + tot ss ≤ 1048576) :
    Calls Ebvg.prog 10 #[.string base, .slice (some ⟨g, 0, none⟩) ss.length cap] w fun e w' => e = .returned (.string ⟨(dots base ss).toArray⟩) ∧ Below w.heap.size w w' := by
  obtain ⟨n, hne⟩ : ∃ n, n = ss.length := ⟨_, rfl⟩
  have HN : Hid (n = ss.length) := hne
  rw [← hne] at hb ⊢
  clear hne
  obtain ⟨B, hB⟩ : ∃ B, B = w.heap.size := ⟨_, rfl⟩
  have HB : Hid (B = w.heap.size) := hB
  rw [← hB] at hg ⊢
  clear hB
  obtain ⟨i0, hi, hz0, hz1, hz2⟩ := info_parts Ebvg.info5
  go_enter Ebvg.func10, Ebvg.ntmps10
  go_wp2_with (at_make; refine wpList_make_own _ rfl _ _ 45 rfl B 5 i0 (.int .u8 0) 1 Ebvg.underlying45 hi hz0 hz1 .i64 .i64 _ 16 rfl rfl rfl (by rw [hz2]; omega) (by unfold maxLen; omega) (by rw [HB.out]; exact Nat.le_refl _) ?_)
  intro w1 hown hgrow
  have hb1 : Below B w w1 := (Below.refl _ _).grown hgrow (by rw [HB.out]; exact Nat.le_refl _) (by intro k h; cases h)
  obtain ⟨v1, hv1⟩ : ∃ v1, v1 = Value.slice (some ⟨w.heap.size, 0, none⟩) 0 16 := ⟨_, rfl⟩
  rw [← hv1] at hown ⊢
  clear hv1 hgrow
  go_wp2_with fail
  go_loopw [5, 6] (fun v i wr => ∃ k : Nat, k ≤ base.size ∧ i = .int .i64 k ∧ wr.ownsRow B 5 1 v k (rowL (preL base k)) ∧ Below B w wr) (fun _ i _ => base.size - (intOf i).toNat)
  case atStart => exact ⟨0, Nat.zero_le _, rfl, hown, hb1⟩
  case round =>
    obtain ⟨k, hk, rfl, ho, hbl⟩ := hrel
    clear hown hb1
    have hw : B ≤ wr.heap.size := by have := hbl.size; have := HB.out; omega
    by_cases hlt : k < base.size
    · have HX : Hid (rowL (preL base (k + 1)) = rowL (preL base k) ++ [.int .u8 (base[k].toNat : Int)]) := (by rw [preL_next base k hlt, rowL_push] : rowL (preL base (k + 1)) = rowL (preL base k) ++ [.int .u8 (base[k].toNat : Int)])
      go_wp2_with (at_builtin; refine wpList_append_own _ rfl _ _ 45 rfl B 5 i0 (.int .u8 0) 1 1 Ebvg.underlying45 hi hz0 hz1 hz2 rfl (by decide) _ _ _ rfl (ho.alloc _) ⟨wr.heap.size, 0, none⟩ 1 1 [.int .u8 (base[k].toNat : Int)] rfl rfl ?c1 ?c2 ?c3 ?c4 ?c5 ?_)
      case c1 =>
        intro j u hj
        match j, hj with
        | 0, hj => simp at hj; subst hj; simp [Addr.add]
      case c2 => intro u hu; simp at hu; subst hu; rfl
      case c3 => unfold maxLen; omega
      case c4 => omega
      case c5 => simp; omega
      · intro v' w2 hown' hgrow' _
        have R : Hid (_ ∧ _) := pushed ho hbl hw hown' hgrow'
        clear hown' hgrow' ho hbl
        go_wp2_with fail
        go_roundw
        case rel => exact ⟨k + 1, by omega, by go_num, by rw [HX.out]; exact R.out.1, R.out.2⟩
        case measure => simp [intOf]; omega
    · have hkn : k = base.size := by omega
      subst hkn
      have ho1 := own_first ss ho
      clear ho
      go_wp2_with fail
      go_loopw [5, 7] (fun v i wr => ∃ k : Nat, k ≤ n ∧ i = .int .i64 k ∧ wr.ownsRow B 5 1 v (dotsK base ss k).length (rowL (dotsK base ss k)) ∧ Below B w wr) (fun _ i _ => n - (intOf i).toNat)
      case atStart => exact ⟨0, Nat.zero_le _, rfl, ho1, hbl⟩
      case round =>
        clear ho1 hbl hw
        obtain ⟨k, hk, rfl, ho, hbl⟩ := hrel
        have hw : B ≤ wr.heap.size := by have := hbl.size; have := HB.out; omega
        by_cases hlt : k < n
        · have hlt' : k < ss.length := by have := HN.out; omega
          have hcell := hc k hlt'
          have hnx := tot_next ss k hlt'
          have hle2 := tot_take_le ss (k + 1)
          have hDl := dotsK_length base ss k (by omega)
          obtain ⟨s, hse⟩ : ∃ s, s = ss[k]'hlt' := ⟨_, rfl⟩
          rw [← hse] at hcell hnx
          have HS : Hid (s = ss[k]'hlt') := hse
          have hbd : (dotsK base ss k).length + 1 + s.size ≤ 1048577 := by omega
          clear hse hnx hle2 hDl hc
          obtain ⟨D, hD⟩ : ∃ D, D = dotsK base ss k := ⟨_, rfl⟩
          rw [← hD] at ho hbd
          have HD : Hid (D = dotsK base ss k) := hD
          clear hD
          go_wp2_with (at_builtin; refine wpList_append_own _ rfl _ _ 45 rfl B 5 i0 (.int .u8 0) 1 1 Ebvg.underlying45 hi hz0 hz1 hz2 rfl (by decide) _ _ _ rfl (ho.alloc _) ⟨wr.heap.size, 0, none⟩ 1 1 [.int .u8 46] rfl rfl ?d1 ?d2 ?d3 ?d4 ?d5 ?_)
          case d1 =>
            intro j u hj
            match j, hj with
            | 0, hj => simp at hj; subst hj; simp [Addr.add]
          case d2 => intro u hu; simp at hu; subst hu; rfl
          case d3 => unfold maxLen; omega
          case d4 => omega
          case d5 => simp; omega
          · intro v' w2 hown' hgrow' _
            have R := pushed ho hbl hw hown' hgrow'
            obtain ⟨R1, R2⟩ := R
            have hcell2 : w2.cell? ⟨g, k, none⟩ = some (.string s) := (R2.cell (p := ⟨g, k, none⟩) hg).trans hcell
            have R3 : w2.ownsRow B 5 1 v' (D.length + 1 + 0) (rowL (mid D s 0)) := by
              rw [rowL_mid0]
              exact R1
            clear hown' hgrow' ho hbl R1 hcell hw
            go_wp2_with fail
            go_loopw [5, 9] (fun v i wr => ∃ m : Nat, m ≤ s.size ∧ i = .int .i64 m ∧ wr.ownsRow B 5 1 v (D.length + 1 + m) (rowL (mid D s m)) ∧ Below B w wr) (fun _ i _ => s.size - (intOf i).toNat)
            case atStart => exact ⟨0, Nat.zero_le _, rfl, R3, R2⟩
            case round =>
              clear R3 R2 hcell2
              obtain ⟨m, hm, rfl, ho, hbl⟩ := hrel
              have hw : B ≤ wr.heap.size := by have := hbl.size; have := HB.out; omega
              by_cases hmt : m < s.size
              · have HX : Hid (rowL (mid D s (m + 1)) = rowL (mid D s m) ++ [.int .u8 (s[m].toNat : Int)]) := rowL_mid D s m hmt
                go_wp2_with (at_builtin; refine wpList_append_own _ rfl _ _ 45 rfl B 5 i0 (.int .u8 0) 1 1 Ebvg.underlying45 hi hz0 hz1 hz2 rfl (by decide) _ _ _ rfl (ho.alloc _) ⟨wr.heap.size, 0, none⟩ 1 1 [.int .u8 (s[m].toNat : Int)] rfl rfl ?e1 ?e2 ?e3 ?e4 ?e5 ?_)
                case e1 =>
                  intro j u hj
                  match j, hj with
                  | 0, hj => simp at hj; subst hj; simp [Addr.add]
                case e2 => intro u hu; simp at hu; subst hu; rfl
                case e3 => unfold maxLen; omega
                case e4 => omega
                case e5 => simp; omega
                · intro v'' w3 hown'' hgrow'' _
                  have R : Hid (_ ∧ _) := pushed ho hbl hw hown'' hgrow''
                  clear hown'' hgrow'' ho hbl
                  go_wp2_with fail
                  go_roundw
                  case rel => exact ⟨m + 1, by omega, by go_num, by rw [HX.out]; exact R.out.1, R.out.2⟩
                  case measure => simp [intOf]; omega
              · have hms : m = s.size := by omega
                rw [hms, HD.out] at ho
                have hon : Hid (_) := own_next hlt' HS.out ho
                clear ho hms
                go_wp2_with fail
                go_roundw
                case rel => exact ⟨k + 1, by omega, by go_num, hon.out, hbl⟩
                case measure => simp [intOf]; omega
        · have hconv := own_all (by have := HN.out; omega) ho
          clear ho hi hz0 hz1 hz2 hc
          go_wp2_with fail
          go_ret
          exact ⟨rfl, hbl⟩

end Go.Proofs.Yoebvw
