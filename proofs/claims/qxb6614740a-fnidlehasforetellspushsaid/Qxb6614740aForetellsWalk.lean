/-
  THE WALK OF 'FnIdleHasForetellsPush'.
-/
import Derived.Test.Qxb6614740aIdle
namespace Go.Proofs.Qxb6614740a.fnIdleHasForetellsPush
open Go.RowKit

theorem bytes22 (a0 : Int) (a1 : Option Addr) (len1 cap1 : Nat) (w : World) (hl : len1 ≤ 9223372036854775807) :
    Calls Try.prog 22 #[.int .i64 a0, .slice a1 len1 cap1] w fun e w' => e = .returned (.bool (decide (len1 ≤ 1048576))) ∧ w' = w := by
  by_cases h : len1 ≤ 1048576
  · have h1 : ¬ (1048576 : Int) < (len1 : Int) := by omega
    go_enter Try.func22, Try.ntmps22
    go_wp2
    go_ret
    exact ⟨by simp, rfl⟩
  · have h1 : (1048576 : Int) < (len1 : Int) := by omega
    go_enter Try.func22, Try.ntmps22
    go_wp2
    go_ret
    exact ⟨by simp [h], rfl⟩

set_option maxHeartbeats 1000000 in
theorem walk_big (n : Nat) (a1 : Option Addr) (len1 cap1 : Nat) (b o : Nat) (Z : Nat → Int) (w : World) (hn : n ≤ 65536) (hl : len1 ≤ 65536) (hs : len1 * 8 + n * 9 ≤ 1048576)
    (ha : 0 < len1 → a1 = some ⟨b, o, none⟩) (hc : ∀ i, i < len1 → b < w.heap.size ∧ w.cell? ⟨b, o + i, none⟩ = some (.int .i64 (Z i))) :
    Calls Try.prog 6 #[.int .i64 (n : Int), .slice a1 len1 cap1] w fun e w' => e = .returned (.bool true) ∧ Below w.heap.size w w' := by
  have hmk26 := run_make_row' (P := Try.prog) 26 4 (.bool false) 1 Try.underlying26 Try.info4 rfl .i64 .i64 n (by omega) (by omega)
  have hd1 : decide ((n : Int) < 0) = false := decide_eq_false (by omega)
  have hdb : decide (len1 ≤ 1048576) = true := decide_eq_true (by omega)
  go_enter Try.func6, Try.ntmps6
  go_wp2_with (first | (go_at_call 22; refine (bytes22 _ _ _ _ _ (by omega)).mono ?_; rintro e w' ⟨rfl, hw⟩; obtain rfl := hw.symm) | (go_at_call 10; refine (new10 _ n hn).mono ?_; rintro e w1 ⟨q, rb, qb, rfl, hq, lq, lr, lb, hbel⟩))
  go_loopg [6] len1 (fun g i wx => ∃ t : Nat, t ≤ len1 ∧ g = len1 - t ∧ i = .int .i64 t ∧ ∃ R P, IQ wx q rb qb n (cnt P n) R P ∧ Below w.heap.size w wx)
  case atStart => exact ⟨0, Nat.zero_le _, rfl, rfl, _, _, hq, hbel⟩
  case round =>
    obtain ⟨t, ht, rfl, rfl, R, P, hI, hB⟩ := hrel
    by_cases htl : t < len1
    · obtain rfl := ha (by omega)
      have htz : (t : Int) < (len1 : Int) := by omega
      have hcell : wr.cell? ⟨b, o + t, none⟩ = some (.int .i64 (Z t)) := by rw [hB.cell (p := ⟨b, o + t, none⟩) (hc t htl).1]; exact (hc t htl).2
      by_cases c1 : Z t < 0
      · have c1' : decide (Z t < 0) = true := decide_eq_true c1
        go_wp2_with fail
        go_roundg (len1 - (t + 1))
        case measure => omega
        case rel => exact ⟨t + 1, by omega, rfl, by go_num, R, P, hI, hB⟩
      have c1' : decide (Z t < 0) = false := decide_eq_false c1
      by_cases c2 : (n : Int) ≤ Z t
      · go_wp2_with fail
        go_roundg (len1 - (t + 1))
        case measure => omega
        case rel => exact ⟨t + 1, by omega, rfl, by go_num, R, P, hI, hB⟩
      obtain ⟨k, hk⟩ := Int.eq_ofNat_of_zero_le (show 0 ≤ Z t by omega)
      rw [hk] at hcell c1 c2 c1'
      clear hk
      have hkr : k < n := by omega
      have hcn := cnt_le P n
      go_wp2_with fail
      refine (has17 _ q rb qb n _ k R P hI hkr).mono ?_
      rintro e w' ⟨rfl, hw⟩
      obtain rfl := hw.symm
      go_wp2_with fail
      refine (size13 _ q rb qb n _ R P hI).mono ?_
      rintro e w' ⟨rfl, hw⟩
      obtain rfl := hw.symm
      go_wp2_with fail
      refine (push12 _ q rb qb n k R P hI hkr hn).mono ?_
      rintro e w2 ⟨rfl, hI2, ho⟩
      have hB2 : Below w.heap.size w w2 := hB.trans (ho.below (by simp; omega))
      go_wp2_with fail
      refine (size13 _ q rb qb n _ _ _ hI2).mono ?_
      rintro e w' ⟨rfl, hw⟩
      obtain rfl := hw.symm
      cases hP : P k with
      | true =>
        rw [cnt_upd_old P n k hP]
        go_wp2_with fail
        refine (has17 _ q rb qb n _ k _ _ hI2 hkr).mono ?_
        rintro e w' ⟨rfl, hw⟩
        obtain rfl := hw.symm
        rw [upd_at]
        go_wp2_with fail
        go_roundg (len1 - (t + 1))
        case measure => omega
        case rel => exact ⟨t + 1, by omega, rfl, by go_num, _, _, hI2, hB2⟩
      | false =>
        rw [cnt_upd_new P n k hkr hP]
        go_wp2_with fail
        refine (has17 _ q rb qb n _ k _ _ hI2 hkr).mono ?_
        rintro e w' ⟨rfl, hw⟩
        obtain rfl := hw.symm
        rw [upd_at]
        go_wp2_with fail
        go_roundg (len1 - (t + 1))
        case measure => omega
        case rel => exact ⟨t + 1, by omega, rfl, by go_num, _, _, hI2, hB2⟩
    · go_wp2_with fail
      go_ret
      exact ⟨rfl, hB⟩

theorem walk (a0 : Int) (a1 : Option Addr) (len1 cap1 : Nat) (z1 : List Int) (w : World) (w1 : IsRow .i64 w a1 len1 cap1 z1) :
    Calls Try.prog 6 #[.int .i64 a0, .slice a1 len1 cap1] w fun e w' => e = .returned (.bool true) ∧ Below w.heap.size w w' := by
  have hl := w1.le
  by_cases hb : len1 ≤ 1048576
  · by_cases g1 : a0 < 0
    · go_enter Try.func6, Try.ntmps6
      go_wp2_with (go_at_call 22; refine (bytes22 _ _ _ _ _ hl).mono ?_; rintro e w' ⟨rfl, rfl⟩)
      go_ret
      exact ⟨rfl, Below.refl _ _⟩
    by_cases g2 : 65536 < a0
    · go_enter Try.func6, Try.ntmps6
      go_wp2_with (go_at_call 22; refine (bytes22 _ _ _ _ _ hl).mono ?_; rintro e w' ⟨rfl, rfl⟩)
      go_ret
      exact ⟨rfl, Below.refl _ _⟩
    by_cases g3 : (65536 : Int) < (len1 : Int)
    · go_enter Try.func6, Try.ntmps6
      go_wp2_with (go_at_call 22; refine (bytes22 _ _ _ _ _ hl).mono ?_; rintro e w' ⟨rfl, rfl⟩)
      go_ret
      exact ⟨rfl, Below.refl _ _⟩
    obtain ⟨n, rfl⟩ := Int.eq_ofNat_of_zero_le (show 0 ≤ a0 by omega)
    by_cases g4 : (1048576 : Int) < (len1 : Int) * 8 + (n : Int) * 9
    · go_enter Try.func6, Try.ntmps6
      go_wp2_with (go_at_call 22; refine (bytes22 _ _ _ _ _ hl).mono ?_; rintro e w' ⟨rfl, rfl⟩)
      go_ret
      exact ⟨rfl, Below.refl _ _⟩
    obtain ⟨b, o, Z, ha, hc⟩ := w1.elems
    exact walk_big n a1 len1 cap1 b o Z w (by omega) (by omega) (by omega) ha hc
  · go_enter Try.func6, Try.ntmps6
    go_wp2_with (go_at_call 22; refine (bytes22 _ _ _ _ _ hl).mono ?_; rintro e w' ⟨rfl, rfl⟩)
    go_ret
    exact ⟨rfl, Below.refl _ _⟩

end Go.Proofs.Qxb6614740a.fnIdleHasForetellsPush
