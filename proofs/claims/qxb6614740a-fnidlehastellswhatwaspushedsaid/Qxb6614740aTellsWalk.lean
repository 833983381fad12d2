/-
  THE WALK OF 'FnIdleHasTellsWhatWasPushed'.
-/
import Derived.Test.Qxb6614740aIdle
namespace Go.Proofs.Qxb6614740a.fnIdleHasTellsWhatWasPushed
open Go.RowKit

theorem bytes16 (a0 : Int) (a1 : Option Addr) (len1 cap1 : Nat) (w : World) (hl : len1 ≤ 9223372036854775807) :
    Calls Try.prog 16 #[.int .i64 a0, .slice a1 len1 cap1] w fun e w' => e = .returned (.bool (decide (len1 ≤ 1048576))) ∧ w' = w := by
  by_cases h : len1 ≤ 1048576
  · have h1 : ¬ (1048576 : Int) < (len1 : Int) := by omega
    go_enter Try.func16, Try.ntmps16
    go_wp2
    go_ret
    exact ⟨by simp, rfl⟩
  · have h1 : (1048576 : Int) < (len1 : Int) := by omega
    go_enter Try.func16, Try.ntmps16
    go_wp2
    go_ret
    exact ⟨by simp [h], rfl⟩

set_option maxHeartbeats 1000000 in
theorem walk_big (n : Nat) (a1 : Option Addr) (len1 cap1 : Nat) (b o : Nat) (Z : Nat → Int) (w : World) (hn : n ≤ 65536) (hl : len1 ≤ 65536) (hs : len1 * 8 + n * 9 ≤ 1048576)
    (ha : 0 < len1 → a1 = some ⟨b, o, none⟩) (hc : ∀ i, i < len1 → b < w.heap.size ∧ w.cell? ⟨b, o + i, none⟩ = some (.int .i64 (Z i))) :
    Calls Try.prog 4 #[.int .i64 (n : Int), .slice a1 len1 cap1] w fun e w' => e = .returned (.bool true) ∧ Below w.heap.size w w' := by
  have hmk26 := run_make_row' (P := Try.prog) 26 4 (.bool false) 1 Try.underlying26 Try.info4 rfl .i64 .i64 n (by omega) (by omega)
  have hd1 : decide ((n : Int) < 0) = false := decide_eq_false (by omega)
  have hdb : decide (len1 ≤ 1048576) = true := decide_eq_true (by omega)
  go_enter Try.func4, Try.ntmps4
  go_wp2_with (first | (go_at_call 16; refine (bytes16 _ _ _ _ _ (by omega)).mono ?_; rintro e w' ⟨rfl, hw⟩; obtain rfl := hw.symm) | (go_at_call 10; refine (new10 _ n hn).mono ?_; rintro e w1 ⟨q, rb, qb, rfl, hq, lq, lr, lb, hbel⟩))
  -- ████ LOOP 1: a fresh queue has nobody
  go_loopg [6] n (fun g i wr => ∃ r : Nat, r ≤ n ∧ g = n - r ∧ i = .int .i64 r ∧ wr = w1)
  case atStart => exact ⟨0, Nat.zero_le _, rfl, rfl, rfl⟩
  case round =>
    obtain ⟨r, hr, rfl, rfl, hw⟩ := hrel
    obtain rfl := hw.symm
    by_cases hlt : r < n
    · have hz : (r : Int) < (n : Int) := by omega
      go_wp2_with (go_at_call 17; refine (has17 _ q rb qb n _ r _ _ hq hlt).mono ?_; rintro e w' ⟨rfl, hw⟩; obtain rfl := hw.symm)
      go_roundg (n - (r + 1))
      case measure => omega
      case rel => exact ⟨r + 1, by omega, rfl, by go_num, rfl⟩
    have hr' : r = n := by omega
    subst hr'
    go_wp2_with fail
    have l1 := hq.hd.lt
    have l2 := hq.ring.lt
    have l3 := hq.qd.lt
    -- ████ LOOP 2: the keys are pushed
    go_loopg [8] len1 (fun g i wx => ∃ t : Nat, t ≤ len1 ∧ g = len1 - t ∧ i = .int .i64 t ∧ ∃ R P, IQ wx q rb qb r (cnt P r) R P ∧ wx.rowIs w1.heap.size 4 r (fun i => .bool (P i)) ∧ Below w.heap.size w wx)
    case atStart => exact ⟨0, Nat.zero_le _, rfl, rfl, _, _, hq.alloc _, World.rowIs_made _ _ _ _, hbel.alloc hbel.size _⟩
    case round =>
      obtain ⟨t, ht, rfl, rfl, R, P, hI, hp, hB⟩ := hrel
      clear hmk26
      by_cases htl : t < len1
      · obtain rfl := ha (by omega)
        have htz : (t : Int) < (len1 : Int) := by omega
        have hcell : wr.cell? ⟨b, o + t, none⟩ = some (.int .i64 (Z t)) := by rw [hB.cell (p := ⟨b, o + t, none⟩) (hc t htl).1]; exact (hc t htl).2
        by_cases c1 : Z t < 0
        · have c1' : decide (Z t < 0) = true := decide_eq_true c1
          go_wp2_with fail
          go_roundg (len1 - (t + 1))
          case measure => omega
          case rel => exact ⟨t + 1, by omega, rfl, by go_num, R, P, hI, hp, hB⟩
        have c1' : decide (Z t < 0) = false := decide_eq_false c1
        by_cases c2 : (r : Int) ≤ Z t
        · go_wp2_with fail
          go_roundg (len1 - (t + 1))
          case measure => omega
          case rel => exact ⟨t + 1, by omega, rfl, by go_num, R, P, hI, hp, hB⟩
        obtain ⟨k, hk⟩ := Int.eq_ofNat_of_zero_le (show 0 ≤ Z t by omega)
        rw [hk] at hcell c1 c2 c1'
        clear hk
        have hkr : k < r := by omega
        go_wp2_with (go_at_call 12; refine (push12 _ q rb qb r k R P hI hkr hn).mono ?_; rintro e w2 ⟨rfl, hI2, ho⟩; have hp2 := ho.row (b := w1.heap.size) (by simp; omega) hp; have hpc := hp2.cell hkr; have hpf := hp2.frozen k)
        go_roundg (len1 - (t + 1))
        case measure => omega
        case rel => exact ⟨t + 1, by omega, rfl, by go_num, _, upd P k true, hI2.only ((Only.refl [w1.heap.size] _).setCell (by simp) _) (by simp; omega) (by simp; omega) (by simp; omega), (hp2.set k _).congr (fun i _ => by unfold upd; split <;> rfl), (hB.trans (ho.below (by simp; omega))).setCell (by have := hbel.size; omega) _⟩
      -- ████ LOOP 3
      have ht' : t = len1 := by omega
      subst ht'
      go_wp2_with fail
      go_loopg [10] r (fun g i wx => ∃ j : Nat, j ≤ r ∧ g = r - j ∧ i = .int .i64 j ∧ IQ wx q rb qb r (cnt P r) R P ∧ wx.rowIs w1.heap.size 4 r (fun i => .bool (P i)) ∧ Below w.heap.size w wx)
      case atStart => exact ⟨0, Nat.zero_le _, rfl, rfl, hI, hp, hB⟩
      case round =>
        clear hI hp hB
        obtain ⟨j, hj, rfl, rfl, hI, hp, hB⟩ := hrel
        by_cases hjr : j < r
        · have hjz : (j : Int) < (r : Int) := by omega
          have hpc := hp.cell hjr
          go_wp2_with fail
          go_quiet ((go_at_call 17; exact Calls.quiet_of_same (has17 _ q rb qb r _ j R P (hI.drewN _) hjr)))
          go_wp2_with fail
          go_roundg (r - (j + 1))
          case measure => omega
          case rel => exact ⟨j + 1, by omega, rfl, by go_num, hI.drewN _, hp, ⟨hB.os, hB.tape, hB.output, hB.size, hB.block⟩⟩
        · go_wp2_with fail
          go_ret
          exact ⟨rfl, hB⟩

theorem walk (a0 : Int) (a1 : Option Addr) (len1 cap1 : Nat) (z1 : List Int) (w : World) (w1 : IsRow .i64 w a1 len1 cap1 z1) :
    Calls Try.prog 4 #[.int .i64 a0, .slice a1 len1 cap1] w fun e w' => e = .returned (.bool true) ∧ Below w.heap.size w w' := by
  have hl := w1.le
  by_cases hb : len1 ≤ 1048576
  · by_cases g1 : a0 < 0
    · go_enter Try.func4, Try.ntmps4
      go_wp2_with (go_at_call 16; refine (bytes16 _ _ _ _ _ hl).mono ?_; rintro e w' ⟨rfl, rfl⟩)
      go_ret
      exact ⟨rfl, Below.refl _ _⟩
    by_cases g2 : 65536 < a0
    · go_enter Try.func4, Try.ntmps4
      go_wp2_with (go_at_call 16; refine (bytes16 _ _ _ _ _ hl).mono ?_; rintro e w' ⟨rfl, rfl⟩)
      go_ret
      exact ⟨rfl, Below.refl _ _⟩
    by_cases g3 : (65536 : Int) < (len1 : Int)
    · go_enter Try.func4, Try.ntmps4
      go_wp2_with (go_at_call 16; refine (bytes16 _ _ _ _ _ hl).mono ?_; rintro e w' ⟨rfl, rfl⟩)
      go_ret
      exact ⟨rfl, Below.refl _ _⟩
    obtain ⟨n, rfl⟩ := Int.eq_ofNat_of_zero_le (show 0 ≤ a0 by omega)
    by_cases g4 : (1048576 : Int) < (len1 : Int) * 8 + (n : Int) * 9
    · go_enter Try.func4, Try.ntmps4
      go_wp2_with (go_at_call 16; refine (bytes16 _ _ _ _ _ hl).mono ?_; rintro e w' ⟨rfl, rfl⟩)
      go_ret
      exact ⟨rfl, Below.refl _ _⟩
    obtain ⟨b, o, Z, ha, hc⟩ := w1.elems
    exact walk_big n a1 len1 cap1 b o Z w (by omega) (by omega) (by omega) ha hc
  · go_enter Try.func4, Try.ntmps4
    go_wp2_with (go_at_call 16; refine (bytes16 _ _ _ _ _ hl).mono ?_; rintro e w' ⟨rfl, rfl⟩)
    go_ret
    exact ⟨rfl, Below.refl _ _⟩

end Go.Proofs.Qxb6614740a.fnIdleHasTellsWhatWasPushed
