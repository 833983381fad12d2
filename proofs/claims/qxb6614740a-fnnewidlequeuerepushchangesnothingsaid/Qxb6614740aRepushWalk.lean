/-
  THE WALK OF 'FnNewIdleQueueRepushChangesNothing'.
-/
import Derived.Test.Qxb6614740aIdle
namespace Go.Proofs.Qxb6614740a.fnNewIdleQueueRepushChangesNothing
open Go.RowKit

theorem bytes9 (a0 : Int) (a1 : Option Addr) (len1 cap1 : Nat) (w : World) (hl : len1 ≤ 9223372036854775807) :
    Calls Try.prog 9 #[.int .i64 a0, .slice a1 len1 cap1] w fun e w' => e = .returned (.bool (decide (len1 ≤ 1048576))) ∧ w' = w := by
  by_cases h : len1 ≤ 1048576
  · have h1 : ¬ (1048576 : Int) < (len1 : Int) := by omega
    go_enter Try.func9, Try.ntmps9
    go_wp2
    go_ret
    exact ⟨by simp, rfl⟩
  · have h1 : (1048576 : Int) < (len1 : Int) := by omega
    go_enter Try.func9, Try.ntmps9
    go_wp2
    go_ret
    exact ⟨by simp [h], rfl⟩

/-- The keys up to the t-th that are in range are marked. -/
def Marked (Z : Nat → Int) (n t : Nat) (P : Nat → Bool) : Prop := ∀ i, i < t → ∀ k : Nat, Z i = (k : Int) → k < n → P k = true
theorem Marked.start (Z : Nat → Int) (n : Nat) (P : Nat → Bool) : Marked Z n 0 P := fun i hi => by omega
theorem Marked.skip {Z : Nat → Int} {n t : Nat} {P : Nat → Bool} (h : Marked Z n t P) (hz : ∀ k : Nat, Z t = (k : Int) → ¬ k < n) : Marked Z n (t + 1) P := by
  intro i hi k hk hkn
  by_cases e : i = t
  · subst e; exact absurd hkn (hz k hk)
  · exact h i (by omega) k hk hkn
theorem Marked.push {Z : Nat → Int} {n t : Nat} {P : Nat → Bool} (h : Marked Z n t P) (k : Nat) (hz : Z t = (k : Int)) : Marked Z n (t + 1) (upd P k true) := by
  intro i hi k' hk hkn
  by_cases e : k' = k
  · subst e; exact upd_at _ _ _
  · rw [upd_ne _ _ _ e]
    by_cases ei : i = t
    · subst ei; rw [hz] at hk; omega
    · exact h i (by omega) k' hk hkn

/-- What stands in the middle: two queues that are the same in every field, and the marks of the law's own. -/
structure Twin (w wx : World) (q1 r1 b1 q2 r2 b2 sb n : Nat) (R : Nat → Int) (P : Nat → Bool) : Prop where
  h1 : IQ wx q1 r1 b1 n (cnt P n) R P
  h2 : IQ wx q2 r2 b2 n (cnt P n) R P
  hs : wx.rowIs sb 4 n (fun i => .bool (P i))
  hB : Below w.heap.size w wx

set_option maxHeartbeats 4000000 in
set_option maxRecDepth 100000 in
theorem walk_big (n : Nat) (a1 : Option Addr) (len1 cap1 : Nat) (b o : Nat) (Z : Nat → Int) (w : World) (hn : n ≤ 65536) (hl : len1 ≤ 65536) (hs : len1 * 8 + n * 9 ≤ 1048576)
    (ha : 0 < len1 → a1 = some ⟨b, o, none⟩) (hc : ∀ i, i < len1 → b < w.heap.size ∧ w.cell? ⟨b, o + i, none⟩ = some (.int .i64 (Z i))) :
    Calls Try.prog 3 #[.int .i64 (n : Int), .slice a1 len1 cap1] w fun e w' => e = .returned (.bool true) ∧ Below w.heap.size w w' := by
  have hmk26 := run_make_row' (P := Try.prog) 26 4 (.bool false) 1 Try.underlying26 Try.info4 rfl .i64 .i64 n (by omega) (by omega)
  have hd1 : decide ((n : Int) < 0) = false := decide_eq_false (by omega)
  have hdb : decide (len1 ≤ 1048576) = true := decide_eq_true (by omega)
  go_enter Try.func3, Try.ntmps3
  go_wp2_with (go_at_call 9; refine (bytes9 _ _ _ _ _ (by omega)).mono ?_; rintro e w' ⟨rfl, hw⟩; obtain rfl := hw.symm)
  refine (new10 _ n hn).mono ?_
  rintro e w1 ⟨q1, r1, b1, rfl, hq1, lq1, lr1, lb1, hB1⟩
  go_wp2_with fail
  refine (new10 _ n hn).mono ?_
  rintro e w2 ⟨q2, r2, b2, rfl, hq2, lq2, lr2, lb2, hB2⟩
  have m1 := hq1.hd.lt
  have m2 := hq1.ring.lt
  have m3 := hq1.qd.lt
  have m4 := hq2.hd.lt
  have m5 := hq2.ring.lt
  have m6 := hq2.qd.lt
  have s1 := hB1.size
  have s2 := hB2.size
  have hq1' : IQ w2 q1 r1 b1 n (cnt (fun _ => false) n) (fun _ => 0) (fun _ => false) := ⟨Below_row hB2 m1 hq1.hd, Below_row hB2 m2 hq1.ring, Below_row hB2 m3 hq1.qd, hq1.d1, hq1.d2, hq1.d3⟩
  have hB : Below w.heap.size w w2 := hB1.trans (hB2.mono s1)
  clear hq1 hB1 hB2
  go_wp2_with fail
  refine (queued11 _ q1 r1 b1 n _ _ _ hq1').mono ?_
  rintro e w' ⟨rfl, hw⟩
  obtain rfl := hw.symm
  go_wp2_with fail
  refine (queued11 _ q2 r2 b2 n _ _ _ hq2).mono ?_
  rintro e w' ⟨rfl, hw⟩
  obtain rfl := hw.symm
  go_wp2_with fail
  go_loopg [8, 9] len1 (fun g d i wx => ∃ t : Nat, t ≤ len1 ∧ g = len1 - t ∧ i = .int .i64 t ∧ ∃ R P, d = .int .i64 (cnt P n : Int) ∧ Marked Z n t P ∧ Twin w wx q1 r1 b1 q2 r2 b2 w2.heap.size n R P)
  case atStart => exact ⟨0, Nat.zero_le _, rfl, rfl, fun _ => 0, fun _ => false, by rw [cnt_false]; rfl, Marked.start _ _ _, hq1'.alloc _, hq2.alloc _, World.rowIs_made _ _ _ _, hB.alloc hB.size _⟩
  case round =>
    clear hq1' hq2 hB hmk26
    obtain ⟨t, ht, rfl, rfl, R, P, rfl, hM, hT⟩ := hrel
    have hB := hT.hB
    by_cases htl : t < len1
    · obtain rfl := ha (by omega)
      have htz : (t : Int) < (len1 : Int) := by omega
      have hcell : wr.cell? ⟨b, o + t, none⟩ = some (.int .i64 (Z t)) := by rw [hB.cell (p := ⟨b, o + t, none⟩) (hc t htl).1]; exact (hc t htl).2
      by_cases c1 : Z t < 0
      · have c1' : decide (Z t < 0) = true := decide_eq_true c1
        go_wp2_with fail
        go_roundg (len1 - (t + 1))
        case measure => omega
        case rel => exact ⟨t + 1, by omega, rfl, by go_num, R, P, rfl, hM.skip (fun k hk => by omega), hT⟩
      have c1' : decide (Z t < 0) = false := decide_eq_false c1
      by_cases c2 : (n : Int) ≤ Z t
      · go_wp2_with fail
        go_roundg (len1 - (t + 1))
        case measure => omega
        case rel => exact ⟨t + 1, by omega, rfl, by go_num, R, P, rfl, hM.skip (fun k hk => by omega), hT⟩
      obtain ⟨k, hk⟩ := Int.eq_ofNat_of_zero_le (show 0 ≤ Z t by omega)
      have hM2 := hM.push k hk
      rw [hk] at hcell c1 c2 c1'
      clear hk
      have hkr : k < n := by omega
      have hcn := cnt_le P n
      go_wp2_with fail
      refine (push12 _ q1 r1 b1 n k R P hT.h1 hkr hn).mono ?_
      rintro e w3 ⟨rfl, hI1, ho1⟩
      have hI2 : IQ w3 q2 r2 b2 n (cnt P n) R P := hT.h2.only ho1 (by simp; omega) (by simp; omega) (by simp; omega)
      have hs3 := ho1.row (b := w2.heap.size) (by simp; omega) hT.hs
      have hB3 : Below w.heap.size w w3 := hB.trans (ho1.below (by simp; omega))
      go_wp2_with fail
      refine (push12 _ q2 r2 b2 n k R P hI2 hkr hn).mono ?_
      rintro e w4 ⟨rfl, hI4, ho2⟩
      have hI3 := hI1.only ho2 (by simp; omega) (by simp; omega) (by simp; omega)
      have hs4 := ho2.row (b := w2.heap.size) (by simp; omega) hs3
      have hB4 : Below w.heap.size w w4 := hB3.trans (ho2.below (by simp; omega))
      have e1 := hs4.cell hkr
      have f1 := hs4.frozen k
      clear hI1 hI2 ho1 ho2 hs3 hB3 hcell
      cases hP : P k with
      | true =>
        rw [hP] at e1
        rw [upd_same P k hP] at hI3 hI4 hM2
        go_wp2_with fail
        go_roundg (len1 - (t + 1))
        case measure => omega
        case rel => exact ⟨t + 1, by omega, rfl, by go_num, _, P, rfl, hM2, hI3, hI4, hs4, hB4⟩
      | false =>
        rw [hP] at e1
        have hcu := cnt_upd_new P n k hkr hP
        have HC : Hid (cnt (upd P k true) n = cnt P n + 1) := hcu
        clear hcu
        have o3 : Only [w2.heap.size] w4 (w4.setCell ⟨w2.heap.size, k, none⟩ (.bool true)) := (Only.refl _ _).setCell (by simp) _
        have hI3' := hI3.only o3 (by simp; omega) (by simp; omega) (by simp; omega)
        have hI4' := hI4.only o3 (by simp; omega) (by simp; omega) (by simp; omega)
        have hs5 := (hs4.set k (.bool true)).congr (g := fun i => .bool (upd P k true i)) (fun i _ => by unfold upd; split <;> rfl)
        have hB5 := hB4.setCell (p := ⟨w2.heap.size, k, none⟩) (by show w.heap.size ≤ w2.heap.size; omega) (.bool true)
        clear hI3 hI4 hs4 hB4 o3
        go_wp2_with fail
        go_roundg (len1 - (t + 1))
        case measure => omega
        case rel => exact ⟨t + 1, by omega, rfl, by go_num, _, _, by rw [HC.out]; go_num, hM2, hI3', hI4', hs5, hB5⟩
    have ht' : t = len1 := by omega
    subst ht'
    go_wp2_with fail
    -- ████ LOOP 2: the keys once more, into the second
    go_loopg [11] t (fun g i wx => ∃ y : Nat, y ≤ t ∧ g = t - y ∧ i = .int .i64 y ∧ Twin w wx q1 r1 b1 q2 r2 b2 w2.heap.size n R P)
    case atStart => exact ⟨0, Nat.zero_le _, rfl, rfl, hT⟩
    case round =>
      clear hT hB
      obtain ⟨y, hy, rfl, rfl, hT⟩ := hrel
      have hB := hT.hB
      by_cases hyt : y < t
      · obtain rfl := ha (by omega)
        have hyz : (y : Int) < (t : Int) := by omega
        have hcell : wr.cell? ⟨b, o + y, none⟩ = some (.int .i64 (Z y)) := by rw [hB.cell (p := ⟨b, o + y, none⟩) (hc y hyt).1]; exact (hc y hyt).2
        by_cases c1 : Z y < 0
        · have c1' : decide (Z y < 0) = true := decide_eq_true c1
          go_wp2_with fail
          go_roundg (t - (y + 1))
          case measure => omega
          case rel => exact ⟨y + 1, by omega, rfl, by go_num, hT⟩
        have c1' : decide (Z y < 0) = false := decide_eq_false c1
        by_cases c2 : (n : Int) ≤ Z y
        · go_wp2_with fail
          go_roundg (t - (y + 1))
          case measure => omega
          case rel => exact ⟨y + 1, by omega, rfl, by go_num, hT⟩
        obtain ⟨k, hk⟩ := Int.eq_ofNat_of_zero_le (show 0 ≤ Z y by omega)
        have hkr : k < n := by omega
        have hPk := hM y hyt k hk hkr
        rw [hk] at hcell c1 c2 c1'
        clear hk
        go_wp2_with fail
        refine (push12 _ q2 r2 b2 n k R P hT.h2 hkr hn).mono ?_
        rintro e w3 ⟨rfl, hI2, ho⟩
        rw [upd_same P k hPk, if_pos hPk] at hI2
        have hI1 := hT.h1.only ho (by simp; omega) (by simp; omega) (by simp; omega)
        have hs3 := ho.row (b := w2.heap.size) (by simp; omega) hT.hs
        have hB3 : Below w.heap.size w w3 := hB.trans (ho.below (by simp; omega))
        clear hT hB ho
        go_wp2_with fail
        go_roundg (t - (y + 1))
        case measure => omega
        case rel => exact ⟨y + 1, by omega, rfl, by go_num, hI1, hI2, hs3, hB3⟩
      have hcn := cnt_le P n
      go_wp2_with fail
      refine (size13 _ q1 r1 b1 n _ R P hT.h1).mono ?_
      rintro e w' ⟨rfl, hw⟩
      obtain rfl := hw.symm
      go_wp2_with fail
      refine (size13 _ q2 r2 b2 n _ R P hT.h2).mono ?_
      rintro e w' ⟨rfl, hw⟩
      obtain rfl := hw.symm
      go_wp2_with fail
      refine (front14 _ q1 r1 b1 n _ R P hT.h1).mono ?_
      rintro e w' ⟨rfl, hw⟩
      obtain rfl := hw.symm
      go_wp2_with fail
      refine (front14 _ q2 r2 b2 n _ R P hT.h2).mono ?_
      rintro e w' ⟨rfl, hw⟩
      obtain rfl := hw.symm
      go_wp2_with fail
      refine (ring15 _ q1 r1 b1 n _ R P hT.h1).mono ?_
      rintro e w' ⟨rfl, hw⟩
      obtain rfl := hw.symm
      go_wp2_with fail
      refine (ring15 _ q2 r2 b2 n _ R P hT.h2).mono ?_
      rintro e w' ⟨rfl, hw⟩
      obtain rfl := hw.symm
      go_wp2_with fail
      -- ████ LOOP 3: the rings
      go_loopg [15] n (fun g i wx => ∃ j : Nat, j ≤ n ∧ g = n - j ∧ i = .int .i64 j ∧ Twin w wx q1 r1 b1 q2 r2 b2 w2.heap.size n R P)
      case atStart => exact ⟨0, Nat.zero_le _, rfl, rfl, hT⟩
      case round =>
        clear hT hB
        obtain ⟨j, hj, rfl, rfl, hT⟩ := hrel
        by_cases hjn : j < n
        · have hjz : (j : Int) < (n : Int) := by omega
          have e1 := hT.h1.ring.cell hjn
          have e2 := hT.h2.ring.cell hjn
          go_wp2_with fail
          go_quiet (fail)
          go_wp2_with fail
          go_roundg (n - (j + 1))
          case measure => omega
          case rel => exact ⟨j + 1, by omega, rfl, by go_num, hT.h1.drewN _, hT.h2.drewN _, hT.hs, ⟨hT.hB.os, hT.hB.tape, hT.hB.output, hT.hB.size, hT.hB.block⟩⟩
        go_wp2_with fail
        refine (queued11 _ q1 r1 b1 n _ _ _ hT.h1).mono ?_
        rintro e w' ⟨rfl, hw⟩
        obtain rfl := hw.symm
        go_wp2_with fail
        refine (queued11 _ q2 r2 b2 n _ _ _ hT.h2).mono ?_
        rintro e w' ⟨rfl, hw⟩
        obtain rfl := hw.symm
        go_wp2_with fail
        -- ████ LOOP 4: the marks
        go_loopg [18] n (fun g i wx => ∃ j : Nat, j ≤ n ∧ g = n - j ∧ i = .int .i64 j ∧ Twin w wx q1 r1 b1 q2 r2 b2 w2.heap.size n R P)
        case atStart => exact ⟨0, Nat.zero_le _, rfl, rfl, hT⟩
        case round =>
          clear hT
          obtain ⟨x, hx, rfl, rfl, hT⟩ := hrel
          by_cases hxn : x < n
          · have hxz : (x : Int) < (n : Int) := by omega
            have e1 := hT.h1.qd.cell hxn
            have e2 := hT.h2.qd.cell hxn
            go_wp2_with fail
            go_quiet (fail)
            go_wp2_with fail
            go_roundg (n - (x + 1))
            case measure => omega
            case rel => exact ⟨x + 1, by omega, rfl, by go_num, hT.h1.drewN _, hT.h2.drewN _, hT.hs, ⟨hT.hB.os, hT.hB.tape, hT.hB.output, hT.hB.size, hT.hB.block⟩⟩
          · go_wp2_with fail
            go_ret
            exact ⟨rfl, hT.hB⟩

set_option maxRecDepth 100000 in
theorem walk (a0 : Int) (a1 : Option Addr) (len1 cap1 : Nat) (z1 : List Int) (w : World) (w1 : IsRow .i64 w a1 len1 cap1 z1) :
    Calls Try.prog 3 #[.int .i64 a0, .slice a1 len1 cap1] w fun e w' => e = .returned (.bool true) ∧ Below w.heap.size w w' := by
  have hl := w1.le
  by_cases hb : len1 ≤ 1048576
  · by_cases g1 : a0 < 0
    · go_enter Try.func3, Try.ntmps3
      go_wp2_with (go_at_call 9; refine (bytes9 _ _ _ _ _ hl).mono ?_; rintro e w' ⟨rfl, rfl⟩)
      go_ret
      exact ⟨rfl, Below.refl _ _⟩
    by_cases g2 : 65536 < a0
    · go_enter Try.func3, Try.ntmps3
      go_wp2_with (go_at_call 9; refine (bytes9 _ _ _ _ _ hl).mono ?_; rintro e w' ⟨rfl, rfl⟩)
      go_ret
      exact ⟨rfl, Below.refl _ _⟩
    by_cases g3 : (65536 : Int) < (len1 : Int)
    · go_enter Try.func3, Try.ntmps3
      go_wp2_with (go_at_call 9; refine (bytes9 _ _ _ _ _ hl).mono ?_; rintro e w' ⟨rfl, rfl⟩)
      go_ret
      exact ⟨rfl, Below.refl _ _⟩
    obtain ⟨n, rfl⟩ := Int.eq_ofNat_of_zero_le (show 0 ≤ a0 by omega)
    by_cases g4 : (1048576 : Int) < (len1 : Int) * 8 + (n : Int) * 9
    · go_enter Try.func3, Try.ntmps3
      go_wp2_with (go_at_call 9; refine (bytes9 _ _ _ _ _ hl).mono ?_; rintro e w' ⟨rfl, rfl⟩)
      go_ret
      exact ⟨rfl, Below.refl _ _⟩
    obtain ⟨b, o, Z, ha, hc⟩ := w1.elems
    exact walk_big n a1 len1 cap1 b o Z w (by omega) (by omega) (by omega) ha hc
  · go_enter Try.func3, Try.ntmps3
    go_wp2_with (go_at_call 9; refine (bytes9 _ _ _ _ _ hl).mono ?_; rintro e w' ⟨rfl, rfl⟩)
    go_ret
    exact ⟨rfl, Below.refl _ _⟩

end Go.Proofs.Qxb6614740a.fnNewIdleQueueRepushChangesNothing
