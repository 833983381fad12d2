/-
  THE WALK OF 'FnInSetHasFollowsScript'.
-/
import Derived.Test.Qxb6614740aWith
namespace Go.Proofs.Qxb6614740a.fnInSetHasFollowsScript
open Go.RowKit

def okB (a b : Nat) : Bool := decide (a ≤ 1048576) && (decide (b ≤ 1048576) && decide (a + b ≤ 1048576))

theorem bytes18 (a0 : Int) (a1 : Option Addr) (len1 cap1 : Nat) (a2 : Option Addr) (len2 cap2 : Nat) (w : World) (hl : len1 ≤ 9223372036854775807) (hl2 : len2 ≤ 9223372036854775807) :
    Calls Try.prog 18 #[.int .i64 a0, .slice a1 len1 cap1, .slice a2 len2 cap2] w fun e w' => e = .returned (.bool (okB len1 len2)) ∧ w' = w := by
  unfold okB
  by_cases h : len1 ≤ 1048576
  · have h1 : ¬ (1048576 : Int) < (len1 : Int) := by omega
    by_cases h2 : len2 ≤ 1048576
    · have h3 : ¬ (1048576 : Int) < (len2 : Int) := by omega
      by_cases h4 : len1 + len2 ≤ 1048576
      · have h5 : ¬ (1048576 : Int) < (len1 : Int) + (len2 : Int) := by omega
        go_enter Try.func18, Try.ntmps18
        go_wp2
        go_ret
        exact ⟨by simp, rfl⟩
      · have h5 : (1048576 : Int) < (len1 : Int) + (len2 : Int) := by omega
        go_enter Try.func18, Try.ntmps18
        go_wp2
        go_ret
        exact ⟨by simp, rfl⟩
    · have h3 : (1048576 : Int) < (len2 : Int) := by omega
      go_enter Try.func18, Try.ntmps18
      go_wp2
      go_ret
      exact ⟨by simp, rfl⟩
  · have h1 : (1048576 : Int) < (len1 : Int) := by omega
    go_enter Try.func18, Try.ntmps18
    go_wp2
    go_ret
    exact ⟨by simp [h], rfl⟩

theorem wi_out1 (P : Nat → Bool) (k : Int) (x : Bool) (h : k < 0) (j : Nat) : wi P k x j = P j := by
  unfold wi; rw [if_neg (by omega)]
theorem wi_out2 (P : Nat → Bool) (k : Int) (x : Bool) (n : Nat) (h : (n : Int) ≤ k) (j : Nat) (hj : j < n) : wi P k x j = P j := by
  unfold wi; rw [if_neg (by omega)]

/-- The mask's row. -/
def Mask (w : World) (mb n : Nat) (P : Nat → Bool) : Prop := w.rowIs mb 4 n (fun i => .bool (P i))
theorem Mask.same {w : World} {mb n : Nat} {P P' : Nat → Bool} (h : Mask w mb n P) (e : ∀ j, j < n → P j = P' j) : Mask w mb n P' := World.rowIs.congr h (fun i hi => by rw [e i hi])
theorem Mask.put {w : World} {mb n : Nat} {P : Nat → Bool} (h : Mask w mb n P) (k : Nat) (x : Bool) : Mask (w.setCell ⟨mb, k, none⟩ (.bool x)) mb n (wi P (k : Int) x) := by
  refine World.rowIs.congr (World.rowIs.set h k _) fun i _ => ?_
  unfold wi
  by_cases e : i = k
  · simp [e]
  · rw [if_neg e, if_neg (by omega)]
theorem Mask.start (w : World) (n : Nat) : Mask (w.alloc (.cells (madeCells #[.bool false] n) 4)) w.heap.size n (fun _ => false) := World.rowIs_made _ _ _ _

set_option maxHeartbeats 4000000 in
theorem walk_big (n : Nat) (a1 : Option Addr) (len1 cap1 : Nat) (b1 o1 : Nat) (Z : Nat → Int) (a2 : Option Addr) (len2 cap2 : Nat) (b2 o2 : Nat) (X : Nat → Bool) (w : World) (hn : n ≤ 4096) (hl1 : len1 ≤ 1024) (hl2 : len2 ≤ 1024)
    (ha1 : 0 < len1 → a1 = some ⟨b1, o1, none⟩) (hc1 : ∀ i, i < len1 → b1 < w.heap.size ∧ w.cell? ⟨b1, o1 + i, none⟩ = some (.int .i64 (Z i)))
    (ha2 : 0 < len2 → a2 = some ⟨b2, o2, none⟩) (hc2 : ∀ i, i < len2 → b2 < w.heap.size ∧ w.cell? ⟨b2, o2 + i, none⟩ = some (.bool (X i))) :
    Calls Try.prog 5 #[.int .i64 (n : Int), .slice a1 len1 cap1, .slice a2 len2 cap2] w fun e w' => e = .returned (.bool true) ∧ Below w.heap.size w w' := by
  have hmk26 := run_make_row' (P := Try.prog) 26 4 (.bool false) 1 Try.underlying26 Try.info4 rfl .i64 .i64 n (by omega) (by omega)
  have hd1 : decide ((n : Int) < 0) = false := decide_eq_false (by omega)
  have hdb : okB len1 len2 = true := by unfold okB; simp; omega
  by_cases hmin : len2 < len1
  all_goals
    go_enter Try.func5, Try.ntmps5
    go_wp2_with (go_at_call 18; refine (bytes18 _ _ _ _ _ _ _ _ (by omega) (by omega)).mono ?_; rintro e w' ⟨rfl, hw⟩; obtain rfl := hw.symm)
    -- ████ LOOP 1: the mask is filled
    go_loopg [9] n (fun g i wx => ∃ t : Nat, t ≤ n ∧ g = n - t ∧ i = .int .i64 t ∧ (∃ M, Mask wx w.heap.size n M ∧ ∀ j, j < t → M j = true) ∧ Below w.heap.size w wx)
    case atStart => exact ⟨0, Nat.zero_le _, rfl, rfl, ⟨_, Mask.start w n, fun j hj => absurd hj (Nat.not_lt_zero _)⟩, by go_grown⟩
    case round =>
      obtain ⟨t, ht, rfl, rfl, ⟨M, hM, hMt⟩, hB⟩ := hrel
      clear hmk26
      by_cases htn : t < n
      · have htz : (t : Int) < (n : Int) := by omega
        have e1 : wr.cell? ⟨w.heap.size, t, none⟩ = some (.bool (M t)) := World.rowIs.cell hM htn
        have f1 : wr.frozen? ⟨w.heap.size, t, none⟩ = false := World.rowIs.frozen hM t
        go_wp2_with fail
        go_roundg (n - (t + 1))
        case measure => omega
        case rel => exact ⟨t + 1, by omega, rfl, by go_num, ⟨_, hM.put t true, fun j hj => by unfold wi; split; rfl; exact hMt j (by omega)⟩, hB.setCell (Nat.le_refl _) _⟩
      have ht' : t = n := by omega
      subst ht'
      have hm : Mask wr w.heap.size t (fun _ => true) := hM.same (fun j hj => hMt j hj)
      clear hM hMt
      have lm : w.heap.size < wr.heap.size := World.rowIs.lt hm
      go_wp2_with (go_at_call 19; refine (allIn19 _ t hn).mono ?_; rintro e w1 ⟨s, bb, pb, L, rfl, hI, l1, l2, hb⟩)
      have hB1 : Below w.heap.size w w1 := hB.trans (hb.mono (by omega))
      have hm1 : Mask w1 w.heap.size t (fun _ => true) := World.rowIs.of_block hm (hb.block _ lm)
      clear hm hB hb
      -- ████ LOOP 2: at the start all are in
      go_loopg [11] t (fun g i wx => ∃ j : Nat, j ≤ t ∧ g = t - j ∧ i = .int .i64 j ∧ InS wx s bb pb t t L (fun _ => true) ∧ Mask wx w.heap.size t (fun _ => true) ∧ Below w.heap.size w wx)
      case atStart => exact ⟨0, Nat.zero_le _, rfl, rfl, hI, hm1, hB1⟩
      case round =>
        clear hI hm1 hB1
        obtain ⟨j, hj, rfl, rfl, hI, hm1, hB1⟩ := hrel
        by_cases hjn : j < t
        · have hjz : (j : Int) < (t : Int) := by omega
          have e1 : wr.cell? ⟨w.heap.size, j, none⟩ = some (.bool true) := World.rowIs.cell hm1 hjn
          go_wp2_with fail
          go_quiet ((go_at_call 20; exact Calls.quiet_of_same (has20 _ s bb pb t t j L _ (hI.drewN _) hjn)))
          go_wp2_with fail
          go_roundg (t - (j + 1))
          case measure => omega
          case rel => exact ⟨j + 1, by omega, rfl, by go_num, hI.drewN _, hm1, ⟨hB1.os, hB1.tape, hB1.output, hB1.size, hB1.block⟩⟩
        have hj' : j = t := by omega
        subst hj'
        go_wp2_with fail
        -- ████ LOOP 3: the script
        go_loopg [12, 10] len1 (fun g i v wx => ∃ t : Nat, t ≤ len1 ∧ t ≤ len2 ∧ g = len1 - t ∧ i = .int .i64 t ∧ ∃ s bb pb cap L P, v = .pointer (some ⟨s, 0, none⟩) ∧ InS wx s bb pb j cap L P ∧ Mask wx w.heap.size j P ∧ w.heap.size < s ∧ w.heap.size < pb ∧ Below w.heap.size w wx)
        case atStart => exact ⟨0, Nat.zero_le _, Nat.zero_le _, rfl, rfl, s, bb, pb, _, L, _, rfl, hI, hm1, by omega, by omega, hB1⟩
        case round =>
          clear hI hm1 hB1 l1 l2
          obtain ⟨r, hr1, hr2, rfl, rfl, s, bb, pb, cap, L, P, rfl, hI, hm, ls, lp, hB⟩ := hrel
          by_cases hrl : r < len1 ∧ r < len2
          · obtain ⟨hrl1, hrl2⟩ := hrl
            obtain rfl := ha1 (by omega)
            obtain rfl := ha2 (by omega)
            have hrz1 : (r : Int) < (len1 : Int) := by omega
            have hrz2 : (r : Int) < (len2 : Int) := by omega
            have g1 : wr.cell? ⟨b1, o1 + r, none⟩ = some (.int .i64 (Z r)) := by rw [hB.cell (p := ⟨b1, o1 + r, none⟩) (hc1 r hrl1).1]; exact (hc1 r hrl1).2
            have g2 : wr.cell? ⟨b2, o2 + r, none⟩ = some (.bool (X r)) := by rw [hB.cell (p := ⟨b2, o2 + r, none⟩) (hc2 r hrl2).1]; exact (hc2 r hrl2).2
            generalize Z r = k at g1
            generalize X r = x at g2
            have lm : w.heap.size < wr.heap.size := World.rowIs.lt hm
            have hcase : (k < 0) ∨ ((j : Int) ≤ k) ∨ ∃ kk : Nat, kk < j ∧ k = kk := by
              by_cases q1 : k < 0
              · exact .inl q1
              · by_cases q2 : (j : Int) ≤ k
                · exact .inr (.inl q2)
                · exact .inr (.inr ⟨k.toNat, by omega, by omega⟩)
            rcases hcase with q | q | ⟨kk, hkk, rfl⟩
            · have q' : decide (0 ≤ k) = false := decide_eq_false (by omega)
              go_wp2_with (go_at_call 21; refine (with21 _ s bb pb j cap L P hI hn k x).mono ?_; rintro e w2 ⟨s', bb', pb', cap', L', rfl, hI2, ls', lp', hb⟩; have hm2 : Mask w2 w.heap.size j P := World.rowIs.of_block hm (hb.block _ lm))
              have hI3 := hI2
              have hm3 : Mask w2 w.heap.size j (wi P k x) := hm2.same (fun y _ => (wi_out1 P k x q y).symm)
              have hB3 : Below w.heap.size w w2 := hB.trans (hb.mono (by omega))
              clear hI2 hm2 hb hI hm hB g1 g2
              go_loopg [15] j (fun g i wx => ∃ y : Nat, y ≤ j ∧ g = j - y ∧ i = .int .i64 y ∧ InS wx s' bb' pb' j cap' L' (wi P k x) ∧ Mask wx w.heap.size j (wi P k x) ∧ Below w.heap.size w wx)
              case atStart => exact ⟨0, Nat.zero_le _, rfl, rfl, hI3, hm3, hB3⟩
              case round =>
                clear hI3 hm3 hB3
                obtain ⟨y, hy, rfl, rfl, hI3, hm3, hB3⟩ := hrel
                by_cases hyj : y < j
                · have hyz : (y : Int) < (j : Int) := by omega
                  have e3 : wr.cell? ⟨w.heap.size, y, none⟩ = some (.bool (wi P k x y)) := World.rowIs.cell hm3 hyj
                  go_wp2_with fail
                  go_quiet ((go_at_call 20; exact Calls.quiet_of_same (has20 _ s' bb' pb' j cap' y L' _ (hI3.drewN _) hyj)))
                  go_wp2_with fail
                  go_roundg (j - (y + 1))
                  case measure => omega
                  case rel => exact ⟨y + 1, by omega, rfl, by go_num, hI3.drewN _, hm3, ⟨hB3.os, hB3.tape, hB3.output, hB3.size, hB3.block⟩⟩
                · go_wp2_with fail
                  go_roundg (len1 - (r + 1))
                  case measure => omega
                  case rel => exact ⟨r + 1, by omega, by omega, rfl, by go_num, s', bb', pb', cap', L', _, rfl, hI3, hm3, by omega, by omega, hB3⟩
            · have q' : decide (0 ≤ k) = true := decide_eq_true (by omega)
              go_wp2_with (go_at_call 21; refine (with21 _ s bb pb j cap L P hI hn k x).mono ?_; rintro e w2 ⟨s', bb', pb', cap', L', rfl, hI2, ls', lp', hb⟩; have hm2 : Mask w2 w.heap.size j P := World.rowIs.of_block hm (hb.block _ lm))
              have hI3 := hI2
              have hm3 : Mask w2 w.heap.size j (wi P k x) := hm2.same (fun y hy => (wi_out2 P k x j q y hy).symm)
              have hB3 : Below w.heap.size w w2 := hB.trans (hb.mono (by omega))
              clear hI2 hm2 hb hI hm hB g1 g2
              go_loopg [15] j (fun g i wx => ∃ y : Nat, y ≤ j ∧ g = j - y ∧ i = .int .i64 y ∧ InS wx s' bb' pb' j cap' L' (wi P k x) ∧ Mask wx w.heap.size j (wi P k x) ∧ Below w.heap.size w wx)
              case atStart => exact ⟨0, Nat.zero_le _, rfl, rfl, hI3, hm3, hB3⟩
              case round =>
                clear hI3 hm3 hB3
                obtain ⟨y, hy, rfl, rfl, hI3, hm3, hB3⟩ := hrel
                by_cases hyj : y < j
                · have hyz : (y : Int) < (j : Int) := by omega
                  have e3 : wr.cell? ⟨w.heap.size, y, none⟩ = some (.bool (wi P k x y)) := World.rowIs.cell hm3 hyj
                  go_wp2_with fail
                  go_quiet ((go_at_call 20; exact Calls.quiet_of_same (has20 _ s' bb' pb' j cap' y L' _ (hI3.drewN _) hyj)))
                  go_wp2_with fail
                  go_roundg (j - (y + 1))
                  case measure => omega
                  case rel => exact ⟨y + 1, by omega, rfl, by go_num, hI3.drewN _, hm3, ⟨hB3.os, hB3.tape, hB3.output, hB3.size, hB3.block⟩⟩
                · go_wp2_with fail
                  go_roundg (len1 - (r + 1))
                  case measure => omega
                  case rel => exact ⟨r + 1, by omega, by omega, rfl, by go_num, s', bb', pb', cap', L', _, rfl, hI3, hm3, by omega, by omega, hB3⟩
            · have q' : (kk : Int) < (j : Int) := by omega
              go_wp2_with (go_at_call 21; refine (with21 _ s bb pb j cap L P hI hn (kk : Int) x).mono ?_; rintro e w2 ⟨s', bb', pb', cap', L', rfl, hI2, ls', lp', hb⟩; have hm2 : Mask w2 w.heap.size j P := World.rowIs.of_block hm (hb.block _ lm); have e1 : w2.cell? ⟨w.heap.size, kk, none⟩ = some (.bool (P kk)) := World.rowIs.cell hm2 hkk; have f1 : w2.frozen? ⟨w.heap.size, kk, none⟩ = false := World.rowIs.frozen hm2 kk)
              have hI3 : InS (w2.setCell ⟨w.heap.size, kk, none⟩ (.bool x)) s' bb' pb' j cap' L' (wi P (kk : Int) x) := hI2.blocks (Below.heap_setCell _ _ _ _ (by show s' ≠ w.heap.size; omega)) (Below.heap_setCell _ _ _ _ (by show pb' ≠ w.heap.size; omega))
              have hm3 := hm2.put kk x
              have hB3 : Below w.heap.size w (w2.setCell ⟨w.heap.size, kk, none⟩ (.bool x)) := (hB.trans (hb.mono (by omega))).setCell (Nat.le_refl _) _
              clear hI2 hm2 hb hI hm hB g1 g2
              go_loopg [15] j (fun g i wx => ∃ y : Nat, y ≤ j ∧ g = j - y ∧ i = .int .i64 y ∧ InS wx s' bb' pb' j cap' L' (wi P (kk : Int) x) ∧ Mask wx w.heap.size j (wi P (kk : Int) x) ∧ Below w.heap.size w wx)
              case atStart => exact ⟨0, Nat.zero_le _, rfl, rfl, hI3, hm3, hB3⟩
              case round =>
                clear hI3 hm3 hB3
                obtain ⟨y, hy, rfl, rfl, hI3, hm3, hB3⟩ := hrel
                by_cases hyj : y < j
                · have hyz : (y : Int) < (j : Int) := by omega
                  have e3 : wr.cell? ⟨w.heap.size, y, none⟩ = some (.bool (wi P (kk : Int) x y)) := World.rowIs.cell hm3 hyj
                  go_wp2_with fail
                  go_quiet ((go_at_call 20; exact Calls.quiet_of_same (has20 _ s' bb' pb' j cap' y L' _ (hI3.drewN _) hyj)))
                  go_wp2_with fail
                  go_roundg (j - (y + 1))
                  case measure => omega
                  case rel => exact ⟨y + 1, by omega, rfl, by go_num, hI3.drewN _, hm3, ⟨hB3.os, hB3.tape, hB3.output, hB3.size, hB3.block⟩⟩
                · go_wp2_with fail
                  go_roundg (len1 - (r + 1))
                  case measure => omega
                  case rel => exact ⟨r + 1, by omega, by omega, rfl, by go_num, s', bb', pb', cap', L', _, rfl, hI3, hm3, by omega, by omega, hB3⟩
          · go_wp2_with fail
            go_ret
            exact ⟨rfl, hB⟩

/-- What the walk is told of a slice of bools that came in. -/
def IsBools (w : World) (a : Option Addr) (len : Nat) : Prop :=
  len ≤ 9223372036854775807 ∧ ∃ (b o : Nat) (X : Nat → Bool), (0 < len → a = some ⟨b, o, none⟩) ∧ ∀ i, i < len → b < w.heap.size ∧ w.cell? ⟨b, o + i, none⟩ = some (.bool (X i))

theorem isBools_nil (w : World) : IsBools w none 0 := ⟨by omega, 0, 0, fun _ => false, by omega, fun i hi => by omega⟩
theorem isBools_mk {w : World} {a : Addr} {len cap : Nat} {B : Nat → Bool} (hl : len ≤ cap) (hm : cap ≤ maxLen) (hc : ∀ i, i < cap → w.cell? (a.add i) = some (.bool (B i))) : IsBools w (some a) len := by
  unfold maxLen at hm
  obtain ⟨b, o, spot⟩ := a
  refine ⟨by omega, b, o, B, fun h => ?_, fun i hi => ?_⟩
  · have hs : spot = none := by simpa [Addr.add] using World.cell?_spot (hc 0 (by omega))
    rw [hs]
  · have hs : spot = none := by simpa [Addr.add] using World.cell?_spot (hc 0 (by omega))
    subst hs
    have h6 : w.cell? ⟨b, o + i, none⟩ = some (.bool (B i)) := by rw [← Addr.add_lit]; exact hc i (by omega)
    exact ⟨World.block_lt_of_cell? _ _ h6, h6⟩

theorem walk (a0 : Int) (a1 : Option Addr) (len1 cap1 : Nat) (z1 : List Int) (a2 : Option Addr) (len2 cap2 : Nat) (w : World) (w1 : IsRow .i64 w a1 len1 cap1 z1) (w2 : IsBools w a2 len2) :
    Calls Try.prog 5 #[.int .i64 a0, .slice a1 len1 cap1, .slice a2 len2 cap2] w fun e w' => e = .returned (.bool true) ∧ Below w.heap.size w w' := by
  have hl := w1.le
  have hl2 := w2.1
  cases hb : okB len1 len2 with
  | true =>
    by_cases g1 : a0 < 0
    · go_enter Try.func5, Try.ntmps5
      go_wp2_with (go_at_call 18; refine (bytes18 _ _ _ _ _ _ _ _ hl hl2).mono ?_; rintro e w' ⟨rfl, rfl⟩)
      go_ret
      exact ⟨rfl, Below.refl _ _⟩
    by_cases g2 : 4096 < a0
    · go_enter Try.func5, Try.ntmps5
      go_wp2_with (go_at_call 18; refine (bytes18 _ _ _ _ _ _ _ _ hl hl2).mono ?_; rintro e w' ⟨rfl, rfl⟩)
      go_ret
      exact ⟨rfl, Below.refl _ _⟩
    by_cases g3 : (1024 : Int) < (len1 : Int)
    · go_enter Try.func5, Try.ntmps5
      go_wp2_with (go_at_call 18; refine (bytes18 _ _ _ _ _ _ _ _ hl hl2).mono ?_; rintro e w' ⟨rfl, rfl⟩)
      go_ret
      exact ⟨rfl, Below.refl _ _⟩
    by_cases g4 : (1024 : Int) < (len2 : Int)
    · go_enter Try.func5, Try.ntmps5
      go_wp2_with (go_at_call 18; refine (bytes18 _ _ _ _ _ _ _ _ hl hl2).mono ?_; rintro e w' ⟨rfl, rfl⟩)
      go_ret
      exact ⟨rfl, Below.refl _ _⟩
    obtain ⟨n, rfl⟩ := Int.eq_ofNat_of_zero_le (show 0 ≤ a0 by omega)
    obtain ⟨b1, o1, Z, ha, hc⟩ := w1.elems
    obtain ⟨_, b2, o2, X, ha2, hc2⟩ := w2
    exact walk_big n a1 len1 cap1 b1 o1 Z a2 len2 cap2 b2 o2 X w (by omega) (by omega) (by omega) ha hc ha2 hc2
  | false =>
    go_enter Try.func5, Try.ntmps5
    go_wp2_with (go_at_call 18; refine (bytes18 _ _ _ _ _ _ _ _ hl hl2).mono ?_; rintro e w' ⟨rfl, rfl⟩)
    go_ret
    exact ⟨rfl, Below.refl _ _⟩

end Go.Proofs.Qxb6614740a.fnInSetHasFollowsScript
