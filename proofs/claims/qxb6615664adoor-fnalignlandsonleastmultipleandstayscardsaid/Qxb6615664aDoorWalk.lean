/-
  THE WALK OF 'FnAlignLandsOnLeastMultipleAndStays'.
-/
import Derived.Test.Qxb6615664aDoorCalls
namespace Go.Proofs.Qxb6615664aDoor
open Go.RowKit

theorem bytes4 (a : Option Addr) (len cap : Nat) (be : Bool) (p dp n : Int) (w : World) (hl : len ≤ 9223372036854775807) :
    Calls Tryd.prog 4 #[.slice a len cap, .bool be, .int .i64 p, .int .i64 dp, .int .i64 n] w fun e w' => e = .returned (.bool (decide (len ≤ 1048576))) ∧ w' = w := by
  by_cases h : len ≤ 1048576
  · have h1 : ¬ (1048576 : Int) < (len : Int) := by omega
    go_enter Tryd.func4, Tryd.ntmps4
    go_wp2
    go_ret
    exact ⟨by simp, rfl⟩
  · have h1 : (1048576 : Int) < (len : Int) := by omega
    go_enter Tryd.func4, Tryd.ntmps4
    go_wp2
    go_ret
    exact ⟨by simp [h], rfl⟩

/-- What the walk is told of the slice of bytes that came in. -/
def IsRow (w : World) (a : Option Addr) (len cap : Nat) (zs : List Int) : Prop :=
  (a = none ∧ len = 0 ∧ cap = 0 ∧ zs = []) ∨ ∃ x, a = some x ∧ len ≤ cap ∧ cap ≤ maxLen ∧ zs.length = cap ∧ ∀ i, i < zs.length → w.cell? (x.add i) = some (.int .u8 (zs.getD i 0))

theorem IsRow.le {w : World} {a : Option Addr} {len cap : Nat} {zs : List Int} (h : IsRow w a len cap zs) : len ≤ 9223372036854775807 := by
  rcases h with ⟨_, h, _, _⟩ | ⟨x, _, h1, h2, _⟩
  · omega
  · unfold maxLen at h2; omega

/-- CLONE, whatever came in. -/
theorem clone6 (w : World) (a : Option Addr) (len cap : Nat) (zs : List Int) (h : IsRow w a len cap zs) (hl : len ≤ 1048576) :
    Calls Tryd.prog 6 #[.slice a len cap] w fun e w' => ∃ a' cap', e = .returned (.slice a' len cap') ∧ Below w.heap.size w w' := by
  rcases h with ⟨rfl, rfl, rfl, _⟩ | ⟨x, rfl, h1, _, h3, h4⟩
  · exact (clone6_nil w).mono fun e w' ⟨he, hw⟩ => ⟨none, 0, he, by rw [hw]; exact Below.refl _ _⟩
  · exact (clone6_some w x len cap zs hl (by omega) h4).mono fun e w' ⟨he, hb⟩ => ⟨_, len, he, hb⟩

theorem Dec.below {w w' : World} {d : Nat} {bv ov : Value} {p dp : Int} (h : Dec w d bv ov p dp) {B : Nat} (hb : Below B w w') (hd : d < B) : Dec w' d bv ov p dp := World.rowIs.of_block h (hb.block d hd)

set_option maxHeartbeats 1000000 in
set_option maxRecDepth 100000 in
theorem walk_fits (a : Option Addr) (len cap : Nat) (zs : List Int) (be : Bool) (p n : Nat) (dp : Int) (ti : TypeId) (x : Value) (w : World) (h : IsRow w a len cap zs) (he : w.cell? ⟨2, 0, none⟩ = some (.iface ti x)) (hl : len ≤ 1048576) (hp : p ≤ len) (hn : 1 ≤ n) (hn2 : n ≤ 1073741824) (hb : n &&& (n - 1) = 0) (hc : ceil p n ≤ len) :
    Calls Tryd.prog 3 #[.slice a len cap, .bool be, .int .i64 (p : Int), .int .i64 dp, .int .i64 (n : Int)] w fun e w' => e = .returned (.bool true) ∧ Below w.heap.size w w' := by
  have hdb : decide (len ≤ 1048576) = true := decide_eq_true hl
  have d1 : decide ((p : Int) < 0) = false := decide_eq_false (by omega)
  have d2 : decide ((len : Int) < (p : Int)) = false := decide_eq_false (by omega)
  have d3 : decide ((n : Int) < 1) = false := decide_eq_false (by omega)
  have d4 : decide ((1073741824 : Int) < (n : Int)) = false := decide_eq_false (by omega)
  have d5 : (bits .and .i64 (n : Int) ((n : Int) - 1) != 0) = false := by rw [test_bits n hn hn2, hb]; rfl
  have l2 : 2 < w.heap.size := World.block_lt_of_cell? _ _ he
  have hcz : (ceil p n : Int) ≤ (len : Int) := by omega
  go_enter Tryd.func3, Tryd.ntmps3
  go_wp2_with (go_at_call 4; refine (bytes4 _ _ _ _ _ _ _ _ (by omega)).mono ?_; rintro e w' ⟨rfl, hw⟩; obtain rfl := hw.symm)
  refine (clone6 _ a len cap zs h hl).mono ?_
  rintro e w1 ⟨a', cap', rfl, hB1⟩
  go_wp2_with fail
  refine (new5 _ a' len cap' be (p : Int) dp).mono ?_
  rintro e w2 ⟨d, ov, rfl, hD, hd, hB2⟩
  have s1 := hB1.size
  have hBa : Below w.heap.size w w2 := hB1.trans (hB2.mono s1)
  have he2 : w2.cell? ⟨2, 0, none⟩ = some (.iface ti x) := (hBa.cell (p := ⟨2, 0, none⟩) l2).trans he
  clear hB1 hB2 he h
  go_wp2_with fail
  refine (align7_fits _ d a' len cap' ov p n dp hD hn hn2 (by omega) hb hc).mono ?_
  rintro e w3 ⟨rfl, hD3, hB3⟩
  have hBb := hBa.trans (hB3 w.heap.size (by omega))
  clear hD hBa hB3 he2
  go_wp2_with fail
  refine (pos8 _ d _ _ _ _ hD3).mono ?_
  rintro e w' ⟨rfl, hw⟩
  obtain rfl := hw.symm
  have hcc := ceil_ceil p n hn
  have HCC : Hid (ceil (ceil p n) n = ceil p n) := hcc
  clear hcc
  go_wp2_with fail
  refine (align7_fits _ d a' len cap' ov (ceil p n) n dp hD3 hn hn2 (by omega) hb (by rw [HCC.out]; exact hc)).mono ?_
  rintro e w4 ⟨rfl, hD4, hB4⟩
  rw [HCC.out] at hD4
  have hBc := hBb.trans (hB4 w.heap.size (by omega))
  clear hD3 hBb hB4
  go_wp2_with fail
  refine (pos8 _ d _ _ _ _ hD4).mono ?_
  rintro e w' ⟨rfl, hw⟩
  obtain rfl := hw.symm
  go_wp2_with fail
  refine (depth9 _ d _ _ _ _ hD4).mono ?_
  rintro e w' ⟨rfl, hw⟩
  obtain rfl := hw.symm
  go_wp2_with fail
  refine (ceil10 _ p n hn hn2 (by omega)).mono ?_
  rintro e w' ⟨rfl, hw⟩
  obtain rfl := hw.symm
  go_wp2_with fail
  go_ret
  exact ⟨rfl, hBc⟩

set_option maxHeartbeats 1000000 in
set_option maxRecDepth 100000 in
theorem walk_fails (a : Option Addr) (len cap : Nat) (zs : List Int) (be : Bool) (p n : Nat) (dp : Int) (ti : TypeId) (x : Value) (w : World) (h : IsRow w a len cap zs) (he : w.cell? ⟨2, 0, none⟩ = some (.iface ti x)) (hl : len ≤ 1048576) (hp : p ≤ len) (hn : 1 ≤ n) (hn2 : n ≤ 1073741824) (hb : n &&& (n - 1) = 0) (hc : ¬ ceil p n ≤ len) :
    Calls Tryd.prog 3 #[.slice a len cap, .bool be, .int .i64 (p : Int), .int .i64 dp, .int .i64 (n : Int)] w fun e w' => e = .returned (.bool true) ∧ Below w.heap.size w w' := by
  have hdb : decide (len ≤ 1048576) = true := decide_eq_true hl
  have d1 : decide ((p : Int) < 0) = false := decide_eq_false (by omega)
  have d2 : decide ((len : Int) < (p : Int)) = false := decide_eq_false (by omega)
  have d3 : decide ((n : Int) < 1) = false := decide_eq_false (by omega)
  have d4 : decide ((1073741824 : Int) < (n : Int)) = false := decide_eq_false (by omega)
  have d5 : (bits .and .i64 (n : Int) ((n : Int) - 1) != 0) = false := by rw [test_bits n hn hn2, hb]; rfl
  have l2 : 2 < w.heap.size := World.block_lt_of_cell? _ _ he
  have hcz : ¬ (ceil p n : Int) ≤ (len : Int) := by omega
  go_enter Tryd.func3, Tryd.ntmps3
  go_wp2_with (go_at_call 4; refine (bytes4 _ _ _ _ _ _ _ _ (by omega)).mono ?_; rintro e w' ⟨rfl, hw⟩; obtain rfl := hw.symm)
  refine (clone6 _ a len cap zs h hl).mono ?_
  rintro e w1 ⟨a', cap', rfl, hB1⟩
  go_wp2_with fail
  refine (new5 _ a' len cap' be (p : Int) dp).mono ?_
  rintro e w2 ⟨d, ov, rfl, hD, hd, hB2⟩
  have s1 := hB1.size
  have hBa : Below w.heap.size w w2 := hB1.trans (hB2.mono s1)
  have he2 : w2.cell? ⟨2, 0, none⟩ = some (.iface ti x) := (hBa.cell (p := ⟨2, 0, none⟩) l2).trans he
  clear hB1 hB2 he h
  go_wp2_with fail
  refine (align7_fails _ d a' len cap' ov p n dp ti x he2 hD hn hn2 (by omega) hb hc).mono ?_
  rintro e w' ⟨rfl, hw⟩
  obtain rfl := hw.symm
  go_wp2_with fail
  refine (pos8 _ d _ _ _ _ hD).mono ?_
  rintro e w' ⟨rfl, hw⟩
  obtain rfl := hw.symm
  go_wp2_with fail
  refine (align7_fails _ d a' len cap' ov p n dp ti x he2 hD hn hn2 (by omega) hb hc).mono ?_
  rintro e w' ⟨rfl, hw⟩
  obtain rfl := hw.symm
  go_wp2_with fail
  refine (pos8 _ d _ _ _ _ hD).mono ?_
  rintro e w' ⟨rfl, hw⟩
  obtain rfl := hw.symm
  go_wp2_with fail
  refine (depth9 _ d _ _ _ _ hD).mono ?_
  rintro e w' ⟨rfl, hw⟩
  obtain rfl := hw.symm
  go_wp2_with fail
  refine (ceil10 _ p n hn hn2 (by omega)).mono ?_
  rintro e w' ⟨rfl, hw⟩
  obtain rfl := hw.symm
  go_wp2_with fail
  go_ret
  exact ⟨rfl, hBa⟩

set_option maxRecDepth 100000 in
theorem walk (a : Option Addr) (len cap : Nat) (zs : List Int) (be : Bool) (p dp n : Int) (ti : TypeId) (x : Value) (w : World) (h : IsRow w a len cap zs) (he : w.cell? ⟨2, 0, none⟩ = some (.iface ti x)) :
    Calls Tryd.prog 3 #[.slice a len cap, .bool be, .int .i64 p, .int .i64 dp, .int .i64 n] w fun e w' => e = .returned (.bool true) ∧ Below w.heap.size w w' := by
  have hl := h.le
  cases hdb : decide (len ≤ 1048576) with
  | false =>
    go_enter Tryd.func3, Tryd.ntmps3
    go_wp2_with (go_at_call 4; refine (bytes4 _ _ _ _ _ _ _ _ hl).mono ?_; rintro e w' ⟨rfl, rfl⟩)
    go_ret
    exact ⟨rfl, Below.refl _ _⟩
  | true =>
    have hl2 : len ≤ 1048576 := of_decide_eq_true hdb
    have hl3 : ¬ (1048576 : Int) < (len : Int) := by omega
    by_cases g1 : p < 0
    · have d1 : decide (p < 0) = true := decide_eq_true g1
      go_enter Tryd.func3, Tryd.ntmps3
      go_wp2_with (go_at_call 4; refine (bytes4 _ _ _ _ _ _ _ _ hl).mono ?_; rintro e w' ⟨rfl, rfl⟩)
      go_ret
      exact ⟨rfl, Below.refl _ _⟩
    have d1 : decide (p < 0) = false := decide_eq_false g1
    by_cases g2 : (len : Int) < p
    · have d2 : decide ((len : Int) < p) = true := decide_eq_true g2
      go_enter Tryd.func3, Tryd.ntmps3
      go_wp2_with (go_at_call 4; refine (bytes4 _ _ _ _ _ _ _ _ hl).mono ?_; rintro e w' ⟨rfl, rfl⟩)
      go_ret
      exact ⟨rfl, Below.refl _ _⟩
    have d2 : decide ((len : Int) < p) = false := decide_eq_false g2
    by_cases g3 : n < 1
    · have d3 : decide (n < 1) = true := decide_eq_true g3
      go_enter Tryd.func3, Tryd.ntmps3
      go_wp2_with (go_at_call 4; refine (bytes4 _ _ _ _ _ _ _ _ hl).mono ?_; rintro e w' ⟨rfl, rfl⟩)
      go_ret
      exact ⟨rfl, Below.refl _ _⟩
    have d3 : decide (n < 1) = false := decide_eq_false g3
    by_cases g4 : 1073741824 < n
    · have d4 : decide (1073741824 < n) = true := decide_eq_true g4
      go_enter Tryd.func3, Tryd.ntmps3
      go_wp2_with (go_at_call 4; refine (bytes4 _ _ _ _ _ _ _ _ hl).mono ?_; rintro e w' ⟨rfl, rfl⟩)
      go_ret
      exact ⟨rfl, Below.refl _ _⟩
    have d4 : decide (1073741824 < n) = false := decide_eq_false g4
    obtain ⟨p, rfl⟩ := Int.eq_ofNat_of_zero_le (show 0 ≤ p by omega)
    obtain ⟨n, rfl⟩ := Int.eq_ofNat_of_zero_le (show 0 ≤ n by omega)
    by_cases g5 : n &&& (n - 1) = 0
    · by_cases g6 : ceil p n ≤ len
      · exact walk_fits a len cap zs be p n dp ti x w h he hl2 (by omega) (by omega) (by omega) g5 g6
      · exact walk_fails a len cap zs be p n dp ti x w h he hl2 (by omega) (by omega) (by omega) g5 g6
    · have d5 : (bits .and .i64 (n : Int) ((n : Int) - 1) != 0) = true := by
        rw [test_bits n (by omega) (by omega), bne_iff_ne]
        omega
      go_enter Tryd.func3, Tryd.ntmps3
      go_wp2_with (go_at_call 4; refine (bytes4 _ _ _ _ _ _ _ _ hl).mono ?_; rintro e w' ⟨rfl, rfl⟩)
      go_ret
      exact ⟨rfl, Below.refl _ _⟩

end Go.Proofs.Qxb6615664aDoor
