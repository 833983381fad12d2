/-
  THE WALK OF 'FnBuiltOnExactlyOneBase'.
-/
import Derived.Test.Qxb6615060aBase
namespace Go.Proofs.Qxb6615060a.fnBuiltOnExactlyOneBase
open Go.RowKit

theorem bytes12 (a b c : ByteArray) (t : Bool) (w : World) (ha : a.size ≤ 9223372036854775807) (hb : b.size ≤ 9223372036854775807) (hc : c.size ≤ 9223372036854775807) :
    Calls Try.prog 12 #[.string a, .string b, .string c, .bool t] w fun e w' => e = .returned (.bool (decide (a.size + b.size + c.size ≤ 1048576))) ∧ w' = w := by
  by_cases h1 : (1048576 : Int) < (a.size : Int)
  · have hd : decide (a.size + b.size + c.size ≤ 1048576) = false := decide_eq_false (by omega)
    rw [hd]
    go_enter Try.func12, Try.ntmps12
    go_wp2
    go_ret
    exact ⟨rfl, rfl⟩
  by_cases h2 : (1048576 : Int) < (b.size : Int)
  · have hd : decide (a.size + b.size + c.size ≤ 1048576) = false := decide_eq_false (by omega)
    rw [hd]
    go_enter Try.func12, Try.ntmps12
    go_wp2
    go_ret
    exact ⟨rfl, rfl⟩
  by_cases h3 : (1048576 : Int) < (a.size : Int) + (b.size : Int)
  · have hd : decide (a.size + b.size + c.size ≤ 1048576) = false := decide_eq_false (by omega)
    rw [hd]
    go_enter Try.func12, Try.ntmps12
    go_wp2
    go_ret
    exact ⟨rfl, rfl⟩
  by_cases h4 : (1048576 : Int) < (c.size : Int)
  · have hd : decide (a.size + b.size + c.size ≤ 1048576) = false := decide_eq_false (by omega)
    rw [hd]
    go_enter Try.func12, Try.ntmps12
    go_wp2
    go_ret
    exact ⟨rfl, rfl⟩
  by_cases h5 : (1048576 : Int) < (a.size : Int) + (b.size : Int) + (c.size : Int)
  · have hd : decide (a.size + b.size + c.size ≤ 1048576) = false := decide_eq_false (by omega)
    rw [hd]
    go_enter Try.func12, Try.ntmps12
    go_wp2
    go_ret
    exact ⟨rfl, rfl⟩
  have hd : decide (a.size + b.size + c.size ≤ 1048576) = true := decide_eq_true (by omega)
  rw [hd]
  go_enter Try.func12, Try.ntmps12
  go_wp2
  go_ret
  exact ⟨rfl, rfl⟩

set_option maxHeartbeats 1000000 in
theorem walk_big (a b c : ByteArray) (t : Bool) (w : World) (hs : a.size + b.size + c.size ≤ 1048576) (h1 : a.size ≤ 262144) (h2 : b.size ≤ 262144) (h3 : c.size ≤ 262144) :
    Calls Try.prog 5 #[.string a, .string b, .string c, .bool t] w fun e w' => e = .returned (.bool true) ∧ Grown w w' := by
  have hd : decide (a.size + b.size + c.size ≤ 1048576) = true := decide_eq_true hs
  have d1 : decide ((262144 : Int) < (a.size : Int)) = false := decide_eq_false (by omega)
  have d2 : decide ((262144 : Int) < (b.size : Int)) = false := decide_eq_false (by omega)
  have d3 : decide ((262144 : Int) < (c.size : Int)) = false := decide_eq_false (by omega)
  cases t
  · go_enter Try.func5, Try.ntmps5
    go_wp2_with (go_at_call 12; refine (bytes12 _ _ _ _ _ (by omega) (by omega) (by omega)).mono ?_; rintro e w' ⟨rfl, hw⟩; obtain rfl := hw.symm)
    refine (state13 _ a).mono ?_
    rintro e w1 ⟨rfl, s0, x1⟩
    go_wp2_with fail
    refine (state13 _ b).mono ?_
    rintro e w2 ⟨rfl, s1, x2⟩
    have n12 := s1.lt
    have s0 := s0.kept x2
    go_wp2_with fail
    refine (state13 _ c).mono ?_
    rintro e w3 ⟨rfl, s2, x3⟩
    have s0 := s0.kept x3
    have s1 := s1.kept x3
    go_wp2_with fail
    refine (item14 _ _ _).mono ?_
    rintro e w4 ⟨i1, rfl, t1, x4⟩
    go_wp2_with fail
    refine (item14 _ _ _).mono ?_
    rintro e w5 ⟨i2, rfl, t2, x5⟩
    go_wp2_with fail
    refine (item14 _ _ _).mono ?_
    rintro e w6 ⟨i3, rfl, t3, x6⟩
    have t1 := (t1.kept x5).kept x6
    have t2 := t2.kept x6
    have s1 := ((s1.kept x4).kept x5).kept x6
    have s2 := ((s2.kept x4).kept x5).kept x6
    have n1 := St.lt s0
    go_wp2_with fail
    refine (on_tips _ i3 _ _ t3).mono ?_
    rintro e w' ⟨rfl, hw⟩
    obtain rfl := hw.symm
    go_wp2_with fail
    refine (on_item _ i3 i1 _ _ _ _ true t3 t1 (eql_same _ _)).mono ?_
    rintro e w8 ⟨rfl, x8⟩
    have t2 := t2.kept x8
    have t3 := t3.kept x8
    have s1 := s1.kept x8
    have s2 := s2.kept x8
    have hne : w1.heap.size ≠ w2.heap.size := by omega
    go_wp2_with fail
    refine (on_item _ i3 i2 _ _ _ _ false t3 t2 (eql_other _ _ _ s1 s2 hne)).mono ?_
    rintro e w9 ⟨rfl, x9⟩
    go_wp2_with fail
    go_ret
    exact ⟨rfl, (((((((x1.trans x2).trans x3).trans x4).trans x5).trans x6).trans x8).trans x9).grown⟩
  · go_enter Try.func5, Try.ntmps5
    go_wp2_with (go_at_call 12; refine (bytes12 _ _ _ _ _ (by omega) (by omega) (by omega)).mono ?_; rintro e w' ⟨rfl, hw⟩; obtain rfl := hw.symm)
    refine (state13 _ a).mono ?_
    rintro e w1 ⟨rfl, s0, x1⟩
    go_wp2_with fail
    refine (state13 _ b).mono ?_
    rintro e w2 ⟨rfl, s1, x2⟩
    have n12 := s1.lt
    have s0 := s0.kept x2
    go_wp2_with fail
    refine (state13 _ c).mono ?_
    rintro e w3 ⟨rfl, s2, x3⟩
    have s0 := s0.kept x3
    have s1 := s1.kept x3
    go_wp2_with fail
    refine (item14 _ _ _).mono ?_
    rintro e w4 ⟨i1, rfl, t1, x4⟩
    go_wp2_with fail
    refine (item14 _ _ _).mono ?_
    rintro e w5 ⟨i2, rfl, t2, x5⟩
    go_wp2_with fail
    refine (item14 _ _ _).mono ?_
    rintro e w6 ⟨i3, rfl, t3, x6⟩
    go_wp2_with fail
    refine (item14 _ _ _).mono ?_
    rintro e w7 ⟨i4, rfl, t4, x7⟩
    have x67 := x6.trans x7
    have t1 := (t1.kept x5).kept x67
    have t2 := t2.kept x67
    have n1 := x1.size
    have n2 := x2.size
    go_wp2_with fail
    refine (on_tips _ i4 _ _ t4).mono ?_
    rintro e w' ⟨rfl, hw⟩
    obtain rfl := hw.symm
    go_wp2_with fail
    refine (on_item _ i4 i1 _ _ _ _ false t4 t1 (eql_nil_some _ _)).mono ?_
    rintro e w8 ⟨rfl, x8⟩
    have t2 := t2.kept x8
    have t4 := t4.kept x8
    go_wp2_with fail
    refine (on_item _ i4 i2 _ _ _ _ false t4 t2 (eql_nil_some _ _)).mono ?_
    rintro e w9 ⟨rfl, x9⟩
    go_wp2_with fail
    go_ret
    exact ⟨rfl, (((((((x1.trans x2).trans x3).trans x4).trans x5).trans x67).trans x8).trans x9).grown⟩

theorem walk (a0 : ByteArray) (a1 : ByteArray) (a2 : ByteArray) (a3 : Bool) (w0 : a0.size ≤ maxLen) (w1 : a1.size ≤ maxLen) (w2 : a2.size ≤ maxLen) (w : World) :
    Calls Try.prog 5 #[.string a0, .string a1, .string a2, .bool a3] w fun e w' => e = .returned (.bool true) ∧ Grown w w' := by
  unfold maxLen at w0 w1 w2
  cases hd : decide (a0.size + a1.size + a2.size ≤ 1048576) with
  | false =>
    go_enter Try.func5, Try.ntmps5
    go_wp2_with (go_at_call 12; refine (bytes12 _ _ _ _ _ w0 w1 w2).mono ?_; rintro e w' ⟨rfl, rfl⟩)
    go_ret
    exact ⟨rfl, Grown.refl _⟩
  | true =>
    have hs : a0.size + a1.size + a2.size ≤ 1048576 := of_decide_eq_true hd
    by_cases g1 : 262144 < a0.size
    · have d1 : decide ((262144 : Int) < (a0.size : Int)) = true := decide_eq_true (by omega)
      go_enter Try.func5, Try.ntmps5
      go_wp2_with (go_at_call 12; refine (bytes12 _ _ _ _ _ w0 w1 w2).mono ?_; rintro e w' ⟨rfl, rfl⟩)
      go_ret
      exact ⟨rfl, Grown.refl _⟩
    have d1 : decide ((262144 : Int) < (a0.size : Int)) = false := decide_eq_false (by omega)
    by_cases g2 : 262144 < a1.size
    · have d2 : decide ((262144 : Int) < (a1.size : Int)) = true := decide_eq_true (by omega)
      go_enter Try.func5, Try.ntmps5
      go_wp2_with (go_at_call 12; refine (bytes12 _ _ _ _ _ w0 w1 w2).mono ?_; rintro e w' ⟨rfl, rfl⟩)
      go_ret
      exact ⟨rfl, Grown.refl _⟩
    have d2 : decide ((262144 : Int) < (a1.size : Int)) = false := decide_eq_false (by omega)
    by_cases g3 : 262144 < a2.size
    · have d3 : decide ((262144 : Int) < (a2.size : Int)) = true := decide_eq_true (by omega)
      go_enter Try.func5, Try.ntmps5
      go_wp2_with (go_at_call 12; refine (bytes12 _ _ _ _ _ w0 w1 w2).mono ?_; rintro e w' ⟨rfl, rfl⟩)
      go_ret
      exact ⟨rfl, Grown.refl _⟩
    exact walk_big a0 a1 a2 a3 w hs (by omega) (by omega) (by omega)

end Go.Proofs.Qxb6615060a.fnBuiltOnExactlyOneBase
