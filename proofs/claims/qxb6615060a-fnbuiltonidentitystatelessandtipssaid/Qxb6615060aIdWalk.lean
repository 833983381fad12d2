/-
  THE WALK OF 'FnBuiltOnIdentityStatelessAndTips'.
-/
import Derived.Test.Qxb6615060aBase
namespace Go.Proofs.Qxb6615060a.fnBuiltOnIdentityStatelessAndTips
open Go.RowKit

theorem bytes16 (a : ByteArray) (t : Bool) (w : World) (ha : a.size ≤ 9223372036854775807) :
    Calls Try.prog 16 #[.string a, .bool t] w fun e w' => e = .returned (.bool (decide (a.size ≤ 1048576))) ∧ w' = w := by
  by_cases h1 : (1048576 : Int) < (a.size : Int)
  · have hd : decide (a.size ≤ 1048576) = false := decide_eq_false (by omega)
    rw [hd]
    go_enter Try.func16, Try.ntmps16
    go_wp2
    go_ret
    exact ⟨rfl, rfl⟩
  have hd : decide (a.size ≤ 1048576) = true := decide_eq_true (by omega)
  rw [hd]
  go_enter Try.func16, Try.ntmps16
  go_wp2
  go_ret
  exact ⟨rfl, rfl⟩

set_option maxHeartbeats 2000000 in
theorem walk_big (a : ByteArray) (t : Bool) (w : World) (hs : a.size ≤ 1048576) :
    Calls Try.prog 6 #[.string a, .bool t] w fun e w' => e = .returned (.bool true) ∧ Grown w w' := by
  have hd : decide (a.size ≤ 1048576) = true := decide_eq_true hs
  have d1 : ¬ (1048576 : Int) < (a.size : Int) := by omega
  cases t
  · go_enter Try.func6, Try.ntmps6
    go_wp2_with (go_at_call 16; refine (bytes16 _ _ _ (by omega)).mono ?_; rintro e w' ⟨rfl, hw⟩; obtain rfl := hw.symm)
    refine (state13 _ a).mono ?_
    rintro e w1 ⟨rfl, s0, x1⟩
    have n0 := s0.lt
    go_wp2_with fail
    refine (state13 _ a).mono ?_
    rintro e w2 ⟨rfl, s1, x2⟩
    have s0 := s0.kept x2
    go_wp2_with fail
    refine (state13 _ a).mono ?_
    rintro e w3 ⟨rfl, s2, x3⟩
    have s0 := s0.kept x3
    have s1 := s1.kept x3
    go_wp2_with fail
    refine (item14 _ _ _).mono ?_
    rintro e w4 ⟨i1, rfl, t1, x4⟩
    have s0 := s0.kept x4
    have s1 := s1.kept x4
    go_wp2_with fail
    refine (item14 _ _ _).mono ?_
    rintro e w5 ⟨i2, rfl, t2, x5⟩
    have s0 := s0.kept x5
    have s1 := s1.kept x5
    have t1 := t1.kept x5
    go_wp2_with fail
    refine (item14 _ _ _).mono ?_
    rintro e w6 ⟨i3, rfl, t3, x6⟩
    have s0 := s0.kept x6
    have s1 := s1.kept x6
    have t1 := t1.kept x6
    have t2 := t2.kept x6
    go_wp2_with fail
    refine (item14 _ _ _).mono ?_
    rintro e w7 ⟨i4, rfl, t4, x7⟩
    have s0 := s0.kept x7
    have s1 := s1.kept x7
    have t1 := t1.kept x7
    have t2 := t2.kept x7
    have t3 := t3.kept x7
    go_wp2_with fail
    refine (on_item _ i4 i1 _ _ _ _ true t4 t1 (eql_same _ _)).mono ?_
    rintro e w8 ⟨rfl, x8⟩
    have s0 := s0.kept x8
    have s1 := s1.kept x8
    have t1 := t1.kept x8
    have t2 := t2.kept x8
    have t3 := t3.kept x8
    have t4 := t4.kept x8
    go_wp2_with fail
    refine (on_item _ i4 i2 _ _ _ _ false t4 t2 (eql_other _ _ _ s0 s1 (by omega))).mono ?_
    rintro e w9 ⟨rfl, x9⟩
    have s0 := s0.kept x9
    have s1 := s1.kept x9
    have t1 := t1.kept x9
    have t2 := t2.kept x9
    have t3 := t3.kept x9
    have t4 := t4.kept x9
    go_wp2_with fail
    refine (item14 _ _ _).mono ?_
    rintro e w10 ⟨i5, rfl, t5, x10⟩
    have s0 := s0.kept x10
    have s1 := s1.kept x10
    have t1 := t1.kept x10
    have t2 := t2.kept x10
    have t3 := t3.kept x10
    have t4 := t4.kept x10
    go_wp2_with fail
    refine (on_none _ i5 _ _ t5).mono ?_
    rintro e w' ⟨rfl, hw⟩
    obtain rfl := hw.symm
    go_wp2_with fail
    refine (on_none _ i5 _ _ t5).mono ?_
    rintro e w' ⟨rfl, hw⟩
    obtain rfl := hw.symm
    go_wp2_with fail
    refine (on_none _ i5 _ _ t5).mono ?_
    rintro e w' ⟨rfl, hw⟩
    obtain rfl := hw.symm
    go_wp2_with fail
    refine (item14 _ _ _).mono ?_
    rintro e w12 ⟨i7, rfl, t7, x12⟩
    have s0 := s0.kept x12
    have s1 := s1.kept x12
    have t1 := t1.kept x12
    have t2 := t2.kept x12
    have t3 := t3.kept x12
    have t4 := t4.kept x12
    have t5 := t5.kept x12
    go_wp2_with fail
    refine (on_item _ i7 i3 _ _ _ _ _ t7 t3 (eql_nil _ _)).mono ?_
    rintro e w14 ⟨rfl, x14⟩
    have t7 := t7.kept x14
    go_wp2_with fail
    refine (on_tips _ i7 _ _ t7).mono ?_
    rintro e w' ⟨rfl, hw⟩
    obtain rfl := hw.symm
    go_wp2_with fail
    go_ret
    exact ⟨rfl, (((((((((((x1.trans x2).trans x3).trans x4).trans x5).trans x6).trans x7).trans x8).trans x9).trans x10).trans x12).trans x14).grown⟩
  · go_enter Try.func6, Try.ntmps6
    go_wp2_with (go_at_call 16; refine (bytes16 _ _ _ (by omega)).mono ?_; rintro e w' ⟨rfl, hw⟩; obtain rfl := hw.symm)
    refine (state13 _ a).mono ?_
    rintro e w1 ⟨rfl, s0, x1⟩
    have n0 := s0.lt
    go_wp2_with fail
    refine (state13 _ a).mono ?_
    rintro e w2 ⟨rfl, s1, x2⟩
    have s0 := s0.kept x2
    go_wp2_with fail
    refine (state13 _ a).mono ?_
    rintro e w3 ⟨rfl, s2, x3⟩
    have s0 := s0.kept x3
    have s1 := s1.kept x3
    go_wp2_with fail
    refine (item14 _ _ _).mono ?_
    rintro e w4 ⟨i1, rfl, t1, x4⟩
    have s0 := s0.kept x4
    have s1 := s1.kept x4
    go_wp2_with fail
    refine (item14 _ _ _).mono ?_
    rintro e w5 ⟨i2, rfl, t2, x5⟩
    have s0 := s0.kept x5
    have s1 := s1.kept x5
    have t1 := t1.kept x5
    go_wp2_with fail
    refine (item14 _ _ _).mono ?_
    rintro e w6 ⟨i3, rfl, t3, x6⟩
    have s0 := s0.kept x6
    have s1 := s1.kept x6
    have t1 := t1.kept x6
    have t2 := t2.kept x6
    go_wp2_with fail
    refine (item14 _ _ _).mono ?_
    rintro e w7 ⟨i4, rfl, t4, x7⟩
    have s0 := s0.kept x7
    have s1 := s1.kept x7
    have t1 := t1.kept x7
    have t2 := t2.kept x7
    have t3 := t3.kept x7
    go_wp2_with fail
    refine (on_item _ i4 i1 _ _ _ _ true t4 t1 (eql_same _ _)).mono ?_
    rintro e w8 ⟨rfl, x8⟩
    have s0 := s0.kept x8
    have s1 := s1.kept x8
    have t1 := t1.kept x8
    have t2 := t2.kept x8
    have t3 := t3.kept x8
    have t4 := t4.kept x8
    go_wp2_with fail
    refine (on_item _ i4 i2 _ _ _ _ false t4 t2 (eql_other _ _ _ s0 s1 (by omega))).mono ?_
    rintro e w9 ⟨rfl, x9⟩
    have s0 := s0.kept x9
    have s1 := s1.kept x9
    have t1 := t1.kept x9
    have t2 := t2.kept x9
    have t3 := t3.kept x9
    have t4 := t4.kept x9
    go_wp2_with fail
    refine (item14 _ _ _).mono ?_
    rintro e w10 ⟨i5, rfl, t5, x10⟩
    have s0 := s0.kept x10
    have s1 := s1.kept x10
    have t1 := t1.kept x10
    have t2 := t2.kept x10
    have t3 := t3.kept x10
    have t4 := t4.kept x10
    go_wp2_with fail
    refine (item14 _ _ _).mono ?_
    rintro e w11 ⟨i6, rfl, t6, x11⟩
    have s0 := s0.kept x11
    have s1 := s1.kept x11
    have t1 := t1.kept x11
    have t2 := t2.kept x11
    have t3 := t3.kept x11
    have t4 := t4.kept x11
    have t5 := t5.kept x11
    go_wp2_with fail
    refine (on_none _ i6 _ _ t6).mono ?_
    rintro e w' ⟨rfl, hw⟩
    obtain rfl := hw.symm
    go_wp2_with fail
    refine (on_none _ i6 _ _ t6).mono ?_
    rintro e w' ⟨rfl, hw⟩
    obtain rfl := hw.symm
    go_wp2_with fail
    refine (on_none _ i6 _ _ t6).mono ?_
    rintro e w' ⟨rfl, hw⟩
    obtain rfl := hw.symm
    go_wp2_with fail
    refine (item14 _ _ _).mono ?_
    rintro e w12 ⟨i7, rfl, t7, x12⟩
    have s0 := s0.kept x12
    have s1 := s1.kept x12
    have t1 := t1.kept x12
    have t2 := t2.kept x12
    have t3 := t3.kept x12
    have t4 := t4.kept x12
    have t5 := t5.kept x12
    have t6 := t6.kept x12
    go_wp2_with fail
    refine (item14 _ _ _).mono ?_
    rintro e w13 ⟨i8, rfl, t8, x13⟩
    have s0 := s0.kept x13
    have s1 := s1.kept x13
    have t1 := t1.kept x13
    have t2 := t2.kept x13
    have t3 := t3.kept x13
    have t4 := t4.kept x13
    have t5 := t5.kept x13
    have t6 := t6.kept x13
    have t7 := t7.kept x13
    go_wp2_with fail
    refine (on_item _ i8 i3 _ _ _ _ _ t8 t3 (eql_nil _ _)).mono ?_
    rintro e w14 ⟨rfl, x14⟩
    have t8 := t8.kept x14
    go_wp2_with fail
    refine (on_tips _ i8 _ _ t8).mono ?_
    rintro e w' ⟨rfl, hw⟩
    obtain rfl := hw.symm
    go_wp2_with fail
    go_ret
    exact ⟨rfl, (((((((((((((x1.trans x2).trans x3).trans x4).trans x5).trans x6).trans x7).trans x8).trans x9).trans x10).trans x11).trans x12).trans x13).trans x14).grown⟩

theorem walk (a0 : ByteArray) (a1 : Bool) (w0 : a0.size ≤ maxLen) (w : World) :
    Calls Try.prog 6 #[.string a0, .bool a1] w fun e w' => e = .returned (.bool true) ∧ Grown w w' := by
  unfold maxLen at w0
  cases hd : decide (a0.size ≤ 1048576) with
  | false =>
    go_enter Try.func6, Try.ntmps6
    go_wp2_with (go_at_call 16; refine (bytes16 _ _ _ w0).mono ?_; rintro e w' ⟨rfl, rfl⟩)
    go_ret
    exact ⟨rfl, Grown.refl _⟩
  | true => exact walk_big a0 a1 w (of_decide_eq_true hd)

end Go.Proofs.Qxb6615060a.fnBuiltOnIdentityStatelessAndTips
