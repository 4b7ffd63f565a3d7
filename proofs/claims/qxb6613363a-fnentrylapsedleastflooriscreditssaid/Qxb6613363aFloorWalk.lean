import Derived.Test.Qxb6613363aFront
namespace Go.Proofs.Qxb6613363a
open Go.RowKit

theorem q23 : ∀ (w : World) (a : Option Addr) (n c n' c' : Nat), (binOp .neq 23 (.slice a n c) (.slice none n' c')).run Try.prog w = .ok (.bool (!a.isNone)) w := fun w a n c n' c' => run_neq_slice_nil_any w _ _ a n c n' c' Try.underlying23

set_option maxHeartbeats 1000000 in
theorem floor_some (s c : Int) (x : Addr) (len cap : Nat) (w w2 : World) (cr fl : Int)
   (hcp : (Builtin.copy_ #[23, 23] 3 #[.slice (some ⟨w.heap.size, 0, none⟩) len len, .slice (some x) len cap]).run Try.prog (w.alloc (.cells (madeCells #[.int .i64 0] len) 3)) = .ok (.int .i64 len) w2) (hb2 : Below w.heap.size w w2)
   (h1 : (len : Int) ≤ 131072)
   (bg bq bf : Bool) (hq : ((len : Int) == 0) = bq) (hf : decide (cr ≤ fl) = bf) (hm : (cr != -9223372036854775808) = true)
   (Hg : Hid (lap cr fl len = bg)) (Hq : Hid (lap cr cr len = bq)) (Hm : Hid (lap cr (cr - 1) len = false)) (hbg : bg = (bq && bf)) (h0 : -9223372036854775808 < cr) (h9 : cr ≤ 9223372036854775807):
    Calls Try.prog 5 #[.int .i64 s, .int .i64 c, .slice (some x) len cap, .int .i64 cr, .int .i64 fl] w fun e w' => e = .returned (.bool true) ∧ Below w.heap.size w w' := by
  obtain ⟨i0, hi, hi0, hi1, hi2⟩ := info_parts Try.info3
  have q := q23
  cases bq <;> cases bf <;> subst hbg
  all_goals
    go_enter Try.func5, Try.ntmps5
    go_wp2_with (first
      | (go_at_call 20; refine (bytes20_any _ _ _ _ _ _ _ _ (by omega)).mono ?_; rintro e w' ⟨rfl, rfl⟩)
      | (at_make; refine wpList_make_row _ rfl _ _ 23 rfl 3 i0 (.int .i64 0) Try.underlying23 hi hi0 hi1 rfl .i64 .i64 len rfl rfl ?_ ?_ ?_; (rw [hi2]; omega); omega))
    refine (lapsed_eq _ _ _ _ _ _ _ _ _ Hg).mono ?_
    rintro e w3 ⟨rfl, hb3⟩
    go_wp2_with fail
    refine (lapsed_eq _ _ _ _ _ _ _ _ _ Hq).mono ?_
    rintro e w4 ⟨rfl, hb4⟩
    go_wp2_with fail
    refine (lapsed_eq _ _ _ _ _ _ _ _ _ Hm).mono ?_
    rintro e w5 ⟨rfl, hb5⟩
    go_wp2_with fail
    go_ret
    exact ⟨rfl, ((hb2.trans (hb3.mono hb2.size)).trans (hb4.mono (Nat.le_trans hb2.size hb3.size))).trans (hb5.mono (Nat.le_trans hb2.size (Nat.le_trans hb3.size hb4.size)))⟩
set_option maxHeartbeats 1000000 in
/-- .. at the least int for 'credits': the third call is not made. -/
theorem floor_some_min (s c : Int) (x : Addr) (len cap : Nat) (w w2 : World) (cr fl : Int)
   (hcp : (Builtin.copy_ #[23, 23] 3 #[.slice (some ⟨w.heap.size, 0, none⟩) len len, .slice (some x) len cap]).run Try.prog (w.alloc (.cells (madeCells #[.int .i64 0] len) 3)) = .ok (.int .i64 len) w2) (hb2 : Below w.heap.size w w2)
   (h1 : (len : Int) ≤ 131072)
   (bg bq bf : Bool) (hq : ((len : Int) == 0) = bq) (hf : decide (cr ≤ fl) = bf) (hm : (cr != -9223372036854775808) = false)
   (Hg : Hid (lap cr fl len = bg)) (Hq : Hid (lap cr cr len = bq)) (hbg : bg = (bq && bf)) :
    Calls Try.prog 5 #[.int .i64 s, .int .i64 c, .slice (some x) len cap, .int .i64 cr, .int .i64 fl] w fun e w' => e = .returned (.bool true) ∧ Below w.heap.size w w' := by
  obtain ⟨i0, hi, hi0, hi1, hi2⟩ := info_parts Try.info3
  have q := q23
  cases bq <;> cases bf <;> subst hbg
  all_goals
    go_enter Try.func5, Try.ntmps5
    go_wp2_with (first
      | (go_at_call 20; refine (bytes20_any _ _ _ _ _ _ _ _ (by omega)).mono ?_; rintro e w' ⟨rfl, rfl⟩)
      | (at_make; refine wpList_make_row _ rfl _ _ 23 rfl 3 i0 (.int .i64 0) Try.underlying23 hi hi0 hi1 rfl .i64 .i64 len rfl rfl ?_ ?_ ?_; (rw [hi2]; omega); omega))
    refine (lapsed_eq _ _ _ _ _ _ _ _ _ Hg).mono ?_
    rintro e w3 ⟨rfl, hb3⟩
    go_wp2_with fail
    refine (lapsed_eq _ _ _ _ _ _ _ _ _ Hq).mono ?_
    rintro e w4 ⟨rfl, hb4⟩
    go_wp2_with fail
    go_ret
    exact ⟨rfl, (hb2.trans (hb3.mono hb2.size)).trans (hb4.mono (Nat.le_trans hb2.size hb3.size))⟩

set_option maxHeartbeats 1000000 in
/-- .. of a nil slice: nothing is copied. -/
theorem floor_nil (s c : Int) (w : World) (cr fl : Int) (bf : Bool) (hf : decide (cr ≤ fl) = bf) (hm : (cr != -9223372036854775808) = true)
   (Hg : Hid (lap cr fl 0 = bf)) (Hq : Hid (lap cr cr 0 = true)) (Hm : Hid (lap cr (cr - 1) 0 = false)) (h0 : -9223372036854775808 < cr) (h9 : cr ≤ 9223372036854775807) :
    Calls Try.prog 5 #[.int .i64 s, .int .i64 c, .slice none 0 0, .int .i64 cr, .int .i64 fl] w fun e w' => e = .returned (.bool true) ∧ Below w.heap.size w w' := by
  have q := q23
  cases bf
  all_goals
    go_enter Try.func5, Try.ntmps5
    go_wp2_with (first | (go_at_call 20; refine (bytes20_any _ _ _ _ _ _ _ _ (by omega)).mono ?_; rintro e w' ⟨rfl, rfl⟩))
    refine (lapsed_eq _ _ _ _ _ _ _ _ _ Hg).mono ?_
    rintro e w3 ⟨rfl, hb3⟩
    go_wp2_with fail
    refine (lapsed_eq _ _ _ _ _ _ _ _ _ Hq).mono ?_
    rintro e w4 ⟨rfl, hb4⟩
    go_wp2_with fail
    refine (lapsed_eq _ _ _ _ _ _ _ _ _ Hm).mono ?_
    rintro e w5 ⟨rfl, hb5⟩
    go_wp2_with fail
    go_ret
    exact ⟨rfl, (hb3.trans (hb4.mono hb3.size)).trans (hb5.mono (Nat.le_trans hb3.size hb4.size))⟩

set_option maxHeartbeats 1000000 in
theorem floor_nil_min (s c : Int) (w : World) (cr fl : Int) (bf : Bool) (hf : decide (cr ≤ fl) = bf) (hm : (cr != -9223372036854775808) = false)
   (Hg : Hid (lap cr fl 0 = bf)) (Hq : Hid (lap cr cr 0 = true)) :
    Calls Try.prog 5 #[.int .i64 s, .int .i64 c, .slice none 0 0, .int .i64 cr, .int .i64 fl] w fun e w' => e = .returned (.bool true) ∧ Below w.heap.size w w' := by
  have q := q23
  cases bf
  all_goals
    go_enter Try.func5, Try.ntmps5
    go_wp2_with (first | (go_at_call 20; refine (bytes20_any _ _ _ _ _ _ _ _ (by omega)).mono ?_; rintro e w' ⟨rfl, rfl⟩))
    refine (lapsed_eq _ _ _ _ _ _ _ _ _ Hg).mono ?_
    rintro e w3 ⟨rfl, hb3⟩
    go_wp2_with fail
    refine (lapsed_eq _ _ _ _ _ _ _ _ _ Hq).mono ?_
    rintro e w4 ⟨rfl, hb4⟩
    go_wp2_with fail
    go_ret
    exact ⟨rfl, hb3.trans (hb4.mono hb3.size)⟩

set_option maxHeartbeats 1000000 in
/-- .. of more than 1<<17 elements: true at once. -/
theorem floor_long (s c : Int) (a : Option Addr) (len cap : Nat) (w : World) (cr fl : Int) (h1 : (131072 : Int) < len) :
    Calls Try.prog 5 #[.int .i64 s, .int .i64 c, .slice a len cap, .int .i64 cr, .int .i64 fl] w fun e w' => e = .returned (.bool true) ∧ Below w.heap.size w w' := by
  by_cases h2 : len ≤ 1048576
  · go_enter Try.func5, Try.ntmps5
    go_wp2_with (first | (go_at_call 20; refine (bytes20_any _ _ _ _ _ _ _ _ h2).mono ?_; rintro e w' ⟨rfl, rfl⟩))
    go_ret
    exact ⟨rfl, Below.refl _ _⟩
  · go_enter Try.func5, Try.ntmps5
    go_wp2_with (first | (go_at_call 20; refine (bytes20_far _ _ _ _ _ _ _ _ h2).mono ?_; rintro e w' ⟨rfl, rfl⟩))
    go_ret
    exact ⟨rfl, Below.refl _ _⟩

end Go.Proofs.Qxb6613363a
