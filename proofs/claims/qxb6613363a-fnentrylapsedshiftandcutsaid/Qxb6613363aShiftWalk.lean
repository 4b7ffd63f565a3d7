import Derived.Test.Qxb6613363aFront
namespace Go.Proofs.Qxb6613363a
open Go.RowKit

theorem q23s : ∀ (w : World) (a : Option Addr) (n c n' c' : Nat), (binOp .neq 23 (.slice a n c) (.slice none n' c')).run Try.prog w = .ok (.bool (!a.isNone)) w := fun w a n c n' c' => run_neq_slice_nil_any w _ _ a n c n' c' Try.underlying23

set_option maxHeartbeats 400000 in
theorem bytes22_any (s c : Int) (a : Option Addr) (n cp : Nat) (cr fl d : Int) (w : World) (hn : n ≤ 1048576) :
    Calls Try.prog 22 #[.int .i64 s, .int .i64 c, .slice a n cp, .int .i64 cr, .int .i64 fl, .int .i64 d] w fun e w' => e = .returned (.bool true) ∧ w = w' := by
  have h1 : (n : Int) ≤ 1048576 := by omega
  go_enter Try.func22, Try.ntmps22
  go_wp2
  go_ret
  exact ⟨rfl, rfl⟩

set_option maxHeartbeats 400000 in
theorem bytes22_far (s c : Int) (a : Option Addr) (n cp : Nat) (cr fl d : Int) (w : World) (hn : ¬ n ≤ 1048576) :
    Calls Try.prog 22 #[.int .i64 s, .int .i64 c, .slice a n cp, .int .i64 cr, .int .i64 fl, .int .i64 d] w fun e w' => e = .returned (.bool false) ∧ w = w' := by
  have h1 : (1048576 : Int) < (n : Int) := by omega
  go_enter Try.func22, Try.ntmps22
  go_wp2
  go_ret
  exact ⟨rfl, rfl⟩

set_option maxHeartbeats 1000000 in
theorem shift_long (s c : Int) (a : Option Addr) (len cap : Nat) (w : World) (cr fl d : Int) (h1 : (131072 : Int) < len) :
    Calls Try.prog 6 #[.int .i64 s, .int .i64 c, .slice a len cap, .int .i64 cr, .int .i64 fl, .int .i64 d] w fun e w' => e = .returned (.bool true) ∧ Below w.heap.size w w' := by
  by_cases h2 : len ≤ 1048576
  · go_enter Try.func6, Try.ntmps6
    go_wp2_with (first | (go_at_call 22; refine (bytes22_any _ _ _ _ _ _ _ _ _ h2).mono ?_; rintro e w' ⟨rfl, rfl⟩))
    go_ret
    exact ⟨rfl, Below.refl _ _⟩
  · go_enter Try.func6, Try.ntmps6
    go_wp2_with (first | (go_at_call 22; refine (bytes22_far _ _ _ _ _ _ _ _ _ h2).mono ?_; rintro e w' ⟨rfl, rfl⟩))
    go_ret
    exact ⟨rfl, Below.refl _ _⟩

/-- 'd > 0', and the sum with 'credits' would pass the greatest int. -/
theorem shift_up1 (s c : Int) (a : Option Addr) (len cap : Nat) (w : World) (cr fl d : Int) (h1 : (len : Int) ≤ 131072) (hd : 0 < d) (hd9 : d ≤ 9223372036854775807) (hc : 9223372036854775807 - d < cr) :
    Calls Try.prog 6 #[.int .i64 s, .int .i64 c, .slice a len cap, .int .i64 cr, .int .i64 fl, .int .i64 d] w fun e w' => e = .returned (.bool true) ∧ Below w.heap.size w w' := by
  go_enter Try.func6, Try.ntmps6
  go_wp2_with (first | (go_at_call 22; refine (bytes22_any _ _ _ _ _ _ _ _ _ (by omega)).mono ?_; rintro e w' ⟨rfl, rfl⟩))
  go_ret
  exact ⟨rfl, Below.refl _ _⟩

theorem shift_up2 (s c : Int) (a : Option Addr) (len cap : Nat) (w : World) (cr fl d : Int) (h1 : (len : Int) ≤ 131072) (hd : 0 < d) (hd9 : d ≤ 9223372036854775807) (hc : cr ≤ 9223372036854775807 - d) (hf : 9223372036854775807 - d < fl) :
    Calls Try.prog 6 #[.int .i64 s, .int .i64 c, .slice a len cap, .int .i64 cr, .int .i64 fl, .int .i64 d] w fun e w' => e = .returned (.bool true) ∧ Below w.heap.size w w' := by
  go_enter Try.func6, Try.ntmps6
  go_wp2_with (first | (go_at_call 22; refine (bytes22_any _ _ _ _ _ _ _ _ _ (by omega)).mono ?_; rintro e w' ⟨rfl, rfl⟩))
  go_ret
  exact ⟨rfl, Below.refl _ _⟩

theorem shift_down1 (s c : Int) (a : Option Addr) (len cap : Nat) (w : World) (cr fl d : Int) (h1 : (len : Int) ≤ 131072) (hd : d < 0) (hd9 : -9223372036854775808 ≤ d) (hc : cr < -9223372036854775808 - d) :
    Calls Try.prog 6 #[.int .i64 s, .int .i64 c, .slice a len cap, .int .i64 cr, .int .i64 fl, .int .i64 d] w fun e w' => e = .returned (.bool true) ∧ Below w.heap.size w w' := by
  go_enter Try.func6, Try.ntmps6
  go_wp2_with (first | (go_at_call 22; refine (bytes22_any _ _ _ _ _ _ _ _ _ (by omega)).mono ?_; rintro e w' ⟨rfl, rfl⟩))
  go_ret
  exact ⟨rfl, Below.refl _ _⟩

theorem shift_down2 (s c : Int) (a : Option Addr) (len cap : Nat) (w : World) (cr fl d : Int) (h1 : (len : Int) ≤ 131072) (hd : d < 0) (hd9 : -9223372036854775808 ≤ d) (hc : -9223372036854775808 - d ≤ cr) (hf : fl < -9223372036854775808 - d) :
    Calls Try.prog 6 #[.int .i64 s, .int .i64 c, .slice a len cap, .int .i64 cr, .int .i64 fl, .int .i64 d] w fun e w' => e = .returned (.bool true) ∧ Below w.heap.size w w' := by
  go_enter Try.func6, Try.ntmps6
  go_wp2_with (first | (go_at_call 22; refine (bytes22_any _ _ _ _ _ _ _ _ _ (by omega)).mono ?_; rintro e w' ⟨rfl, rfl⟩))
  go_ret
  exact ⟨rfl, Below.refl _ _⟩
set_option maxHeartbeats 2000000 in
theorem shift_some (s c : Int) (x : Addr) (len cap : Nat) (w w2 : World) (cr fl d : Int)
   (hcp : (Builtin.copy_ #[23, 23] 3 #[.slice (some ⟨w.heap.size, 0, none⟩) len len, .slice (some x) len cap]).run Try.prog (w.alloc (.cells (madeCells #[.int .i64 0] len) 3)) = .ok (.int .i64 len) w2) (hb2 : Below w.heap.size w w2)
   (h1 : (len : Int) ≤ 131072) (hd9 : d ≤ 9223372036854775807) (hd0 : -9223372036854775808 ≤ d)
   (hc0 : -9223372036854775808 ≤ cr + d) (hc9 : cr + d ≤ 9223372036854775807) (hf0 : -9223372036854775808 ≤ fl + d) (hf9 : fl + d ≤ 9223372036854775807)
   (hcase : (0 < d ∧ cr ≤ 9223372036854775807 - d ∧ fl ≤ 9223372036854775807 - d) ∨ (d < 0 ∧ -9223372036854775808 - d ≤ cr ∧ -9223372036854775808 - d ≤ fl) ∨ (0 ≤ d ∧ d ≤ 0))
   (ba bc : Bool) (Ha : Hid (lap cr fl len = ba)) (Hs : Hid (lap (cr + d) (fl + d) len = ba)) (Hc : Hid (lap cr fl 0 = bc)) (Hm : Hid (lap cr cr 0 = true)) (hab : ba = true → bc = true) :
    Calls Try.prog 6 #[.int .i64 s, .int .i64 c, .slice (some x) len cap, .int .i64 cr, .int .i64 fl, .int .i64 d] w fun e w' => e = .returned (.bool true) ∧ Below w.heap.size w w' := by
  obtain ⟨i0, hi, hi0, hi1, hi2⟩ := info_parts Try.info3
  have q := q23s
  have hb : (ba = true ∧ bc = true) ∨ ba = false := by cases ba <;> simp_all
  clear hab
  rcases hb with ⟨rfl, rfl⟩ | rfl
  all_goals
    rcases hcase with ⟨k1, k2, k3⟩ | ⟨k1, k2, k3⟩ | ⟨k1, k2⟩
    all_goals
      go_enter Try.func6, Try.ntmps6
      go_wp2_with (first
        | (go_at_call 22; refine (bytes22_any _ _ _ _ _ _ _ _ _ (by omega)).mono ?_; rintro e w' ⟨rfl, rfl⟩)
        | (at_make; refine wpList_make_row _ rfl _ _ 23 rfl 3 i0 (.int .i64 0) Try.underlying23 hi hi0 hi1 rfl .i64 .i64 len rfl rfl ?_ ?_ ?_; (rw [hi2]; omega); omega))
      refine (lapsed_eq _ _ _ _ _ _ _ _ _ Ha).mono ?_
      rintro e w3 ⟨rfl, hb3⟩
      go_wp2_with fail
      refine (lapsed_eq _ _ _ _ _ _ _ _ _ Hs).mono ?_
      rintro e w4 ⟨rfl, hb4⟩
      go_wp2_with fail
      refine (lapsed_eq _ _ _ _ _ _ _ _ _ Hc).mono ?_
      rintro e w5 ⟨rfl, hb5⟩
      go_wp2_with fail
      refine (lapsed_eq _ _ _ _ _ _ _ _ _ Hm).mono ?_
      rintro e w6 ⟨rfl, hb6⟩
      go_wp2_with fail
      go_ret
      exact ⟨rfl, (((hb2.trans (hb3.mono hb2.size)).trans (hb4.mono (Nat.le_trans hb2.size hb3.size))).trans (hb5.mono (Nat.le_trans hb2.size (Nat.le_trans hb3.size hb4.size)))).trans (hb6.mono (Nat.le_trans hb2.size (Nat.le_trans hb3.size (Nat.le_trans hb4.size hb5.size))))⟩

set_option maxHeartbeats 2000000 in
theorem shift_nil (s c : Int) (w : World) (cr fl d : Int) (hd9 : d ≤ 9223372036854775807) (hd0 : -9223372036854775808 ≤ d)
   (hc0 : -9223372036854775808 ≤ cr + d) (hc9 : cr + d ≤ 9223372036854775807) (hf0 : -9223372036854775808 ≤ fl + d) (hf9 : fl + d ≤ 9223372036854775807)
   (hcase : (0 < d ∧ cr ≤ 9223372036854775807 - d ∧ fl ≤ 9223372036854775807 - d) ∨ (d < 0 ∧ -9223372036854775808 - d ≤ cr ∧ -9223372036854775808 - d ≤ fl) ∨ (0 ≤ d ∧ d ≤ 0))
   (ba bc : Bool) (Ha : Hid (lap cr fl 0 = ba)) (Hs : Hid (lap (cr + d) (fl + d) 0 = ba)) (Hc : Hid (lap cr fl 0 = bc)) (Hm : Hid (lap cr cr 0 = true)) (hab : ba = true → bc = true) :
    Calls Try.prog 6 #[.int .i64 s, .int .i64 c, .slice none 0 0, .int .i64 cr, .int .i64 fl, .int .i64 d] w fun e w' => e = .returned (.bool true) ∧ Below w.heap.size w w' := by
  have q := q23s
  have hb : (ba = true ∧ bc = true) ∨ ba = false := by cases ba <;> simp_all
  clear hab
  rcases hb with ⟨rfl, rfl⟩ | rfl
  all_goals
    rcases hcase with ⟨k1, k2, k3⟩ | ⟨k1, k2, k3⟩ | ⟨k1, k2⟩
    all_goals
      go_enter Try.func6, Try.ntmps6
      go_wp2_with (first | (go_at_call 22; refine (bytes22_any _ _ _ _ _ _ _ _ _ (by omega)).mono ?_; rintro e w' ⟨rfl, rfl⟩))
      refine (lapsed_eq _ _ _ _ _ _ _ _ _ Ha).mono ?_
      rintro e w3 ⟨rfl, hb3⟩
      go_wp2_with fail
      refine (lapsed_eq _ _ _ _ _ _ _ _ _ Hs).mono ?_
      rintro e w4 ⟨rfl, hb4⟩
      go_wp2_with fail
      refine (lapsed_eq _ _ _ _ _ _ _ _ _ Hc).mono ?_
      rintro e w5 ⟨rfl, hb5⟩
      go_wp2_with fail
      refine (lapsed_eq _ _ _ _ _ _ _ _ _ Hm).mono ?_
      rintro e w6 ⟨rfl, hb6⟩
      go_wp2_with fail
      go_ret
      exact ⟨rfl, ((hb3.trans (hb4.mono hb3.size)).trans (hb5.mono (Nat.le_trans hb3.size hb4.size))).trans (hb6.mono (Nat.le_trans hb3.size (Nat.le_trans hb4.size hb5.size)))⟩

end Go.Proofs.Qxb6613363a
