import Derived.Test.Qxb6613880aNew
namespace Go.Proofs.Qxb6613880a
open Go.RowKit Go.Maps

set_option maxHeartbeats 400000 in
/-- 'addLen': within the limit, or one beyond it. -/
theorem addLen (w : World) (n l lim : Int) (h0 : 0 ≤ n) (h1 : n ≤ lim) (h2 : lim ≤ 1048576) (h3 : 0 ≤ l) (h4 : l ≤ 9223372036854775807) :
    Calls Try.prog 13 #[.int .i64 n, .int .i64 l, .int .i64 lim] w fun e w' => ∃ r : Int, e = .returned (.int .i64 r) ∧ 0 ≤ r ∧ r ≤ lim + 1 ∧ w = w' := by
  by_cases h : lim - n < l
  · go_enter Try.func13, Try.ntmps13
    go_wp2
    go_ret
    exact ⟨lim + 1, rfl, by omega, by omega, rfl⟩
  · have h' : l ≤ lim - n := by omega
    go_enter Try.func13, Try.ntmps13
    go_wp2
    go_ret
    exact ⟨n + l, rfl, by omega, by omega, rfl⟩

set_option maxHeartbeats 1000000 in
theorem cellsBytes_some (w : World) (b off len cap : Nat) (cs : List C3) (lim : Int) (hm : len < 1000000000) (hc : Hid (Cells3 w b off len cs)) (hf : Hid (Fit3 cs)) (l0 : 0 ≤ lim) (l1 : lim ≤ 1048576) :
    Calls Try.prog 6 #[.slice (some ⟨b, off, none⟩) len cap, .int .i64 lim] w fun e w' => ∃ r : Int, e = .returned (.int .i64 r) ∧ 0 ≤ r ∧ r ≤ lim + 1 ∧ w = w' := by
  go_enter Try.func6, Try.ntmps6
  go_wp2
  go_loop [5, 6] (fun n i => ∃ (k : Nat) (r : Int), k ≤ len ∧ i = .int .i64 k ∧ n = .int .i64 r ∧ 0 ≤ r ∧ r ≤ lim) (fun _ i => len - (intOf i).toNat)
  case atStart => exact ⟨0, 0, Nat.zero_le _, rfl, rfl, by omega, by omega⟩
  case round =>
    obtain ⟨k, r, hk, rfl, rfl, hr0, hr1⟩ := hrel
    by_cases hlt : k < len
    · have g0 : (0 : Int) ≤ (k : Int) := by omega
      have g1 : (k : Int) < (len : Int) := by omega
      obtain ⟨x, hx⟩ : ∃ x, x = cs.getD k e3 := ⟨_, rfl⟩
      obtain ⟨sa, sb, sc⟩ := x
      obtain ⟨c1, c2, c3⟩ := Cells3.later hc.out hlt (Below.refl _ _) hx
      obtain ⟨f1, f2, f3⟩ := Fit3.at hf.out hx
      clear hx
      unfold maxLen at f1 f2 f3
      have f1' : (sa.size : Int) ≤ 9223372036854775807 := by omega
      have f2' : (sb.size : Int) ≤ 9223372036854775807 := by omega
      have f3' : (sc.size : Int) ≤ 9223372036854775807 := by omega
      go_wp2_with (first | (go_at_call 13; refine (addLen _ _ _ _ (by omega) (by omega) (by omega) (by omega) (by omega)).mono ?_; rintro e w' ⟨q, rfl, hq0, hq1, rfl⟩))
      case roundEnd => exact ⟨⟨k + 1, q, by omega, by go_num, rfl, hq0, by omega⟩, by simp [intOf]; omega⟩
      all_goals (go_ret; exact ⟨q, rfl, hq0, hq1, rfl⟩)
    · go_wp2_with fail
      go_ret
      exact ⟨r, rfl, hr0, by omega, rfl⟩

set_option maxHeartbeats 400000 in
theorem cellsBytes_none (w : World) (a : Option Addr) (cap : Nat) (lim : Int) (l0 : 0 ≤ lim) (l1 : lim ≤ 1048576) :
    Calls Try.prog 6 #[.slice a 0 cap, .int .i64 lim] w fun e w' => ∃ r : Int, e = .returned (.int .i64 r) ∧ 0 ≤ r ∧ r ≤ lim + 1 ∧ w = w' := by
  go_enter Try.func6, Try.ntmps6
  go_wp2
  go_loop [5, 6] (fun n i => i = .int .i64 0 ∧ n = .int .i64 0) (fun _ _ => 0)
  case atStart => exact ⟨rfl, rfl⟩
  case round =>
    obtain ⟨rfl, rfl⟩ := hrel
    go_wp2_with fail
    go_ret
    exact ⟨0, rfl, by omega, by omega, rfl⟩

/-- WHAT THE WALK IS TOLD OF A []Cell THAT CAME IN: it is empty (nil too), or it leads to its rows. -/
def IsC (w : World) (a : Option Addr) (len : Nat) (cs : List C3) : Prop := len = 0 ∨ ∃ b off, a = some ⟨b, off, none⟩ ∧ Cells3 w b off len cs

/-- It is a bool. -/
def IsB (e : Ending) : Prop := ∃ b : Bool, e = .returned (.bool b)
theorem isB (b : Bool) : IsB (.returned (.bool b)) := ⟨b, rfl⟩
theorem hide {p : Prop} (h : p) : Hid p := h

set_option maxRecDepth 100000 in
set_option maxHeartbeats 4000000 in
/-- 'zzBytes_..': it answers, and turns nothing. -/
theorem bytes11 (w : World) (a1 a2 : Option Addr) (n1 c1 n2 c2 : Nat) (p : Int) (xs ys : List C3) (m1 : n1 ≤ maxLen) (m2 : n2 ≤ maxLen) (h1 : Hid (IsC w a1 n1 xs)) (h2 : Hid (IsC w a2 n2 ys)) (hf1 : Hid (Fit3 xs)) (hf2 : Hid (Fit3 ys)) :
    Calls Try.prog 11 #[.slice a1 n1 c1, .slice a2 n2 c2, .int .i64 p] w fun e w' => IsB e ∧ w = w' := by
  unfold maxLen at m1 m2
  by_cases hn1 : (n1 : Int) ≤ 1048576
  case neg =>
    go_enter Try.func11, Try.ntmps11
    go_wp2
    go_ret
    exact ⟨isB _, rfl⟩
  have t1 : n1 ≤ 0 ∨ ∃ b off, a1 = some ⟨b, off, none⟩ ∧ Hid (Cells3 w b off n1 xs) := by
    rcases h1.out with h | h
    · exact Or.inl (by omega)
    · exact Or.inr h
  have t2 : n2 ≤ 0 ∨ ∃ b off, a2 = some ⟨b, off, none⟩ ∧ Hid (Cells3 w b off n2 ys) := by
    rcases h2.out with h | h
    · exact Or.inl (by omega)
    · exact Or.inr h
  clear h1 h2
  rcases t1 with z1 | ⟨b1, off1, rfl, hc1⟩ <;> rcases t2 with z2 | ⟨b2, off2, rfl, hc2⟩
  all_goals
    go_enter Try.func11, Try.ntmps11
    go_wp2
    go_loop [7, 8] (fun z i => ∃ (k : Nat) (r : Int), k ≤ n1 ∧ i = .int .i64 k ∧ z = .int .i64 r ∧ 0 ≤ r ∧ r ≤ 1048576) (fun _ i => n1 - (intOf i).toNat)
    case atStart => exact ⟨0, _, Nat.zero_le _, rfl, rfl, by omega, by omega⟩
    case round =>
      obtain ⟨k, r, hk, rfl, rfl, hr0, hr1⟩ := hrel
      by_cases hlt : k < n1
      case pos =>
        first
          | (exfalso; omega)
          | (have g0 : (0 : Int) ≤ (k : Int) := by omega
             have g1 : (k : Int) < (n1 : Int) := by omega
             obtain ⟨x, hx⟩ : ∃ x, x = xs.getD k e3 := ⟨_, rfl⟩
             obtain ⟨sa, sb, sc⟩ := x
             obtain ⟨d1, d2, d3⟩ := Cells3.later hc1.out hlt (Below.refl _ _) hx
             obtain ⟨f1, f2, f3⟩ := Fit3.at hf1.out hx
             clear hx
             unfold maxLen at f1 f2 f3
             have f1' : (sa.size : Int) ≤ 9223372036854775807 := by omega
             have f2' : (sb.size : Int) ≤ 9223372036854775807 := by omega
             have f3' : (sc.size : Int) ≤ 9223372036854775807 := by omega
             clear f1 f2 f3 m1 m2
             go_wp2
             case roundEnd => exact ⟨⟨k + 1, _, by omega, by go_num, rfl, by omega, by omega⟩, by simp [intOf]; omega⟩
             all_goals (go_ret; exact ⟨isB _, rfl⟩))
      case neg =>
        by_cases hn2 : (n2 : Int) ≤ 1048576
        case neg => first | (exfalso; omega) | (go_wp2; go_ret; exact ⟨isB _, rfl⟩)
        by_cases hz : r + n2 ≤ 1048576
        case neg => first | (exfalso; omega) | (go_wp2; go_ret; exact ⟨isB _, rfl⟩)
        go_wp2
        go_loop [7, 9] (fun z i => ∃ (k : Nat) (r : Int), k ≤ n2 ∧ i = .int .i64 k ∧ z = .int .i64 r ∧ 0 ≤ r ∧ r ≤ 1048576) (fun _ i => n2 - (intOf i).toNat)
        case atStart => exact ⟨0, _, Nat.zero_le _, rfl, rfl, by omega, by omega⟩
        case round =>
          obtain ⟨j, q, hj, rfl, rfl, hq0, hq1⟩ := hrel
          by_cases hlt2 : j < n2
          case pos =>
            first
              | (exfalso; omega)
              | (have g0 : (0 : Int) ≤ (j : Int) := by omega
                 have g1 : (j : Int) < (n2 : Int) := by omega
                 obtain ⟨x, hx⟩ : ∃ x, x = ys.getD j e3 := ⟨_, rfl⟩
                 obtain ⟨sa, sb, sc⟩ := x
                 obtain ⟨d1, d2, d3⟩ := Cells3.later hc2.out hlt2 (Below.refl _ _) hx
                 obtain ⟨f1, f2, f3⟩ := Fit3.at hf2.out hx
                 clear hx
                 unfold maxLen at f1 f2 f3
                 have f1' : (sa.size : Int) ≤ 9223372036854775807 := by omega
                 have f2' : (sb.size : Int) ≤ 9223372036854775807 := by omega
                 have f3' : (sc.size : Int) ≤ 9223372036854775807 := by omega
                 clear f1 f2 f3 m1 m2 hlt hk hr0 hr1 hz
                 go_wp2
                 case roundEnd => exact ⟨⟨j + 1, _, by omega, by go_num, rfl, by omega, by omega⟩, by simp [intOf]; omega⟩
                 all_goals (go_ret; exact ⟨isB _, rfl⟩))
          case neg =>
            go_wp2
            go_ret
            exact ⟨isB _, rfl⟩
end Go.Proofs.Qxb6613880a
