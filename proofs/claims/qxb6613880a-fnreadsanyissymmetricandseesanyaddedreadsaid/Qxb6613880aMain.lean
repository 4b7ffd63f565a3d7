import Derived.Test.Qxb6613880aMeet
namespace Go.Proofs.Qxb6613880a
open Go.RowKit Go.Maps

/-- More than 4096 of the first, or of the second: true at once. -/
theorem main_long (w : World) (a1 a2 : Option Addr) (n1 c1 n2 c2 : Nat) (p : Int) (xs ys : List C3) (m1 : n1 ≤ maxLen) (m2 : n2 ≤ maxLen) (h1 : Arg w a1 n1 xs) (h2 : Arg w a2 n2 ys) (h : (4096 : Int) < n1 ∨ ((n1 : Int) ≤ 4096 ∧ (4096 : Int) < n2)) :
    Calls Try.prog 4 #[.slice a1 n1 c1, .slice a2 n2 c2, .int .i64 p] w fun e w' => e = .returned (.bool true) ∧ Below w.heap.size w w' := by
  rcases h with h | ⟨h, h'⟩
  all_goals
    go_enter Try.func4, Try.ntmps4
    go_wp2_with fail
    refine (bytes11 w a1 a2 n1 c1 n2 c2 p xs ys m1 m2 h1.is h2.is h1.fit h2.fit).mono ?_
    rintro e w' ⟨⟨b, rfl⟩, rfl⟩
    cases b
    · go_wp2_with fail
      go_ret
      exact ⟨rfl, Below.refl _ _⟩
    · go_wp2_with fail
      go_ret
      exact ⟨rfl, Below.refl _ _⟩

set_option maxHeartbeats 8000000 in
/-- No index of the reads: the two answers agree, and where either list is empty they are false. -/
theorem main_off (w : World) (a1 a2 : Option Addr) (n1 c1 n2 c2 : Nat) (p : Int) (xs ys : List C3) (m1 : n1 ≤ maxLen) (m2 : n2 ≤ maxLen) (h1 : Arg w a1 n1 xs) (h2 : Arg w a2 n2 ys) (g1 : (n1 : Int) ≤ 4096) (g2 : (n2 : Int) ≤ 4096)
    (m : Bool) (hm : Hid (meet xs ys = m)) (hm' : Hid (meet ys xs = m)) (hE : (((n1 : Int) == 0) = true ∧ m = false) ∨ (((n1 : Int) == 0) = false ∧ ((n2 : Int) == 0) = true ∧ m = false) ∨ (((n1 : Int) == 0) = false ∧ ((n2 : Int) == 0) = false)) (hP : p < 0 ∨ (0 ≤ p ∧ (n1 : Int) ≤ p)) :
    Calls Try.prog 4 #[.slice a1 n1 c1, .slice a2 n2 c2, .int .i64 p] w fun e w' => e = .returned (.bool true) ∧ Below w.heap.size w w' := by
  rcases hE with ⟨e1, rfl⟩ | ⟨e1, e2, rfl⟩ | ⟨e1, e2⟩ <;> rcases hP with p1 | ⟨p1, p2⟩
  all_goals
    go_enter Try.func4, Try.ntmps4
    go_wp2_with fail
    refine (bytes11 w a1 a2 n1 c1 n2 c2 p xs ys m1 m2 h1.is h2.is h1.fit h2.fit).mono ?_
    rintro e w' ⟨⟨b, rfl⟩, rfl⟩
    clear m1 m2
    cases b
    case false =>
      go_wp2_with fail
      go_ret
      exact ⟨rfl, Below.refl _ _⟩
    go_wp2_with fail
    refine (cellsBytes w a1 n1 c1 xs 1048576 h1 (by omega) (by omega) (by omega)).mono ?_
    rintro e w' ⟨r, rfl, hr0, hr1, rfl⟩
    by_cases hr : r ≤ 1048576
    case neg =>
      go_wp2_with fail
      go_ret
      exact ⟨rfl, Below.refl _ _⟩
    go_wp2_with fail
    refine (cellsBytes w a2 n2 c2 ys (1048576 - r) h2 (by omega) (by omega) (by omega)).mono ?_
    rintro e w' ⟨q, rfl, hq0, hq1, rfl⟩
    by_cases hq : q ≤ 1048576 - r
    case neg =>
      go_wp2_with fail
      go_ret
      exact ⟨rfl, Below.refl _ _⟩
    go_wp2_with fail
    refine (newTx w a1 n1 c1 xs h1 (by omega)).mono ?_
    rintro e w1 ⟨rfl, hp1, o1, b1⟩
    go_wp2_with fail
    refine (newCells w1 a2 n2 c2 ys (h2.below b1) (by omega)).mono ?_
    rintro e w2 ⟨rfl, o2, b2⟩
    go_wp2_with fail
    refine (asked w2 (w.heap.size + 1) w.heap.size w1.heap.size n1 n2 xs ys _ h1.len h2.len hm (cell_later b2 hp1.out) (o1.below b2) o2).mono ?_
    rintro e w3 ⟨rfl, b3⟩
    have c3 : Below w.heap.size w w3 := (b1.trans (b2.mono b1.size)).trans (b3.mono (Nat.le_trans b1.size b2.size))
    clear hp1 o1 o2 b1 b2 b3
    go_wp2_with fail
    refine (newTx w3 a2 n2 c2 ys (h2.below c3) (by omega)).mono ?_
    rintro e w4 ⟨rfl, hp4, o4, b4⟩
    go_wp2_with fail
    refine (newCells w4 a1 n1 c1 xs ((h1.below c3).below b4) (by omega)).mono ?_
    rintro e w5 ⟨rfl, o5, b5⟩
    go_wp2_with fail
    refine (asked w5 (w3.heap.size + 1) w3.heap.size w4.heap.size n2 n1 ys xs _ h2.len h1.len hm' (cell_later b5 hp4.out) (o4.below b5) o5).mono ?_
    rintro e w6 ⟨rfl, b6⟩
    have c6 : Below w.heap.size w w6 := ((c3.trans (b4.mono c3.size)).trans (b5.mono (Nat.le_trans c3.size b4.size))).trans (b6.mono (Nat.le_trans c3.size (Nat.le_trans b4.size b5.size)))
    clear hp4 o4 o5 b4 b5 b6
    go_wp2_with fail
    go_ret
    exact ⟨rfl, c6⟩

attribute [local go_sem ↓] Go.wp_at_zero Go.wp_at_succ

set_option maxHeartbeats 8000000 in
/-- An index of the reads: the second list with that cell put in is always read. -/
theorem main_in (w : World) (b1 off1 : Nat) (a2 : Option Addr) (n1 c1 n2 c2 : Nat) (p : Nat) (xs ys : List C3) (m1 : n1 ≤ maxLen) (m2 : n2 ≤ maxLen) (h1 : Arg w (some ⟨b1, off1, none⟩) n1 xs) (hc : Hid (Cells3 w b1 off1 n1 xs)) (h2 : Arg w a2 n2 ys) (g1 : (n1 : Int) ≤ 4096) (g2 : (n2 : Int) ≤ 4096)
    (m : Bool) (hm : Hid (meet xs ys = m)) (hm' : Hid (meet ys xs = m)) (e1 : ((n1 : Int) == 0) = false) (hE : (((n2 : Int) == 0) = true ∧ m = false) ∨ ((n2 : Int) == 0) = false) (p1 : (0 : Int) ≤ (p : Int)) (p2 : (p : Int) < (n1 : Int)) :
    Calls Try.prog 4 #[.slice (some ⟨b1, off1, none⟩) n1 c1, .slice a2 n2 c2, .int .i64 p] w fun e w' => e = .returned (.bool true) ∧ Below w.heap.size w w' := by
  rcases hE with ⟨e2, rfl⟩ | e2
  all_goals
    go_enter Try.func4, Try.ntmps4
    go_wp2_with fail
    refine (bytes11 w _ a2 n1 c1 n2 c2 p xs ys m1 m2 h1.is h2.is h1.fit h2.fit).mono ?_
    rintro e w' ⟨⟨b, rfl⟩, rfl⟩
    clear m1 m2
    cases b
    case false =>
      go_wp2_with fail
      go_ret
      exact ⟨rfl, Below.refl _ _⟩
    go_wp2_with fail
    refine (cellsBytes w _ n1 c1 xs 1048576 h1 (by omega) (by omega) (by omega)).mono ?_
    rintro e w' ⟨r, rfl, hr0, hr1, rfl⟩
    by_cases hr : r ≤ 1048576
    case neg =>
      go_wp2_with fail
      go_ret
      exact ⟨rfl, Below.refl _ _⟩
    go_wp2_with fail
    refine (cellsBytes w a2 n2 c2 ys (1048576 - r) h2 (by omega) (by omega) (by omega)).mono ?_
    rintro e w' ⟨q, rfl, hq0, hq1, rfl⟩
    by_cases hq : q ≤ 1048576 - r
    case neg =>
      go_wp2_with fail
      go_ret
      exact ⟨rfl, Below.refl _ _⟩
    go_wp2_with fail
    refine (newTx w _ n1 c1 xs h1 (by omega)).mono ?_
    rintro e w1 ⟨rfl, hp1, o1, bb1⟩
    go_wp2_with fail
    refine (newCells w1 a2 n2 c2 ys (h2.below bb1) (by omega)).mono ?_
    rintro e w2 ⟨rfl, o2, b2⟩
    go_wp2_with fail
    refine (asked w2 (w.heap.size + 1) w.heap.size w1.heap.size n1 n2 xs ys _ h1.len h2.len hm (cell_later b2 hp1.out) (o1.below b2) o2).mono ?_
    rintro e w3 ⟨rfl, b3⟩
    have c3 : Below w.heap.size w w3 := (bb1.trans (b2.mono bb1.size)).trans (b3.mono (Nat.le_trans bb1.size b2.size))
    clear hp1 o1 o2 bb1 b2 b3
    go_wp2_with fail
    refine (newTx w3 a2 n2 c2 ys (h2.below c3) (by omega)).mono ?_
    rintro e w4 ⟨rfl, hp4, o4, b4⟩
    go_wp2_with fail
    refine (newCells w4 _ n1 c1 xs ((h1.below c3).below b4) (by omega)).mono ?_
    rintro e w5 ⟨rfl, o5, b5⟩
    go_wp2_with fail
    refine (asked w5 (w3.heap.size + 1) w3.heap.size w4.heap.size n2 n1 ys xs _ h2.len h1.len hm' (cell_later b5 hp4.out) (o4.below b5) o5).mono ?_
    rintro e w6 ⟨rfl, b6⟩
    have c6 : Below w.heap.size w w6 := ((c3.trans (b4.mono c3.size)).trans (b5.mono (Nat.le_trans c3.size b4.size))).trans (b6.mono (Nat.le_trans c3.size (Nat.le_trans b4.size b5.size)))
    clear hp4 o4 o5 b4 b5 b6
    obtain ⟨x, hx⟩ : ∃ x, x = xs.getD p e3 := ⟨_, rfl⟩
    obtain ⟨sa, sb, sc⟩ := x
    obtain ⟨f1, f2, f3⟩ := Fit3.at h1.fit hx
    have HX : Hid ((sa, sb, sc) = xs.getD p e3) := hx
    clear hx
    go_wp2_with fail
    refine (newCells w6 a2 n2 c2 ys (h2.below c6) (by omega)).mono ?_
    rintro e w7 ⟨rfl, o7, b7⟩
    have c7 : Below w.heap.size w w7 := c6.trans (b7.mono c6.size)
    obtain ⟨d1, d2, d3⟩ := Cells3.later hc.out (k := p) (by omega) c7 HX.out
    have hmk : n2 < maxLen := by unfold maxLen; omega
    have hpn : p < n1 := by omega
    clear hm hm'
    go_wp2_with fail
    go_region_held3 (fun w' => w'.cell? ⟨b1, off1 + p * 3, none⟩ = some (.string sa) ∧ w'.cell? ⟨b1, off1 + p * 3 + 1, none⟩ = some (.string sb) ∧ w'.cell? ⟨b1, off1 + p * 3 + 2, none⟩ = some (.string sc)) (first | go_keep | exact Cells3.later hc.out hpn c8 HX.out)
      (first | (go_at_call 12; refine (addCell w7.drew _ n2 _ _ _ _ f1 f2 f3 o7.drew hmk).mono ?_; rintro e w8 ⟨rfl, o8, g8⟩; have c8 := c7.drew.grown g8 c7.size (fun k hk => by cases hk; exact c6.size)))
    clear d1 d2 d3 o7 b7 g8
    go_wp2_with fail
    refine (newTx w8 _ n1 c1 xs (h1.below c8) (by omega)).mono ?_
    rintro e w9 ⟨rfl, hp9, o9, b9⟩
    go_wp2_with fail
    refine (zzReadsAny w9 (w8.heap.size + 1) w8.heap.size w6.heap.size n1 (n2 + 1) _ _ true hp9 o9 (o8.below b9) (fun _ _ _ => rfl) (fun h => by cases added h1.len hpn HX.out h)).mono ?_
    rintro e w10 ⟨rfl, b10⟩
    go_wp2_with fail
    go_ret
    exact ⟨rfl, (c8.trans (b9.mono c8.size)).trans (b10.mono (Nat.le_trans c8.size b9.size))⟩

end Go.Proofs.Qxb6613880a
