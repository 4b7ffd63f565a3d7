import Derived.Test.Qxb6613363aProg
import Derived.WalkKit
import Derived.WalkSpells
import Derived.Outline
namespace Go.Proofs.Qxb6613363a
open Go.RowKit

/-- What 'lapsed' answers. A plain def: the walk leaves it standing. -/
def lap (cr fl : Int) (n : Nat) : Bool := decide (cr ≤ fl) && decide (n = 0)

set_option maxHeartbeats 400000 in
theorem lapsed_any (s c : Int) (a : Option Addr) (n cp : Nat) (cr fl : Int) (w : World) :
    Calls Try.prog 21 #[.int .i64 s, .int .i64 c, .slice a n cp, .int .i64 cr, .int .i64 fl] w fun e w' => e = .returned (.bool (lap cr fl n)) ∧ Below w.heap.size w w' := by
  by_cases h : cr ≤ fl
  · by_cases h0 : n = 0
    · have e1 : lap cr fl n = true := by simp [lap, h, h0]
      have E1 : Hid (lap cr fl n = true) := e1
      clear e1
      subst h0
      go_enter Try.func21, Try.ntmps21
      go_wp2
      go_ret
      exact ⟨by rw [E1.out]; rfl, by exact (Below.refl _ _).alloc (Nat.le_refl _) _⟩
    · have e1 : lap cr fl n = false := by simp [lap, h0]
      have E1 : Hid (lap cr fl n = false) := e1
      clear e1
      have hb : ((n : Int) == 0) = false := by simp; omega
      go_enter Try.func21, Try.ntmps21
      go_wp2
      go_ret
      exact ⟨by rw [E1.out]; rfl, by exact (Below.refl _ _).alloc (Nat.le_refl _) _⟩
  · have e1 : lap cr fl n = false := by simp [lap, h]
    have E1 : Hid (lap cr fl n = false) := e1
    clear e1
    have hb : decide (cr ≤ fl) = false := by simpa using h
    go_enter Try.func21, Try.ntmps21
    go_wp2
    go_ret
    exact ⟨by rw [E1.out]; rfl, by exact (Below.refl _ _).alloc (Nat.le_refl _) _⟩

set_option maxHeartbeats 400000 in
theorem bytes20_any (s c : Int) (a : Option Addr) (n cp : Nat) (cr fl : Int) (w : World) (hn : n ≤ 1048576) :
    Calls Try.prog 20 #[.int .i64 s, .int .i64 c, .slice a n cp, .int .i64 cr, .int .i64 fl] w fun e w' => e = .returned (.bool true) ∧ w = w' := by
  have h1 : (n : Int) ≤ 1048576 := by omega
  go_enter Try.func20, Try.ntmps20
  go_wp2
  go_ret
  exact ⟨rfl, rfl⟩

set_option maxHeartbeats 400000 in
theorem bytes20_far (s c : Int) (a : Option Addr) (n cp : Nat) (cr fl : Int) (w : World) (hn : ¬ n ≤ 1048576) :
    Calls Try.prog 20 #[.int .i64 s, .int .i64 c, .slice a n cp, .int .i64 cr, .int .i64 fl] w fun e w' => e = .returned (.bool false) ∧ w = w' := by
  have h1 : (1048576 : Int) < (n : Int) := by omega
  go_enter Try.func20, Try.ntmps20
  go_wp2
  go_ret
  exact ⟨rfl, rfl⟩

end Go.Proofs.Qxb6613363a
