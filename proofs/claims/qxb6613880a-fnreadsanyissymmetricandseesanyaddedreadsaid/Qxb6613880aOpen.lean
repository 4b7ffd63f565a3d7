import Derived.Test.Qxb6613880aMain
import Derived.Deep.Strs
namespace Go.Proofs.Qxb6613880a
open Go.RowKit Go.Maps Go.Deep Go.WideShapes Go.ChangeShapes

theorem Try.cells33 : Try.prog.cellsOf 33 = 3 := by kernel_rfl

/-- One element, opened. -/
theorem open_cell {H : Type} {enc : TypeId × Value → H} {w : World} {base : Nat} {sp : Nat → Bool} {held : Bool} {n : Nat} {cs : List Value} {x : DataW H × List MemPlace} (h : DataW.trod enc Try.prog w base sp held n 33 cs = some x) :
    ∃ c : C3, cs = [.string c.1, .string c.2.1, .string c.2.2] ∧ c.1.size ≤ maxLen ∧ c.2.1.size ≤ maxLen ∧ c.2.2.size ≤ maxLen := by
  obtain ⟨y0, y1, y2, m, _, hl, h0, h1, h2⟩ := trod_struct3 Try.underlying33 h
  rw [Try.cells33] at hl
  match cs, hl with
  | [u, v, z], _ =>
    simp only [Try.cells9] at h0 h1 h2
    obtain ⟨s0, e0, _, k0⟩ := DataW.trod_string Try.underlying9 h0
    obtain ⟨s1, e1, _, k1⟩ := DataW.trod_string Try.underlying9 h1
    obtain ⟨s2, e2, _, k2⟩ := DataW.trod_string Try.underlying9 h2
    simp at e0 e1 e2
    subst e0 e1 e2
    exact ⟨(s0, s1, s2), rfl, k0, k1, k2⟩

/-- A []Cell THAT CAME IN, opened. -/
theorem open_arg {H : Type} {enc : TypeId × Value → H} {w : World} {sp : Nat → Bool} {held : Bool} {fuel : Nat} {a : Option Addr} {len cap : Nat} {x : DataW H × List MemPlace}
    (h : DataW.trod enc Try.prog w 0 sp held fuel 22 [.slice a len cap] = some x) : ∃ cs, Arg w a len cs ∧ len ≤ maxLen := by
  rcases open_slice Try.underlying22 h with ⟨hcs, _⟩ | ⟨x0, l, c, m, n, D, Pl, hcs, _, hl, hm, hmm, _, hx⟩
  · simp at hcs
    obtain ⟨rfl, rfl, rfl⟩ := hcs
    exact ⟨[], ⟨Or.inl rfl, rfl, fun i => by simp [e3]⟩, Nat.zero_le _⟩
  simp at hcs
  obtain ⟨rfl, rfl, rfl⟩ := hcs
  have hlm : len ≤ m := by rw [hmm]; split <;> omega
  rw [Try.cells33] at hx
  obtain ⟨f, hf⟩ := choose_lt (α := C3) (n := len) (p := fun i c => w.cells? 0 (x0.add (i * 3)) 3 = some [.string c.1, .string c.2.1, .string c.2.2] ∧ c.1.size ≤ maxLen ∧ c.2.1.size ≤ maxLen ∧ c.2.2.size ≤ maxLen) (fun i hi => by
    obtain ⟨cs', h1, h2⟩ := hx i (by omega)
    obtain ⟨c, rfl, k⟩ := open_cell h2
    exact ⟨c, h1, k⟩)
  have hget : ∀ i, i < len → ((List.range len).map f).getD i e3 = f i := fun i hi => by simp [List.getD, hi]
  refine ⟨(List.range len).map f, ⟨?_, by simp, fun i => ?_⟩, by omega⟩
  · by_cases h0 : len = 0
    · exact Or.inl h0
    right
    obtain ⟨b, off, spot⟩ := x0
    have hcell : ∀ i, i < len → w.cell? ((⟨b, off, spot⟩ : Addr).add (i * 3 + 0)) = some (.string (f i).1) ∧ w.cell? ((⟨b, off, spot⟩ : Addr).add (i * 3 + 1)) = some (.string (f i).2.1) ∧ w.cell? ((⟨b, off, spot⟩ : Addr).add (i * 3 + 2)) = some (.string (f i).2.2) := fun i hi => by
      obtain ⟨_, _, hc⟩ := World.cells?_some (hf i hi).1
      exact ⟨by rw [← add_add]; exact hc 0 (by omega), by rw [← add_add]; exact hc 1 (by omega), by rw [← add_add]; exact hc 2 (by omega)⟩
    have hspot : spot = none := by
      have := World.cell?_spot (hcell 0 (by omega)).1
      simpa [Addr.add] using this
    subst hspot
    refine ⟨b, off, rfl, fun i hi => ?_⟩
    obtain ⟨c1, c2, c3⟩ := hcell i hi
    rw [add_plain] at c1 c2 c3
    rw [hget i hi]
    exact ⟨c1, c2, c3⟩
  · by_cases hi : i < len
    · rw [hget i hi]
      exact (hf i hi).2
    · have : ((List.range len).map f).getD i e3 = e3 := by simp [List.getD, hi]
      rw [this]
      simp [e3]

/-- THE WALK, whatever the arguments. -/
theorem walk (w : World) (a1 a2 : Option Addr) (n1 c1 n2 c2 : Nat) (p : Int) (xs ys : List C3) (m1 : n1 ≤ maxLen) (m2 : n2 ≤ maxLen) (h1 : Arg w a1 n1 xs) (h2 : Arg w a2 n2 ys) :
    Calls Try.prog 4 #[.slice a1 n1 c1, .slice a2 n2 c2, .int .i64 p] w fun e w' => e = .returned (.bool true) ∧ Below w.heap.size w w' := by
  by_cases hlong : (4096 : Int) < n1 ∨ ((n1 : Int) ≤ 4096 ∧ (4096 : Int) < n2)
  · exact main_long w a1 a2 n1 c1 n2 c2 p xs ys m1 m2 h1 h2 hlong
  have g1 : (n1 : Int) ≤ 4096 := by omega
  have g2 : (n2 : Int) ≤ 4096 := by omega
  have hz : ∀ n : Nat, ((n : Int) == 0) = decide (n = 0) := fun n => by rw [Bool.eq_iff_iff]; simp
  by_cases hp : 0 ≤ p ∧ p < n1
  · obtain ⟨pn, rfl⟩ := Int.eq_ofNat_of_zero_le hp.1
    rcases h1.is with h0 | ⟨b, off, rfl, hc⟩
    · omega
    · refine main_in w b off a2 n1 c1 n2 c2 pn xs ys m1 m2 h1 hc h2 g1 g2 (meet xs ys) (show _ = _ from rfl) (show _ = _ from meet_comm ys xs) (by rw [hz]; simp; omega) ?_ hp.1 hp.2
      by_cases h0 : n2 = 0
      · exact Or.inl ⟨by rw [hz]; simp [h0], meet_empty (Or.inr (by rw [h2.len, h0]))⟩
      · exact Or.inr (by rw [hz]; simp [h0])
  · refine main_off w a1 a2 n1 c1 n2 c2 p xs ys m1 m2 h1 h2 g1 g2 (meet xs ys) (show _ = _ from rfl) (show _ = _ from meet_comm ys xs) ?_ (by omega)
    by_cases h0 : n1 = 0
    · exact Or.inl ⟨by rw [hz]; simp [h0], meet_empty (Or.inl (by rw [h1.len, h0]))⟩
    · by_cases h0' : n2 = 0
      · exact Or.inr (Or.inl ⟨by rw [hz]; simp [h0], by rw [hz]; simp [h0'], meet_empty (Or.inr (by rw [h2.len, h0']))⟩)
      · exact Or.inr (Or.inr ⟨by rw [hz]; simp [h0], by rw [hz]; simp [h0']⟩)

end Go.Proofs.Qxb6613880a
