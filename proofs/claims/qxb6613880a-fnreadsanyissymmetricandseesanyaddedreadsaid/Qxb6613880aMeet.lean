import Derived.Test.Qxb6613880aAny
import Derived.Test.Qxb6613880aBytes
namespace Go.Proofs.Qxb6613880a
open Go.RowKit Go.Maps

/-! ### The plain law: two sets of keys meet, or do not; whichever is asked first -/
theorem key_k3 (x : C3) : WideAt.IsKeyLit (k3 x) := trivial
theorem key_map (cs : List C3) : ∀ l ∈ cs.map k3, WideAt.IsKeyLit l := by
  intro l hl; obtain ⟨x, _, rfl⟩ := List.mem_map.1 hl; exact key_k3 x
theorem has_dk (cs : List C3) (n : Nat) (h : cs.length = n) (l : Lit) : has (dk cs n) l = true ↔ l ∈ cs.map k3 := by
  unfold dk
  rw [has_setOf _ _ _ (key_map _), List.take_of_length_le (by omega), List.any_eq_true]
  constructor
  · rintro ⟨x, hx, hs⟩
    rw [← WideAt.sameKey_eq hs]; exact hx
  · intro hl
    exact ⟨l, hl, WideAt.sameKey_self (key_map cs l hl)⟩
theorem isMap_dk (cs : List C3) (n : Nat) : IsMap (dk cs n) := by
  unfold dk
  exact (tidy_setOf _ _ (key_map _)).isMap

/-- Do they meet? -/
def meet (xs ys : List C3) : Bool := (xs.map k3).any fun l => (ys.map k3).any fun l' => l'.sameKey l
theorem meet_iff (xs ys : List C3) : meet xs ys = true ↔ ∃ l, l ∈ xs.map k3 ∧ l ∈ ys.map k3 := by
  unfold meet
  rw [List.any_eq_true]
  constructor
  · rintro ⟨l, hl, h2⟩
    obtain ⟨l', hl', hs⟩ := List.any_eq_true.1 h2
    exact ⟨l, hl, by rw [← WideAt.sameKey_eq hs]; exact hl'⟩
  · rintro ⟨l, h1, h2⟩
    exact ⟨l, h1, List.any_eq_true.2 ⟨l, h2, WideAt.sameKey_self (key_map ys l h2)⟩⟩
theorem meet_yes {xs ys : List C3} {n1 n2 : Nat} (h1 : xs.length = n1) (h2 : ys.length = n2) (l : Lit) (hx : has (dk xs n1) l = true) (hy : has (dk ys n2) l = true) : meet xs ys = true :=
  (meet_iff xs ys).2 ⟨l, (has_dk xs n1 h1 l).1 hx, (has_dk ys n2 h2 l).1 hy⟩
theorem meet_no {xs ys : List C3} {n1 n2 : Nat} (h1 : xs.length = n1) (h2 : ys.length = n2) (h : ∀ l, has (dk xs n1) l = true → has (dk ys n2) l = false) : meet xs ys = false := by
  cases hm : meet xs ys
  · rfl
  · obtain ⟨l, hx, hy⟩ := (meet_iff xs ys).1 hm
    have e1 := h l ((has_dk xs n1 h1 l).2 hx)
    rw [(has_dk ys n2 h2 l).2 hy] at e1
    cases e1
theorem meet_empty {xs ys : List C3} (h : xs.length = 0 ∨ ys.length = 0) : meet xs ys = false := by
  cases hm : meet xs ys
  · rfl
  · obtain ⟨l, hx, hy⟩ := (meet_iff xs ys).1 hm
    rcases h with h | h
    · rw [List.eq_nil_of_length_eq_zero h] at hx; cases hx
    · rw [List.eq_nil_of_length_eq_zero h] at hy; cases hy
/-- A read cell put in is always read. -/
theorem added {xs ys : List C3} {n1 n2 p : Nat} {sa sb sc : ByteArray} (h1 : xs.length = n1) (hp : p < n1) (hx : (sa, sb, sc) = xs.getD p e3) (h : ∀ l, has ((dk ys n2).put (kl sa sb sc) (.agg [])) l = true → has (dk xs n1) l = false) : False := by
  have e1 : has (dk xs n1) (kl sa sb sc) = false := h _ (has_put_same (isMap_dk ys n2) (key_k3 (sa, sb, sc)) _)
  have hm : kl sa sb sc ∈ xs.map k3 := by
    have : k3 (xs.getD p e3) ∈ xs.map k3 := by
      have hl : p < xs.length := by omega
      simp only [List.getD, List.getElem?_eq_getElem hl, Option.getD_some]
      exact List.mem_map.2 ⟨_, List.getElem_mem hl, rfl⟩
    rw [← hx] at this
    exact this
  rw [(has_dk xs n1 h1 _).2 hm] at e1
  cases e1

/-! ### The contracts, whatever the slice -/
/-- All that is known of a []Cell. -/
structure Arg (w : World) (a : Option Addr) (n : Nat) (cs : List C3) : Prop where
  is : IsC w a n cs
  len : cs.length = n
  fit : Fit3 cs

theorem Arg.below {w w' : World} {a : Option Addr} {n : Nat} {cs : List C3} (h : Arg w a n cs) (hb : Below w.heap.size w w') : Arg w' a n cs := by
  refine ⟨?_, h.len, h.fit⟩
  rcases h.is with h0 | ⟨b, off, rfl, hc⟩
  · exact Or.inl h0
  · refine Or.inr ⟨b, off, rfl, fun i hi => ?_⟩
    obtain ⟨c1, c2, c3⟩ := hc i hi
    exact ⟨cell_later hb c1, cell_later hb c2, cell_later hb c3⟩

theorem newCells (w : World) (a : Option Addr) (n cap : Nat) (cs : List C3) (h : Arg w a n cs) (hm : n < 1000000) :
    Calls Try.prog 9 #[.slice a n cap] w fun e w' => e = .returned (.map (some w.heap.size)) ∧ OwnZ w' z50 w.heap.size n (dk cs n) ∧ Below w.heap.size w w' := by
  rcases h.is with rfl | ⟨b, off, rfl, hc⟩
  · exact newCells_none w a cap cs
  · exact newCells_some w b off n cap cs h.len hm hc h.fit

theorem newTx (w : World) (a : Option Addr) (n cap : Nat) (cs : List C3) (h : Arg w a n cs) (hm : n < 1000000) :
    Calls Try.prog 7 #[.slice a n cap] w fun e w' => e = .returned (.pointer (some ⟨w.heap.size + 1, 0, none⟩)) ∧ Hid (w'.cell? ⟨w.heap.size + 1, 4, none⟩ = some (.map (some w.heap.size))) ∧ OwnZ w' z64 w.heap.size n (dk cs n) ∧ Below w.heap.size w w' := by
  rcases h.is with rfl | ⟨b, off, rfl, hc⟩
  · exact newTx_none w a cap cs
  · exact newTx_some w b off n cap cs h.len hm hc h.fit

theorem cellsBytes (w : World) (a : Option Addr) (n cap : Nat) (cs : List C3) (lim : Int) (h : Arg w a n cs) (hm : n < 1000000) (l0 : 0 ≤ lim) (l1 : lim ≤ 1048576) :
    Calls Try.prog 6 #[.slice a n cap, .int .i64 lim] w fun e w' => ∃ r : Int, e = .returned (.int .i64 r) ∧ 0 ≤ r ∧ r ≤ lim + 1 ∧ w = w' := by
  rcases h.is with rfl | ⟨b, off, rfl, hc⟩
  · exact cellsBytes_none w a cap lim l0 l1
  · exact cellsBytes_some w b off n cap cs lim (by omega) hc h.fit l0 l1

/-- One side's whole answer: a transaction that read xs, asked of ys. -/
theorem asked (w : World) (pb mr mc n1 n2 : Nat) (xs ys : List C3) (m : Bool) (h1 : xs.length = n1) (h2 : ys.length = n2) (hm : Hid (meet xs ys = m)) (hp : Hid (w.cell? ⟨pb, 4, none⟩ = some (.map (some mr)))) (o1 : OwnZ w z64 mr n1 (dk xs n1)) (o2 : OwnZ w z50 mc n2 (dk ys n2)) :
    Calls Try.prog 8 #[.pointer (some ⟨pb, 0, none⟩), .map (some mc)] w fun e w' => e = .returned (.bool m) ∧ Below w.heap.size w w' :=
  zzReadsAny w pb mr mc n1 n2 _ _ m hp o1 o2 (fun l hy hx => by rw [← hm.out]; exact meet_yes h1 h2 l hx hy)
    (fun h => by
      rw [← hm.out]
      refine meet_no h1 h2 (fun l hx => ?_)
      cases hy : has (dk ys n2) l
      · rfl
      · rw [h l hy] at hx; cases hx)
theorem meet_comm (xs ys : List C3) : meet xs ys = meet ys xs := by
  rw [Bool.eq_iff_iff, meet_iff, meet_iff]
  exact ⟨fun ⟨l, a, b⟩ => ⟨l, b, a⟩, fun ⟨l, a, b⟩ => ⟨l, b, a⟩⟩

end Go.Proofs.Qxb6613880a
