import Derived.Test.Qxb6613880aKeys
namespace Go.Proofs.Qxb6613880a
open Go.RowKit Go.Maps

set_option maxHeartbeats 400000 in
/-- 'ZZAddCell'. -/
theorem addCell (w : World) (mb n : Nat) (D : DataW Unit) (a b c : ByteArray) (ha : a.size ≤ maxLen) (hb : b.size ≤ maxLen) (hc : c.size ≤ maxLen) (hown : OwnZ w z50 mb n D) (hn : n < maxLen) :
    Calls Try.prog 12 #[.map (some mb), .string a, .string b, .string c] w fun e w' => e = .returned (.tuple #[]) ∧ OwnZ w' z50 mb (n + 1) (D.put (kl a b c) (.agg [])) ∧ w.grownBy w' (some mb) := by
  have hk := keyOf_kv ha hb hc
  go_enter Try.func12, Try.ntmps12
  go_wp2_with (first | (at_mapUpdate; refine wpList_mapUpdate_own _ rfl _ _ _ 28 rfl 52 50 klaw Try.underlying28 _ mb n D rfl hown hn _ _ _ rfl rfl hk _ [] (zr_mk _ z50) ?_; intro w1 hown1 hgrow1))
  go_end0
  exact ⟨rfl, hown1, hgrow1⟩

set_option maxHeartbeats 400000 in
/-- 'ZZAddRead'. -/
theorem addRead (w : World) (pb mb n : Nat) (D : DataW Unit) (a b c : ByteArray) (ha : a.size ≤ maxLen) (hb : b.size ≤ maxLen) (hc : c.size ≤ maxLen) (hcell : w.cell? ⟨pb, 4, none⟩ = some (.map (some mb))) (hown : OwnZ w z64 mb n D) (hn : n < maxLen) :
    Calls Try.prog 15 #[.pointer (some ⟨pb, 0, none⟩), .string a, .string b, .string c] w fun e w' => e = .returned (.tuple #[]) ∧ OwnZ w' z64 mb (n + 1) (D.put (kl a b c) (.agg [])) ∧ w.grownBy w' (some mb) := by
  have hk := keyOf_kv ha hb hc
  go_enter Try.func15, Try.ntmps15
  go_wp2_with (first | (at_mapUpdate; refine wpList_mapUpdate_own _ rfl _ _ _ 53 rfl 52 64 klaw Try.underlying53 _ mb n D rfl hown hn _ _ _ rfl rfl hk _ [] (zr_mk _ z64) ?_; intro w1 hown1 hgrow1))
  go_end0
  exact ⟨rfl, hown1, hgrow1⟩

set_option maxHeartbeats 400000 in
/-- 'ZZNewCells'. -/
theorem newMap (w : World) : Calls Try.prog 17 #[] w fun e w' => e = .returned (.map (some w.heap.size)) ∧ OwnZ w' z50 w.heap.size 0 (.map []) ∧ Below w.heap.size w w' := by
  have hmm := @run_makeMap Try.prog
  go_enter Try.func17, Try.ntmps17
  go_wp2
  go_ret
  exact ⟨rfl, ownZ_made w z50, (Below.refl _ _).alloc (Nat.le_refl _) _⟩

set_option maxHeartbeats 400000 in
/-- 'ZZNewTx'. -/
theorem newTx0 (w : World) : Calls Try.prog 14 #[] w fun e w' => e = .returned (.pointer (some ⟨w.heap.size + 1, 0, none⟩)) ∧ w'.cell? ⟨w.heap.size + 1, 4, none⟩ = some (.map (some w.heap.size)) ∧ OwnZ w' z64 w.heap.size 0 (.map []) ∧ Below w.heap.size w w' := by
  have hmm := @run_makeMap Try.prog
  go_enter Try.func14, Try.ntmps14
  go_wp2
  go_ret
  exact ⟨rfl, by simp, (ownZ_made w z64).below ((Below.refl _ _).alloc (Nat.le_refl _) _), ((Below.refl _ _).alloc (Nat.le_refl _) _).alloc (by simp) _⟩
end Go.Proofs.Qxb6613880a
