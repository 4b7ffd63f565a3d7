import Derived.Test.Qxb6613880aProg
import Derived.WalkKit
import Derived.WalkSpells
import Derived.ProofKit
import Derived.Maps.RangeWalk
import Derived.KernelRfl
namespace Go.Proofs.Qxb6613880a
open Go.RowKit Go.Maps

/-! ### The key: a struct of three strings -/
theorem Try.laidOut : laidOutB Try.prog = true := by kernel_rfl
theorem Try.row52 : (52 : TypeId) < Try.prog.types.size := of_decide_eq_true (by kernel_rfl)
theorem Try.size : Try.prog.types.size = 94 := by kernel_rfl
theorem Try.wide52 : (match Try.prog.underlying 52 with | some (.array _ _) | some (.struct _) => true | _ => false) = true := by kernel_rfl
theorem Try.cells52 : Try.prog.cellsOf 52 = 3 := by kernel_rfl
theorem Try.cells9 : Try.prog.cellsOf 9 = 1 := by kernel_rfl
theorem Try.key52 : Try.prog.keyType 52 = true := by kernel_rfl
theorem klaw : Keyed Try.prog 52 := Keyed.of_law (deep_law_laid Try.laidOut (m := 3) (by omega) Try.row52 (by kernel_rfl) Try.wide52)

/-- WHAT A CELL's KEY READS AS. -/
def kl (a b c : ByteArray) : Lit := .string (keyBytes [.string a.data.toList, .string b.data.toList, .string c.data.toList])
/-- The value. -/
def kv (a b c : ByteArray) : Value := .agg #[.string a, .string b, .string c]

theorem lits9 (d : Nat) (s : ByteArray) : Try.prog.keyLits (d + 1) 9 [.string s] = if s.size ≤ maxLen then some [.string s.data.toList] else none := by
  simp only [Program.keyLits, Try.underlying9]
theorem lits9_inv {d : Nat} {v : Value} {ls : List Lit} (h : Try.prog.keyLits (d + 1) 9 [v] = some ls) : ∃ s : ByteArray, v = .string s := by
  cases v <;> simp [Program.keyLits, Try.underlying9] at h
  exact ⟨_, rfl⟩
theorem lits52 (d : Nat) (x y z : Value) : Try.prog.keyLits (d + 1) 52 [x, y, z] = (do let a ← Try.prog.keyLits d 9 [x]; let b ← Try.prog.keyLits d 9 [y]; let c ← Try.prog.keyLits d 9 [z]; pure (a ++ (b ++ c))) := by
  simp only [Program.keyLits, Try.underlying52, Try.cells52]
  simp [List.mapM_cons, Try.cells9]
  cases Try.prog.keyLits d 9 [x] <;> simp
  cases Try.prog.keyLits d 9 [y] <;> simp
  cases Try.prog.keyLits d 9 [z] <;> simp

theorem keyOf_eq (x y z : Value) : keyOf Try.prog 52 (.agg #[x, y, z]) = (Try.prog.keyLits (93 + 1 + 1) 52 [x, y, z]).map fun ls => .string (keyBytes ls) := by
  have e : Try.prog.types.size + 1 = 93 + 1 + 1 := by rw [Try.size]
  have hf : (Value.agg #[x, y, z]).formed Try.prog 52 = true := by simp [Value.formed, Try.underlying52, Try.cells52]
  unfold keyOf
  rw [e, Try.key52, hf, Try.underlying52]
  rfl

theorem keyOf_kv {a b c : ByteArray} (ha : a.size ≤ maxLen) (hb : b.size ≤ maxLen) (hc : c.size ≤ maxLen) : keyOf Try.prog 52 (kv a b c) = some (kl a b c) := by
  unfold kv
  rw [keyOf_eq, lits52, lits9, lits9, lits9, if_pos ha, if_pos hb, if_pos hc]
  rfl

theorem keyOf_inv {v : Value} {l : Lit} (h : keyOf Try.prog 52 v = some l) : ∃ x : ByteArray × ByteArray × ByteArray, v = kv x.1 x.2.1 x.2.2 := by
  have hf : v.formed Try.prog 52 = true := by
    simp only [keyOf, Try.underlying52] at h
    split at h
    · rename_i hc; simp at hc; exact hc.2
    · cases h
  cases v <;> simp [Value.formed, Try.underlying52, Try.cells52] at hf
  rename_i cs
  obtain ⟨l0⟩ := cs
  simp at hf
  match l0, hf with
  | [x, y, z], _ =>
    rw [keyOf_eq, lits52] at h
    obtain ⟨ls, h1, _⟩ := Option.map_eq_some_iff.1 h
    simp only [Option.bind_eq_bind, Option.bind_eq_some_iff] at h1
    obtain ⟨a, ha, b, hb, c, hc, _⟩ := h1
    obtain ⟨s1, rfl⟩ := lits9_inv ha
    obtain ⟨s2, rfl⟩ := lits9_inv hb
    obtain ⟨s3, rfl⟩ := lits9_inv hc
    exact ⟨(s1, s2, s3), rfl⟩

/-! ### The elements: the zero value alone -/
/-- 'CellRead{}'. -/
def z64 : Value := .agg #[.string .empty, .string .empty, .string .empty, .string .empty, .string .empty, .map none, .slice none 0 0, .slice none 0 0, .string .empty, .string .empty, .string .empty, .string .empty]
/-- 'write{}'. -/
def z50 : Value := .agg #[.string .empty, .string .empty, .string .empty, .string .empty, .string .empty, .map none, .slice none 0 0, .slice none 0 0, .string .empty, .string .empty, .string .empty, .nilIface, .slice none 0 0]
theorem zero64 (w : World) : (zeroValue 64).run Try.prog w = .ok z64 w := by kernel_rfl
theorem zero50 (w : World) : (zeroValue 50).run Try.prog w = .ok z50 w := by kernel_rfl

/-- How an element reads that can only be z. -/
def zr (dec : ∀ a b : Value, Decidable (a = b)) (z v : Value) : Option (DataW Unit × List MemPlace) := @ite _ (v = z) (dec v z) (some (.agg [], [])) none
theorem zr_mk (dec : ∀ a b : Value, Decidable (a = b)) (z : Value) : zr dec z z = some (.agg [], []) := by simp [zr]
theorem zr_inv {dec : ∀ a b : Value, Decidable (a = b)} {z v : Value} {y : DataW Unit × List MemPlace} (h : zr dec z v = some y) : v = z := by
  unfold zr at h
  by_cases e : v = z
  · exact e
  · simp [e] at h

/-- BLOCK b OF w IS A MAP, KEYED BY CELLS, OF AT MOST n ENTRIES, EACH HOLDING z, THAT READS AS D. -/
def OwnZ (w : World) (z : Value) (b n : Nat) (D : DataW Unit) : Prop := w.ownsMap Try.prog 52 (zr (fun a b => Classical.propDecidable (a = b)) z) b n D
/-- .. AND BLOCK r RANGES OVER IT. -/
def RngZ (w : World) (z : Value) (b r n : Nat) (D : DataW Unit) (left : Lit → Bool) (cnt : Nat) : Prop := w.ranges Try.prog 52 (zr (fun a b => Classical.propDecidable (a = b)) z) b r n D left cnt

theorem below_grown {w w' : World} (h : Below w.heap.size w w') : w.grownBy w' none := ⟨h.os, h.tape, h.output, h.size, fun i hi _ => h.block i hi⟩
theorem OwnZ.lt {w : World} {z : Value} {b n : Nat} {D : DataW Unit} (h : OwnZ w z b n D) : b < w.heap.size := World.ownsMap.lt h
theorem OwnZ.below {w w' : World} {z : Value} {b n : Nat} {D : DataW Unit} (h : OwnZ w z b n D) (hb : Below w.heap.size w w') : OwnZ w' z b n D := World.ownsMap.kept h (below_grown hb) (by simp)
theorem OwnZ.drew {w : World} {z : Value} {b n : Nat} {D : DataW Unit} (h : OwnZ w z b n D) : OwnZ w.drew z b n D := h
theorem ownZ_made (w : World) (z : Value) : OwnZ (w.alloc (.map #[] 0)) z w.heap.size 0 (.map []) := World.ownsMap_made w _ _ _

end Go.Proofs.Qxb6613880a
