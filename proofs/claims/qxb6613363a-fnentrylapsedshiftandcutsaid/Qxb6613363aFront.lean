import Derived.Test.Qxb6613363aLapsed
import Derived.Laws.CopyOwn
import Derived.Deep.OwnRows
namespace Go.Proofs.Qxb6613363a
open Go.RowKit

theorem Try.info3 : (Try.prog.info? 3).map (fun i => (i.zero, i.size, i.bytes)) = some (some (.int .i64 0), 1, 8) := by kernel_rfl
theorem Try.size3 : (Try.prog.info? 3).map (·.size) = some 1 := by kernel_rfl

/-- 'ZZLapsed' at a known answer. -/
theorem lapsed_eq (s c : Int) (a : Option Addr) (n cp : Nat) (cr fl : Int) (w : World) (b : Bool) (hb : Hid (lap cr fl n = b)) :
    Calls Try.prog 21 #[.int .i64 s, .int .i64 c, .slice a n cp, .int .i64 cr, .int .i64 fl] w fun e w' => e = .returned (.bool b) ∧ Below w.heap.size w w' := by
  have h := hb.out
  subst h; exact lapsed_any s c a n cp cr fl w

/-- 'copy(zzc, dests)' behind 'zzc := make([]int, len(dests))': some world, in which nothing old has turned. -/
theorem copy_front (x : Addr) (len cap : Nat) (zs : List Int) (w : World) (hl : len ≤ cap) (hz : zs.length = cap)
    (hcell : ∀ i, i < zs.length → w.cell? (x.add i) = some (.int .i64 (zs.getD i 0))) :
    ∃ w2, (Builtin.copy_ #[23, 23] 3 #[.slice (some ⟨w.heap.size, 0, none⟩) len len, .slice (some x) len cap]).run Try.prog (w.alloc (.cells (madeCells #[.int .i64 0] len) 3)) = .ok (.int .i64 len) w2 ∧ Below w.heap.size w w2 := by
  have hXl : ((zs.take len).map (Value.int .i64)).length = len := by simp; omega
  have hX1 : ∀ v ∈ (zs.take len).map (Value.int .i64), v.oneCell' = true := by
    intro v hv; obtain ⟨z, _, rfl⟩ := List.mem_map.1 hv; rfl
  have hb1 : Below w.heap.size w (w.alloc (.cells (madeCells #[.int .i64 0] len) 3)) := (Below.refl _ _).alloc (Nat.le_refl _) _
  have hsrc : ∀ j v, ((zs.take len).map (Value.int .i64))[j]? = some v → (w.alloc (.cells (madeCells #[.int .i64 0] len) 3)).cell? (x.add j) = some v := by
    intro j v hv
    rw [List.getElem?_map] at hv
    obtain ⟨z, hz1, rfl⟩ := Option.map_eq_some_iff.1 hv
    have hj : j < zs.length := by
      have := (List.getElem?_eq_some_iff.1 hz1).1; simp at this; omega
    have hzj : zs.getD j 0 = z := by
      rw [List.getElem?_take] at hz1
      split at hz1
      · simp [List.getD, hz1]
      · cases hz1
    exact cell_later hb1 (by rw [hcell j hj, hzj])
  have h := run_copy_row (P := Try.prog) (w.alloc (.cells (madeCells #[.int .i64 0] len) 3)) 23 23 3 3 w.heap.size 0 len len x len cap (madeCells #[.int .i64 0] len) 3 ((zs.take len).map (Value.int .i64)) Try.underlying23 Try.size3 (heap_alloc_new w _) (by rw [hXl]; exact (Nat.min_self len).symm) hsrc (by rw [hXl, size_madeCells]; omega) hX1
  rw [hXl] at h
  exact ⟨_, h, below_setRow hb1 (Nat.le_refl _) _⟩

end Go.Proofs.Qxb6613363a
