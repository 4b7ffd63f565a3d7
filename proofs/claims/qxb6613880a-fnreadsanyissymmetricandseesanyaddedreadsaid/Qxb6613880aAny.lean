import Derived.Test.Qxb6613880aNew
namespace Go.Proofs.Qxb6613880a
open Go.RowKit Go.Maps

theorem wpList_next_z {w : World} {ops : Array Oper} {rest : List Oper} {o : Oper} {a : Act} {Q : Exit → Act → World → Prop} (hg : o.guard = none) (it : Operand) (hop : o.op = Op.next it false)
    (b r n : Nat) (D : DataW Unit) (left : Lit → Bool) (cnt : Nat) (hit : a.eval it = .pointer (some ⟨r, 0, none⟩)) (h : RngZ w z50 b r n D left cnt)
    (hDone : Hid (∀ l, left l = false) → wpList Try.prog ops Q rest (a.put o.dst (.tuple #[.bool false])) w)
    (hMore : ∀ (sa sb sc : ByteArray) (l : Lit) (w' : World) (cnt' : Nat), Hid (keyOf Try.prog 52 (.agg #[.string sa, .string sb, .string sc]) = some l) → Hid (left l = true) → RngZ w' z50 b r n D (fun z => left z && !z.sameKey l) cnt' → cnt' < cnt →
      w.grownBy w' (some r) → w'.heap.size = w.heap.size → (Instr.entry (.pointer (some ⟨r, 0, none⟩))).run Try.prog w' = .ok (.tuple #[.agg #[.string sa, .string sb, .string sc], z50]) w' →
      wpList Try.prog ops Q rest (a.put o.dst (.tuple #[.bool true, .agg #[.string sa, .string sb, .string sc], z50])) w') :
    wpList Try.prog ops Q (o :: rest) a w :=
  wpList_next_ranges (α := C3) (β := Unit) w hg it hop 52 klaw _ (fun x => kv x.1 x.2.1 x.2.2) (fun _ => z50) (fun _ _ hk => keyOf_inv hk) (fun _ _ hv => ⟨(), zr_inv hv⟩) b r n D left cnt hit h
    (fun _ hl => hDone hl) (fun x _ l _ w' cnt' hk hl _ _ hr hlt hgr hs he => hMore x.1 x.2.1 x.2.2 l w' cnt' hk hl hr hlt hgr hs he)

theorem look_z {w : World} {mr n : Nat} {D : DataW Unit} {key : Value} {l : Lit} (h : OwnZ w z64 mr n D) (hk : keyOf Try.prog 52 key = some l) :
    (Instr.lookup 53 (.map (some mr)) key true).run Try.prog w = .ok (.tuple #[z64, .bool (has D l)]) w := by
  obtain ⟨v, ps, hrun, hv⟩ := World.ownsMap.look_ok h klaw Try.underlying53 (zero64 w) (zr_mk _ z64) hk
  rw [zr_inv hv] at hrun
  exact hrun

theorem left_sub {left : Lit → Bool} {D2 : DataW Unit} {l : Lit} (h : ∀ x, left x = true → has D2 x = true) : ∀ x, (left x && !x.sameKey l) = true → has D2 x = true := fun x hx => h x (by simp at hx; exact hx.1)
theorem left_none {left : Lit → Bool} {D1 D2 : DataW Unit} {l : Lit} (h : ∀ x, has D2 x = true → left x = false → has D1 x = false) (h0 : has D1 l = false) : ∀ x, has D2 x = true → (left x && !x.sameKey l) = false → has D1 x = false := by
  intro x hx hf
  cases hl : left x
  · exact h x hx hl
  · rw [hl] at hf
    have hs : x.sameKey l = true := by simpa using hf
    rw [WideAt.sameKey_eq hs]
    exact h0

attribute [local go_sem] z64
attribute [local go_sem ↓] Go.wp_at_zero Go.wp_at_succ

set_option maxHeartbeats 1000000 in
/-- '(*tx).readsAny': in whatever order the map's cells come. -/
theorem readsAny (w : World) (pb mr mc n1 n2 : Nat) (D1 D2 : DataW Unit) (bres : Bool) (hp : Hid (w.cell? ⟨pb, 4, none⟩ = some (.map (some mr)))) (h1 : OwnZ w z64 mr n1 D1) (h2 : OwnZ w z50 mc n2 D2)
    (hyes : Hid (∀ l, has D2 l = true → has D1 l = true → bres = true)) (hno : Hid ((∀ l, has D2 l = true → has D1 l = false) → bres = false)) :
    Calls Try.prog 16 #[.pointer (some ⟨pb, 0, none⟩), .map (some mc)] w fun e w' => e = .returned (.bool bres) ∧ Below w.heap.size w w' := by
  go_enter Try.func16, Try.ntmps16
  go_wp2_with (first | (at_range; refine wpList_range_own _ rfl _ 28 rfl 52 50 klaw Try.underlying28 _ mc n2 D2 rfl h2 ?_; intro w0 hrg0 hg0 hs0))
  go_frame
  go_loopw [5] (fun _ wr => ∃ left cnt, RngZ wr z50 mc w.heap.size n2 D2 left cnt ∧ Hid (∀ l, left l = true → has D2 l = true) ∧ Hid (∀ l, has D2 l = true → left l = false → has D1 l = false) ∧ Below w.heap.size w wr ∧ w.heap.size + 1 ≤ wr.heap.size) (fun _ wr => wr.rangeLeft mc w.heap.size)
  case atStart =>
    refine ⟨_, _, hrg0, fun l h => h, ?_, (Below.refl _ _).grown hg0 (Nat.le_refl _) (fun k hk => by cases hk), by omega⟩
    intro l h h'
    rw [h] at h'
    cases h'
  case round =>
    obtain ⟨left, cnt, hrg, hl2, hl1, hb, hsz⟩ := hrel
    go_wp2_with (first | (at_next; refine wpList_next_z rfl _ rfl mc w.heap.size n2 D2 left cnt rfl hrg ?_ ?_))
    · intro hl0
      go_wp2_with fail
      go_ret
      exact ⟨by rw [hno.out (fun l h => hl1.out l h (hl0.out l))]; rfl, hb⟩
    · intro sa sb sc l w1 cnt1 hk hl hrg1 hlt hg1 hs1 hen
      go_wp2_with fail
      obtain ⟨W, hW⟩ : ∃ W, W = w1.alloc (Obj.cells #[.string sa, .string sb, .string sc] 52) := ⟨_, rfl⟩
      have hb1 : Below w.heap.size w w1 := hb.grown hg1 hb.size (fun k hk => by cases hk; exact Nat.le_refl _)
      have hsz1 : w.heap.size ≤ w1.heap.size := by rw [hs1]; exact hb.size
      have hbW : Below w.heap.size w W := by rw [hW]; exact hb1.alloc hsz1 _
      have hrgW : RngZ W z50 mc w.heap.size n2 D2 (fun z => left z && !z.sameKey l) cnt1 := by rw [hW]; exact World.ranges.alloc hrg1 _
      have hcW := cell_later hbW hp.out
      have hsW : w.heap.size + 2 ≤ W.heap.size := by rw [hW]; simp; omega
      have hc0 : W.cell? ⟨wr.heap.size, 0, none⟩ = some (.string sa) := by rw [hW, ← hs1]; simp
      have hc1 : W.cell? ⟨wr.heap.size, 1, none⟩ = some (.string sb) := by rw [hW, ← hs1]; simp
      have hc2 : W.cell? ⟨wr.heap.size, 2, none⟩ = some (.string sc) := by rw [hW, ← hs1]; simp
      have hlk : Hid (∀ x, Below w.heap.size w x → (Instr.lookup 53 (.map (some mr)) (.agg #[.string sa, .string sb, .string sc]) true).run Try.prog x = .ok (.tuple #[z64, .bool (has D1 l)]) x) := fun x hx => look_z (h1.below hx) hk.out
      rw [← hW]
      clear hW hen hs1 hg1 hrg1 hb1 hsz1 hrg0 hg0 hs0
      obtain ⟨bq, hbq⟩ : ∃ bq, bq = has D1 l := ⟨_, rfl⟩
      rw [← hbq] at hlk
      have HBQ : Hid (bq = has D1 l) := hbq
      clear hbq
      have lk0 := hlk.out W hbW
      have hbA : ∀ o, Below w.heap.size w (W.alloc o) := fun o => hbW.alloc (by omega) o
      have hrgA : ∀ o, RngZ (W.alloc o).drew z50 mc w.heap.size n2 D2 (fun z => left z && !z.sameKey l) cnt1 := fun o => World.ranges.alloc hrgW o
      have n0 := World.new_ne W _ hcW
      have n4 := World.new_ne W _ hc0
      have n5 := World.new_ne W _ hc1
      have n6 := World.new_ne W _ hc2
      go_region_held3 (fun w' => w'.cell? ⟨pb, 4, none⟩ = some (.map (some mr)) ∧ w'.cell? ⟨wr.heap.size, 0, none⟩ = some (.string sa) ∧ w'.cell? ⟨wr.heap.size, 1, none⟩ = some (.string sb) ∧ w'.cell? ⟨wr.heap.size, 2, none⟩ = some (.string sc) ∧ (Instr.lookup 53 (.map (some mr)) (.agg #[.string sa, .string sb, .string sc]) true).run Try.prog w' = .ok (.tuple #[z64, .bool bq]) w')
        (first | (go_split_ands; refine ⟨by go_keep, by go_keep, by go_keep, by go_keep, ?_⟩; first | assumption | exact hlk.out _ hbW.drew | exact hlk.out _ (hbA _).drew | exact hlk.out _ (hbA _)))
        (fail)
      all_goals
        cases bq
        · go_wp2_with fail
          go_roundw
          case rel => exact ⟨_, cnt1, hrgA _, left_sub hl2.out, left_none hl1.out HBQ.out.symm, (hbA _).drew, by simp; omega⟩
          case measure => rw [World.ranges.left_eq (hrgA _), World.ranges.left_eq hrg]; exact hlt
        · go_wp2_with fail
          go_ret
          exact ⟨by rw [hyes.out l (hl2.out l hl.out) HBQ.out.symm]; rfl, (hbA _).drew⟩
set_option maxHeartbeats 400000 in
/-- 'ZZReadsAny'. -/
theorem zzReadsAny (w : World) (pb mr mc n1 n2 : Nat) (D1 D2 : DataW Unit) (bres : Bool) (hp : Hid (w.cell? ⟨pb, 4, none⟩ = some (.map (some mr)))) (h1 : OwnZ w z64 mr n1 D1) (h2 : OwnZ w z50 mc n2 D2)
    (hyes : Hid (∀ l, has D2 l = true → has D1 l = true → bres = true)) (hno : Hid ((∀ l, has D2 l = true → has D1 l = false) → bres = false)) :
    Calls Try.prog 8 #[.pointer (some ⟨pb, 0, none⟩), .map (some mc)] w fun e w' => e = .returned (.bool bres) ∧ Below w.heap.size w w' := by
  go_enter Try.func8, Try.ntmps8
  go_wp2_with fail
  refine (readsAny w pb mr mc n1 n2 D1 D2 bres hp h1 h2 hyes hno).mono ?_
  rintro e w1 ⟨rfl, hb1⟩
  go_wp2_with fail
  go_ret
  exact ⟨rfl, hb1⟩

end Go.Proofs.Qxb6613880a
