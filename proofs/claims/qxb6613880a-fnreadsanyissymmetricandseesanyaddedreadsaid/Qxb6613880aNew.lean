import Derived.Test.Qxb6613880aAdd
import Derived.Deep.RegionHeld3
import Derived.Deep.DrawnRows
import Derived.StillTactics
namespace Go.Proofs.Qxb6613880a
open Go.RowKit Go.Maps

/-- Three strings. -/
abbrev C3 := ByteArray × ByteArray × ByteArray
def e3 : C3 := (.empty, .empty, .empty)
def k3 (x : C3) : Lit := kl x.1 x.2.1 x.2.2
/-- The set of the keys of the first k. -/
def dk (cs : List C3) (k : Nat) : DataW Unit := setOf (.agg []) ((cs.take k).map k3)
theorem dk_zero (cs : List C3) : dk cs 0 = .map [] := rfl
theorem dk_succ (cs : List C3) (k : Nat) (h : k < cs.length) : dk cs (k + 1) = (dk cs k).put (k3 (cs.getD k e3)) (.agg []) := by
  unfold dk
  rw [← setOf_snoc, List.take_succ_eq_append_getElem h, List.map_append]
  simp [List.getD, h]

/-- WHAT THE WALK IS TOLD OF A []Cell THAT CAME IN, AND IS NOT EMPTY: it leads to len rows of three strings. -/
def Cells3 (w : World) (b off len : Nat) (cs : List C3) : Prop :=
  ∀ i, i < len → w.cell? ⟨b, off + i * 3, none⟩ = some (.string (cs.getD i e3).1) ∧ w.cell? ⟨b, off + i * 3 + 1, none⟩ = some (.string (cs.getD i e3).2.1) ∧ w.cell? ⟨b, off + i * 3 + 2, none⟩ = some (.string (cs.getD i e3).2.2)
def Fit3 (cs : List C3) : Prop := ∀ i, (cs.getD i e3).1.size ≤ maxLen ∧ (cs.getD i e3).2.1.size ≤ maxLen ∧ (cs.getD i e3).2.2.size ≤ maxLen

theorem Cells3.later {w wr : World} {b off len k : Nat} {cs : List C3} {sa sb sc : ByteArray} (h : Cells3 w b off len cs) (hk : k < len) (hb : Below w.heap.size w wr) (hx : (sa, sb, sc) = cs.getD k e3) :
    wr.cell? ⟨b, off + k * 3, none⟩ = some (.string sa) ∧ wr.cell? ⟨b, off + k * 3 + 1, none⟩ = some (.string sb) ∧ wr.cell? ⟨b, off + k * 3 + 2, none⟩ = some (.string sc) := by
  obtain ⟨h1, h2, h3⟩ := h k hk
  rw [← hx] at h1 h2 h3
  exact ⟨cell_later hb h1, cell_later hb h2, cell_later hb h3⟩
theorem Fit3.at {k : Nat} {cs : List C3} {sa sb sc : ByteArray} (h : Fit3 cs) (hx : (sa, sb, sc) = cs.getD k e3) : sa.size ≤ maxLen ∧ sb.size ≤ maxLen ∧ sc.size ≤ maxLen := by
  have := h k
  rw [← hx] at this
  exact this

theorem below_add {w wr w2 : World} (hb : Below w.heap.size w wr) (hg : wr.grownBy w2 (some w.heap.size)) (hs : w.heap.size ≤ wr.heap.size) : Below w.heap.size w w2 :=
  hb.grown hg hs (fun k hk => by cases hk; exact Nat.le_refl _)

theorem tx_cell {wr w2 : World} {m : Nat} {v : Value} (h : wr.cell? ⟨m + 1, 4, none⟩ = some v) (hg : wr.drew.grownBy w2 (some m)) : w2.cell? ⟨m + 1, 4, none⟩ = some v :=
  (World.cell?_of_block (w := wr) (a := ⟨m + 1, 4, none⟩) (hg.block (m + 1) (World.block_lt_of_cell? wr _ h) (by simp))).trans h

attribute [local go_sem ↓] Go.wp_at_zero Go.wp_at_succ

set_option maxHeartbeats 1000000 in
/-- 'newCells', of a slice that is not empty. -/
theorem newCells_some (w : World) (b off len cap : Nat) (cs : List C3) (hlen : cs.length = len) (hm : len < 1000000) (hc : Hid (Cells3 w b off len cs)) (hf : Hid (Fit3 cs)) :
    Calls Try.prog 9 #[.slice (some ⟨b, off, none⟩) len cap] w fun e w' => e = .returned (.map (some w.heap.size)) ∧ OwnZ w' z50 w.heap.size len (dk cs len) ∧ Below w.heap.size w w' := by
  go_enter Try.func9, Try.ntmps9
  go_wp2_with (first | (go_at_call 17; refine (newMap _).mono ?_; rintro e w1 ⟨rfl, hown1, hb1⟩))
  go_loopw [4] (fun i wr => ∃ k : Nat, k ≤ len ∧ i = .int .i64 k ∧ OwnZ wr z50 w.heap.size k (dk cs k) ∧ Below w.heap.size w wr) (fun i _ => len - (intOf i).toNat)
  case atStart => exact ⟨0, Nat.zero_le _, rfl, hown1, hb1⟩
  case round =>
    obtain ⟨k, hk, rfl, hown, hb⟩ := hrel
    by_cases hlt : k < len
    · have h0 : (0 : Int) ≤ (k : Int) := by omega
      have h1 : (k : Int) < (len : Int) := by omega
      obtain ⟨x, hx⟩ : ∃ x, x = cs.getD k e3 := ⟨_, rfl⟩
      obtain ⟨sa, sb, sc⟩ := x
      obtain ⟨c1, c2, c3⟩ := Cells3.later hc.out hlt hb hx
      obtain ⟨f1, f2, f3⟩ := Fit3.at hf.out hx
      have HD : Hid (dk cs (k + 1) = (dk cs k).put (kl sa sb sc) (.agg [])) := by
        show _ = _
        rw [dk_succ cs k (by omega), ← hx]; rfl
      have HX : Hid ((sa, sb, sc) = cs.getD k e3) := hx
      clear hx hown1 hb1
      have hmk : k < maxLen := by unfold maxLen; omega
      go_wp2_with fail
      go_region_held3 (fun w' => w'.cell? ⟨b, off + k * 3, none⟩ = some (.string sa) ∧ w'.cell? ⟨b, off + k * 3 + 1, none⟩ = some (.string sb) ∧ w'.cell? ⟨b, off + k * 3 + 2, none⟩ = some (.string sc)) (first | go_keep | exact Cells3.later hc.out hlt hb2 HX.out)
        (first | (go_at_call 12; refine (addCell _ _ k _ _ _ _ f1 f2 f3 hown.drew hmk).mono ?_; rintro e w2 ⟨rfl, hown2, hg2⟩; have hb2 := below_add hb.drew hg2 hb.size))
      go_wp2_with fail
      go_roundw
      case rel => exact ⟨k + 1, by omega, by go_num, HD.out ▸ hown2, hb2⟩
      case measure => simp [intOf]; omega
    · obtain rfl : k = len := by omega
      go_wp2_with fail
      go_ret
      exact ⟨rfl, hown, hb⟩
set_option maxHeartbeats 1000000 in
/-- .. of an empty one. -/
theorem newCells_none (w : World) (a : Option Addr) (cap : Nat) (cs : List C3) :
    Calls Try.prog 9 #[.slice a 0 cap] w fun e w' => e = .returned (.map (some w.heap.size)) ∧ OwnZ w' z50 w.heap.size 0 (dk cs 0) ∧ Below w.heap.size w w' := by
  go_enter Try.func9, Try.ntmps9
  go_wp2_with (first | (go_at_call 17; refine (newMap _).mono ?_; rintro e w1 ⟨rfl, hown1, hb1⟩))
  go_loopw [4] (fun i wr => i = .int .i64 0 ∧ OwnZ wr z50 w.heap.size 0 (.map []) ∧ Below w.heap.size w wr) (fun _ _ => 0)
  case atStart => exact ⟨rfl, hown1, hb1⟩
  case round =>
    obtain ⟨rfl, hown, hb⟩ := hrel
    go_wp2_with fail
    go_ret
    exact ⟨rfl, hown, hb⟩

set_option maxHeartbeats 1000000 in
/-- 'newTx', of a slice that is not empty. -/
theorem newTx_some (w : World) (b off len cap : Nat) (cs : List C3) (hlen : cs.length = len) (hm : len < 1000000) (hc : Hid (Cells3 w b off len cs)) (hf : Hid (Fit3 cs)) :
    Calls Try.prog 7 #[.slice (some ⟨b, off, none⟩) len cap] w fun e w' => e = .returned (.pointer (some ⟨w.heap.size + 1, 0, none⟩)) ∧ w'.cell? ⟨w.heap.size + 1, 4, none⟩ = some (.map (some w.heap.size)) ∧ OwnZ w' z64 w.heap.size len (dk cs len) ∧ Below w.heap.size w w' := by
  go_enter Try.func7, Try.ntmps7
  go_wp2_with (first | (go_at_call 14; refine (newTx0 _).mono ?_; rintro e w1 ⟨rfl, hp1, hown1, hb1⟩))
  go_loopw [4] (fun i wr => ∃ k : Nat, k ≤ len ∧ i = .int .i64 k ∧ wr.cell? ⟨w.heap.size + 1, 4, none⟩ = some (.map (some w.heap.size)) ∧ OwnZ wr z64 w.heap.size k (dk cs k) ∧ Below w.heap.size w wr) (fun i _ => len - (intOf i).toNat)
  case atStart => exact ⟨0, Nat.zero_le _, rfl, hp1, hown1, hb1⟩
  case round =>
    obtain ⟨k, hk, rfl, hp, hown, hb⟩ := hrel
    by_cases hlt : k < len
    · have h0 : (0 : Int) ≤ (k : Int) := by omega
      have h1 : (k : Int) < (len : Int) := by omega
      obtain ⟨x, hx⟩ : ∃ x, x = cs.getD k e3 := ⟨_, rfl⟩
      obtain ⟨sa, sb, sc⟩ := x
      obtain ⟨c1, c2, c3⟩ := Cells3.later hc.out hlt hb hx
      obtain ⟨f1, f2, f3⟩ := Fit3.at hf.out hx
      have HD : Hid (dk cs (k + 1) = (dk cs k).put (kl sa sb sc) (.agg [])) := by
        show _ = _
        rw [dk_succ cs k (by omega), ← hx]; rfl
      have HX : Hid ((sa, sb, sc) = cs.getD k e3) := hx
      have HP : Hid (wr.cell? ⟨w.heap.size + 1, 4, none⟩ = some (.map (some w.heap.size))) := hp
      clear hx hown1 hb1 hp hp1
      have hmk : k < maxLen := by unfold maxLen; omega
      go_wp2_with fail
      go_region_held3 (fun w' => w'.cell? ⟨b, off + k * 3, none⟩ = some (.string sa) ∧ w'.cell? ⟨b, off + k * 3 + 1, none⟩ = some (.string sb) ∧ w'.cell? ⟨b, off + k * 3 + 2, none⟩ = some (.string sc)) (first | go_keep | exact Cells3.later hc.out hlt hb2 HX.out)
        (first | (go_at_call 15; refine (addRead wr.drew _ _ k _ _ _ _ f1 f2 f3 HP.out hown.drew hmk).mono ?_; rintro e w2 ⟨rfl, hown2, hg2⟩; have hb2 := below_add hb.drew hg2 hb.size))
      go_wp2_with fail
      have hp2 := tx_cell HP.out hg2
      go_roundw
      case rel => exact ⟨k + 1, by omega, by go_num, hp2, HD.out ▸ hown2, hb2⟩
      case measure => simp [intOf]; omega
    · obtain rfl : k = len := by omega
      go_wp2_with fail
      go_ret
      exact ⟨rfl, hp, hown, hb⟩

set_option maxHeartbeats 1000000 in
/-- .. of an empty one. -/
theorem newTx_none (w : World) (a : Option Addr) (cap : Nat) (cs : List C3) :
    Calls Try.prog 7 #[.slice a 0 cap] w fun e w' => e = .returned (.pointer (some ⟨w.heap.size + 1, 0, none⟩)) ∧ w'.cell? ⟨w.heap.size + 1, 4, none⟩ = some (.map (some w.heap.size)) ∧ OwnZ w' z64 w.heap.size 0 (dk cs 0) ∧ Below w.heap.size w w' := by
  go_enter Try.func7, Try.ntmps7
  go_wp2_with (first | (go_at_call 14; refine (newTx0 _).mono ?_; rintro e w1 ⟨rfl, hp1, hown1, hb1⟩))
  go_loopw [4] (fun i wr => i = .int .i64 0 ∧ wr.cell? ⟨w.heap.size + 1, 4, none⟩ = some (.map (some w.heap.size)) ∧ OwnZ wr z64 w.heap.size 0 (.map []) ∧ Below w.heap.size w wr) (fun _ _ => 0)
  case atStart => exact ⟨rfl, hp1, hown1, hb1⟩
  case round =>
    obtain ⟨rfl, hp, hown, hb⟩ := hrel
    go_wp2_with fail
    go_ret
    exact ⟨rfl, hp, hown, hb⟩

end Go.Proofs.Qxb6613880a
