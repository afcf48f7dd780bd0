import Derived.Test.Qxb6623268aWalkA
import Derived.Laws.AppendOwnNone
namespace Go.Proofs.Qxb6623268a.Hold
open Go.RowKit Go.Proofs.Qxb6623268a.Kit

/-! ### hold -/
set_option maxHeartbeats 400000 in
theorem hold_skip (L : Nat) (u : Value) (w : World) (c1 : w.cell? ⟨L, 1, none⟩ = some (.bool true)) :
    Calls Try.prog 9 #[.pointer (some ⟨L, 0, none⟩), u] w fun e w' => e = .returned (.tuple #[]) ∧ w' = w := by
  go_enter Try.func9, Try.ntmps9
  go_wp2
  exact bodyPost_ret (results_none rfl _ _ _) rfl ⟨rfl, rfl⟩

set_option maxRecDepth 20000 in
set_option maxHeartbeats 400000 in
theorem hold_over (L n m c c' : Nat) (a a' : Option Addr) (w : World) (c0 : w.cell? ⟨L, 0, none⟩ = some (.slice a n c)) (c1 : w.cell? ⟨L, 1, none⟩ = some (.bool false))
    (f0 : w.frozen? ⟨L, 0, none⟩ = false) (f1 : w.frozen? ⟨L, 1, none⟩ = false) (h : 4096 ≤ n + m) (hn : n ≤ 1048576) (hm : m ≤ 1048576) (_hc : n ≤ c) :
    Calls Try.prog 9 #[.pointer (some ⟨L, 0, none⟩), .slice a' m c'] w fun e w' => e = .returned (.tuple #[]) ∧ w' = (w.setCell ⟨L, 0, none⟩ (.slice a 0 c)).setCell ⟨L, 1, none⟩ (.bool true) := by
  go_enter Try.func9, Try.ntmps9
  go_wp2
  exact bodyPost_ret (results_none rfl _ _ _) rfl ⟨rfl, rfl⟩

set_option maxRecDepth 20000 in
set_option maxHeartbeats 400000 in
theorem hold_app (L n m g' c' base : Nat) (v : Value) (xs ys : List Int) (w : World) (c0 : w.cell? ⟨L, 0, none⟩ = some v) (c1 : w.cell? ⟨L, 1, none⟩ = some (.bool false))
    (f0 : w.frozen? ⟨L, 0, none⟩ = false) (h : n + m < 4096) (hv : w.ownsRow base 5 1 v n (vals .u8 xs)) (hb : base ≤ w.heap.size) (hL : v.ownBlock ≠ some L)
    (hr : Rd .u8 w (some ⟨g', 0, none⟩) m ys) :
    Calls Try.prog 9 #[.pointer (some ⟨L, 0, none⟩), .slice (some ⟨g', 0, none⟩) m c'] w fun e w' => e = .returned (.tuple #[]) ∧ ∃ v' w1, w1.ownsRow base 5 1 v' (n + m) (vals .u8 (xs ++ ys)) ∧ w.grownBy w1 v.ownBlock ∧ w' = w1.setCell ⟨L, 0, none⟩ v' := by
  obtain ⟨i0, hi, hz0, hz1, hz2⟩ := info_parts info5
  obtain ⟨a, c, rfl, _⟩ := Rd.of_owns hv
  go_enter Try.func9, Try.ntmps9
  go_wp2_with (at_builtin; refine wpList_append_own _ rfl _ _ 22 rfl base 5 i0 (.int .u8 0) 1 1 Try.underlying22 hi hz0 hz1 hz2 rfl (by decide) _ _ _ rfl hv ⟨g', 0, none⟩ m c' (vals .u8 ys) rfl ?c1 ?c2 ?c3 ?c4 ?c5 ?c6 ?_)
  case c1 => simp [vals_length, hr.1]
  case c2 => exact hr.cells
  case c3 => exact vals_one _ _
  case c4 => unfold maxLen; omega
  case c5 => omega
  case c6 => exact hb
  intro v' w1 ho hg _
  rw [vals_append] at ho
  obtain ⟨a2, c2, rfl, _⟩ := Rd.of_owns ho
  have k0 := hg.cell c0 (by simpa using fun e => hL e.symm)
  have k1 : w1.frozen? ⟨L, 0, none⟩ = false := (World.frozen?_of_block (hg.block L (World.block_lt_of_cell? w _ c0) (fun e => hL e.symm))).trans f0
  have HO : Hid (w1.ownsRow base 5 1 (.slice a2 (n + m) c2) (n + m) (vals .u8 (xs ++ ys)) ∧ w.grownBy w1 (Value.slice a n c).ownBlock) := ⟨ho, hg⟩
  clear ho hg hL hv hr c0 f0 c1
  go_wp2
  go_end0
  exact ⟨rfl, _, _, HO.out.1, HO.out.2, rfl⟩

set_option maxRecDepth 20000 in
set_option maxHeartbeats 400000 in
theorem hold_app_nil (L n base : Nat) (v : Value) (xs : List Int) (w : World) (c0 : w.cell? ⟨L, 0, none⟩ = some v) (c1 : w.cell? ⟨L, 1, none⟩ = some (.bool false))
    (f0 : w.frozen? ⟨L, 0, none⟩ = false) (h : n < 4096) (hv : w.ownsRow base 5 1 v n (vals .u8 xs)) :
    Calls Try.prog 9 #[.pointer (some ⟨L, 0, none⟩), .slice none 0 0] w fun e w' => e = .returned (.tuple #[]) ∧ w' = w.setCell ⟨L, 0, none⟩ v := by
  obtain ⟨i0, hi, hz0, hz1, hz2⟩ := info_parts info5
  obtain ⟨a, c, rfl, _⟩ := Rd.of_owns hv
  go_enter Try.func9, Try.ntmps9
  go_wp2_with (at_builtin; refine wpList_append_own_none rfl _ _ 22 rfl base 5 i0 1 Try.underlying22 hi _ _ _ rfl hv rfl ?_)
  go_end0
  exact ⟨rfl, rfl⟩
end Go.Proofs.Qxb6623268a.Hold
