import Derived.Test.Qxb6623268aWalkB
namespace Go.Proofs.Qxb6623268a.Hold
open Go.RowKit Go.Proofs.Qxb6623268a.Kit

/-! ### ZZKeyLogLinesHold -/
theorem grown_setCell {u v : World} {row : Option Nat} (h : u.grownBy v row) {a : Addr} (ha : u.heap.size ≤ a.block) (x : Value) : u.grownBy (v.setCell a x) row :=
  ⟨h.os, h.tape, h.output, by have := h.size; simpa using this, fun k hk hr => (heap_setCell_other v a k x (by omega)).trans (h.block k hk hr)⟩
theorem owns_setCell {w : World} {base : Nat} {v : Value} {n : Nat} {xs : List Value} (h : w.ownsRow base 5 1 v n xs) {a : Addr} (ha : v.ownBlock ≠ some a.block) (x : Value) : (w.setCell a x).ownsRow base 5 1 v n xs :=
  h.kept (row := some a.block) ⟨rfl, rfl, rfl, by simp, fun k _ hr => heap_setCell_other w a k x (fun e => hr (by rw [e]))⟩ (.inr ha)

set_option maxHeartbeats 400000 in
theorem zz_skip (a : Option Addr) (n c : Nat) (u : Value) (w : World) :
    Calls Try.prog 6 #[.slice a n c, .bool true, u] w fun e w' => e = .returned (.tuple #[.slice a n c, .bool true]) ∧ w.grownBy w' none := by
  go_enter Try.func6, Try.ntmps6
  go_wp2_with (go_at_call 9; refine (hold_skip w.heap.size u _ (by simp)).mono ?_; rintro e w' ⟨rfl, rfl⟩)
  go_quiet (fail)
  go_wp2
  go_ret2
  exact ⟨rfl, grown_trans (World.grownBy_alloc w _ none) (grown_drewN _ _ _)⟩

set_option maxHeartbeats 400000 in
theorem zz_over (a a' : Option Addr) (n c m c' : Nat) (w : World) (h : 4096 ≤ n + m) (hn : n ≤ 1048576) (hm : m ≤ 1048576) (hc : n ≤ c) :
    Calls Try.prog 6 #[.slice a n c, .bool false, .slice a' m c'] w fun e w' => e = .returned (.tuple #[.slice a 0 c, .bool true]) ∧ w.grownBy w' none := by
  go_enter Try.func6, Try.ntmps6
  go_wp2_with (go_at_call 9; refine (hold_over w.heap.size n m c c' a a' _ (by simp) (by simp) (by simp) (by simp) h hn hm hc).mono ?_; rintro e w' ⟨rfl, rfl⟩)
  go_quiet (fail)
  go_wp2
  go_ret2
  exact ⟨rfl, grown_trans (World.grownBy_alloc w _ none) (grown_drewN _ _ _)⟩

set_option maxHeartbeats 400000 in
theorem zz_app (n m g' c' base : Nat) (v : Value) (xs ys : List Int) (w : World) (h : n + m < 4096) (hv : w.ownsRow base 5 1 v n (vals .u8 xs)) (hb : base ≤ w.heap.size)
    (hr : Rd .u8 w (some ⟨g', 0, none⟩) m ys) :
    Calls Try.prog 6 #[v, .bool false, .slice (some ⟨g', 0, none⟩) m c'] w fun e w' => ∃ v', e = .returned (.tuple #[v', .bool false]) ∧ w'.ownsRow base 5 1 v' (n + m) (vals .u8 (xs ++ ys)) ∧ w.grownBy w' v.ownBlock := by
  obtain ⟨a, c, rfl, _⟩ := Rd.of_owns hv
  have hne : (Value.slice a n c).ownBlock ≠ some w.heap.size := fun e => by have := (hv.lt _ e).2; omega
  go_enter Try.func6, Try.ntmps6
  go_wp2_with fail
  refine (hold_app w.heap.size n m g' c' base (.slice a n c) xs ys (w.alloc (.cells #[.slice a n c, .bool false] 32)) (by simp) (by simp) (by simp) h (hv.alloc _) (by simp; omega) hne (hr.grown (World.grownBy_alloc w _ none) (by simp))).mono ?_
  rintro e w' ⟨rfl, v', w1, ho, hg, rfl⟩
  have hsz : w.heap.size < w1.heap.size := by have := hg.size; simp at this; omega
  have d0 : w1.cell? ⟨w.heap.size, 0, none⟩ = some (.slice a n c) := hg.cell (by simp) (fun e => hne e.symm)
  have d1 : w1.cell? ⟨w.heap.size, 1, none⟩ = some (.bool false) := hg.cell (by simp) (fun e => hne e.symm)
  obtain ⟨a2, c2, hv2, _⟩ := Rd.of_owns ho
  subst hv2
  have hne2 : (Value.slice a2 (n + m) c2).ownBlock ≠ some w.heap.size := by
    intro e
    obtain ⟨_, _, e2, _, _, hfr, _⟩ := Rd.of_owns ho
    rcases ho.2 with ⟨e3, _⟩ | ⟨g, cap, cur, e3, _, hgg, _⟩
    · rw [e3] at e; simp [Value.ownBlock] at e
    · rw [e3] at e
      simp only [Value.ownBlock, Option.some.injEq] at e
      subst e
      have hold : w1.heap[w.heap.size]? = (w.alloc (.cells #[.slice a n c, .bool false] 32)).heap[w.heap.size]? := hg.block _ (by simp) (fun e => hne e.symm)
      rw [heap_alloc_new] at hold
      rw [hold] at hgg
      simp at hgg
  have HO : Hid (w1.ownsRow base 5 1 (.slice a2 (n + m) c2) (n + m) (vals .u8 (xs ++ ys)) ∧ (w.alloc (.cells #[.slice a n c, .bool false] 32)).grownBy w1 (Value.slice a n c).ownBlock ∧ (Value.slice a2 (n + m) c2).ownBlock ≠ some w.heap.size) := ⟨ho, hg, hne2⟩
  clear ho hg hne hne2 hv hr
  go_wp2
  go_quiet (fail)
  go_wp2
  go_ret2
  refine ⟨_, rfl, ?_, ?_⟩
  · exact (owns_setCell HO.out.1 (a := ⟨w.heap.size, 0, none⟩) HO.out.2.2 _).kept (grown_drewN _ _ none) (by cases (Value.slice a2 (n + m) c2).ownBlock <;> simp)
  · exact grown_trans (grown_setCell (grown_trans (World.grownBy_alloc w _ _) HO.out.2.1) (Nat.le_refl _) _) (grown_drewN _ _ _)

set_option maxHeartbeats 400000 in
theorem zz_app_nil (n base : Nat) (v : Value) (xs : List Int) (w : World) (h : n < 4096) (hv : w.ownsRow base 5 1 v n (vals .u8 xs)) :
    Calls Try.prog 6 #[v, .bool false, .slice none 0 0] w fun e w' => e = .returned (.tuple #[v, .bool false]) ∧ w.grownBy w' none := by
  obtain ⟨a, c, rfl, _⟩ := Rd.of_owns hv
  go_enter Try.func6, Try.ntmps6
  go_wp2_with fail
  refine (hold_app_nil w.heap.size n base (.slice a n c) xs (w.alloc (.cells #[.slice a n c, .bool false] 32)) (by simp) (by simp) (by simp) h (hv.alloc _)).mono ?_
  rintro e w' ⟨rfl, rfl⟩
  clear hv
  go_wp2
  go_quiet (fail)
  go_wp2
  go_ret2
  exact ⟨rfl, grown_trans (World.grownBy_alloc w _ none) (grown_drewN _ _ _)⟩

/-- What holding leaves, where the line does not grow too long: the pending bytes and the part behind them. -/
theorem zz_any (n m base base' : Nat) (v u : Value) (xs ys : List Int) (w : World) (h : n + m < 4096) (hv : w.ownsRow base 5 1 v n (vals .u8 xs)) (hb : base ≤ w.heap.size)
    (hu : w.ownsRow base' 5 1 u m (vals .u8 ys)) :
    Calls Try.prog 6 #[v, .bool false, u] w fun e w' => ∃ v', e = .returned (.tuple #[v', .bool false]) ∧ w'.ownsRow base 5 1 v' (n + m) (vals .u8 (xs ++ ys)) ∧ w.grownBy w' v.ownBlock := by
  rcases hu.2 with ⟨rfl, rfl⟩ | ⟨g, cap, cur, rfl, _⟩
  · have hy : ys = [] := by have := hu.1; simpa [vals] using this
    subst hy
    refine (zz_app_nil n base v xs w (by omega) hv).mono ?_
    rintro e w' ⟨rfl, hg⟩
    refine ⟨v, rfl, ?_, grown_more hg _⟩
    simp only [List.append_nil, Nat.add_zero]
    exact hv.kept hg (by cases v.ownBlock <;> simp)
  · obtain ⟨a, c, e, hr, _⟩ := Rd.of_owns hu
    simp only [Value.slice.injEq, true_and] at e
    obtain ⟨rfl, rfl⟩ := e
    exact zz_app n m g cap base v xs ys w h hv hb hr
end Go.Proofs.Qxb6623268a.Hold
