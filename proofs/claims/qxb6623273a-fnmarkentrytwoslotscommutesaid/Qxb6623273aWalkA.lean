import Derived.Test.Qxb6623273aRows
import Derived.Test.Qxb6623273aKit
import Derived.WalkLawsBesides
import Derived.BigQuiet
import Derived.Deep.QuietTactic
namespace Go.Proofs.Qxb6623273a.Mark
open Go.RowKit Go.Proofs.Qxb6623273a.Kit

theorem info28 : (Try.prog.info? 28).map (fun i => (i.zero, i.size, i.bytes)) = some (some (.int .u64 0), 1, 8) := by kernel_rfl

/-! ### copyWordsB1 -/
set_option maxHeartbeats 400000 in
theorem clone_nil (w : World) :
    Calls Try.prog 6 #[.slice none 0 0] w fun e w' => e = .returned (.slice none 0 0) ∧ w' = w := by
  have hq := fun (w : World) => Lib.run_eql_slice_nil (P := Try.prog) w 22 28 none 0 0 0 0 Try.underlying22
  go_enter Try.func6, Try.ntmps6
  go_wp2
  go_ret
  exact ⟨rfl, rfl⟩

set_option maxHeartbeats 400000 in
theorem clone_zero (x : Addr) (c : Nat) (w : World) :
    Calls Try.prog 6 #[.slice (some x) 0 c] w fun e w' => ∃ v, e = .returned v ∧ w'.ownsRow w.heap.size 28 1 v 0 [] ∧ w.grownBy w' none := by
  have hq := fun (w : World) => Lib.run_eql_slice_nil (P := Try.prog) w 22 28 (some x) 0 c 0 0 Try.underlying22
  obtain ⟨i0, hi, hz0, hz1, hz2⟩ := info_parts info28
  go_enter Try.func6, Try.ntmps6
  go_wp2_with (at_make; refine wpList_make_full _ rfl _ _ 22 rfl w.heap.size 28 i0 (.int .u64 0) 1 Try.underlying22 hi hz0 hz1 .i64 .i64 _ _ 0 rfl rfl rfl rfl (by omega) (by unfold maxLen; omega) (Nat.le_refl _) ?_; intro w1 ho hg)
  rw [made_mix .u64 [] 0] at ho
  refine wp_loop_rounds 1 ?_
  rw [rounds_succ]
  go_wp2
  go_ret
  exact ⟨.slice (some ⟨w.heap.size, 0, none⟩) 0 0, rfl, ho, hg⟩

set_option maxHeartbeats 400000 in
theorem clone_pos (b off n c : Nat) (xs : List Int) (w : World) (hr : Rd .u64 w (some ⟨b, off, none⟩) n xs) (h0 : 0 < n) (hn : n ≤ 1048576) :
    Calls Try.prog 6 #[.slice (some ⟨b, off, none⟩) n c] w fun e w' => ∃ v, e = .returned v ∧ w'.ownsRow w.heap.size 28 1 v n (vals .u64 xs) ∧ w.grownBy w' none := by
  have hq := fun (w : World) => Lib.run_eql_slice_nil (P := Try.prog) w 22 28 (some ⟨b, off, none⟩) n c 0 0 Try.underlying22
  obtain ⟨i0, hi, hz0, hz1, hz2⟩ := info_parts info28
  go_enter Try.func6, Try.ntmps6
  go_wp2_with (at_make; refine wpList_make_full _ rfl _ _ 22 rfl w.heap.size 28 i0 (.int .u64 0) 1 Try.underlying22 hi hz0 hz1 .i64 .i64 _ _ n rfl rfl rfl rfl (by rw [hz2]; omega) (by unfold maxLen; omega) (Nat.le_refl _) ?_; intro w1 ho hg)
  go_loopw [4] (fun i wr => ∃ j : Nat, j ≤ n ∧ i = .int .i64 j ∧ wr.ownsRow w.heap.size 28 1 (.slice (some ⟨w.heap.size, 0, none⟩) n n) n (mix .u64 xs n j) ∧ w.grownBy wr none) (fun i _ => n - (intOf i).toNat)
  case atStart => exact ⟨0, Nat.zero_le _, rfl, by rw [← made_mix]; exact ho, hg⟩
  case round =>
    clear ho hg hi hz0 hz1 hz2 hq
    obtain ⟨j, hj, rfl, ho, hg⟩ := hrel
    by_cases hlt : j < n
    · obtain ⟨y, hy⟩ : ∃ y, y = xs.getD j 0 := ⟨_, rfl⟩
      have hl := hr.1
      obtain ⟨b', off', e, hb, hc⟩ := (hr.below (grown_below hg)).block h0
      simp only [Option.some.injEq, Addr.mk.injEq, and_true] at e
      obtain ⟨rfl, rfl⟩ := e
      have c1 : wr.cell? ⟨b, off + j, none⟩ = some (.int .u64 y) := by rw [hy]; exact hc j hlt
      obtain ⟨u, c2⟩ : ∃ u, wr.cell? ⟨w.heap.size, j, none⟩ = some u := by
        rw [ho.cellAt j (by omega)]
        exact ⟨_, List.getElem?_eq_getElem (by rw [mix_length _ _ _ _ hl hj]; exact hlt)⟩
      have c3 : wr.frozen? ⟨w.heap.size, j, none⟩ = false := ho.frozenAt j
      have HO := ho.stored j (.int .u64 y)
      rw [hy, mix_set .u64 xs n j hl hlt, ← hy] at HO
      have HS : Hid ((wr.setCell ⟨w.heap.size, j, none⟩ (.int .u64 y)).ownsRow w.heap.size 28 1 (.slice (some ⟨w.heap.size, 0, none⟩) n n) n (mix .u64 xs n (j + 1)) ∧ w.grownBy (wr.setCell ⟨w.heap.size, j, none⟩ (.int .u64 y)) none) := ⟨HO.1, grown_fresh hg HO.2 (by simp)⟩
      clear HO hc hl hr hy ho hg hb
      go_wp2
      go_roundw
      case rel => exact ⟨j + 1, by omega, by go_num, HS.out.1, HS.out.2⟩
      case measure => simp [intOf]; omega
    · go_wp2
      go_ret
      obtain rfl : j = n := by omega
      exact ⟨_, rfl, by rw [← mix_full .u64 xs j hr.1]; exact ho, hg⟩

/-- copyWordsB1: a slice of the call's own that reads as the argument does. -/
theorem clone_any (a : Option Addr) (n c : Nat) (xs : List Int) (w : World) (hr : Rd .u64 w a n xs) (hnil : a = none → n = 0 ∧ c = 0) (hn : n ≤ 1048576) :
    Calls Try.prog 6 #[.slice a n c] w fun e w' => ∃ v, e = .returned v ∧ w'.ownsRow w.heap.size 28 1 v n (vals .u64 xs) ∧ w.grownBy w' none := by
  by_cases h0 : n = 0
  · subst h0
    have hx : xs = [] := List.length_eq_zero_iff.1 hr.1
    subst hx
    cases a with
    | none =>
      obtain ⟨_, rfl⟩ := hnil rfl
      refine (clone_nil w).mono ?_
      rintro e w' ⟨rfl, rfl⟩
      exact ⟨_, rfl, World.ownsRow_nil _ _ _ _, grown_refl _ _⟩
    | some x => exact clone_zero x c w
  · obtain ⟨b, off, rfl, _⟩ := hr.block (by omega)
    exact clone_pos b off n c xs w hr (by omega) hn

/-! ### sameWordsB1, at two slices that read the same -/
set_option maxHeartbeats 400000 in
theorem eq_zero (a a' : Option Addr) (c c' : Nat) (w : World) :
    Calls Try.prog 8 #[.slice a 0 c, .slice a' 0 c'] w fun e w' => e = .returned (.bool true) ∧ w.grownBy w' none := by
  go_enter Try.func8, Try.ntmps8
  go_wp2
  refine wp_loop_rounds 1 ?_
  rw [rounds_succ]
  go_wp2
  go_ret
  exact ⟨rfl, grown_refl _ _⟩
set_option maxHeartbeats 400000 in
theorem eq_pos (b off b' off' n c c' : Nat) (xs : List Int) (w : World) (hr : Rd .u64 w (some ⟨b, off, none⟩) n xs) (hr' : Rd .u64 w (some ⟨b', off', none⟩) n xs) (h0 : 0 < n) (hn : n ≤ 1048576) :
    Calls Try.prog 8 #[.slice (some ⟨b, off, none⟩) n c, .slice (some ⟨b', off', none⟩) n c'] w fun e w' => e = .returned (.bool true) ∧ w.grownBy w' none := by
  go_enter Try.func8, Try.ntmps8
  go_wp2
  go_loopw [5] (fun i wr => ∃ j : Nat, j ≤ n ∧ i = .int .i64 j ∧ ∃ q, wr = w.drewN q) (fun i _ => n - (intOf i).toNat)
  case atStart => exact ⟨0, Nat.zero_le _, rfl, 0, rfl⟩
  case round =>
    obtain ⟨j, hj, rfl, q, rfl⟩ := hrel
    by_cases hlt : j < n
    · obtain ⟨y, hy⟩ : ∃ y, y = xs.getD j 0 := ⟨_, rfl⟩
      have c1 : w.cell? ⟨b, off + j, none⟩ = some (.int .u64 y) := by
        obtain ⟨_, _, e, _, hc⟩ := hr.block h0
        simp only [Option.some.injEq, Addr.mk.injEq, and_true] at e
        obtain ⟨rfl, rfl⟩ := e
        rw [hy]; exact hc j hlt
      have c2 : w.cell? ⟨b', off' + j, none⟩ = some (.int .u64 y) := by
        obtain ⟨_, _, e, _, hc⟩ := hr'.block h0
        simp only [Option.some.injEq, Addr.mk.injEq, and_true] at e
        obtain ⟨rfl, rfl⟩ := e
        rw [hy]; exact hc j hlt
      clear hy hr hr'
      go_wp2
      go_quiet (fail)
      go_wp2
      go_roundw
      case rel => exact ⟨j + 1, by omega, by go_num, q + nq, by simp⟩
      case measure => simp [intOf]; omega
    · go_wp2
      go_ret
      exact ⟨rfl, grown_drewN _ _ _⟩
/-- sameWordsB1, at two slices that read the same: true. -/
theorem eq_any (a a' : Option Addr) (n c c' : Nat) (xs : List Int) (w : World) (hr : Rd .u64 w a n xs) (hr' : Rd .u64 w a' n xs) (hn : n ≤ 1048576) :
    Calls Try.prog 8 #[.slice a n c, .slice a' n c'] w fun e w' => e = .returned (.bool true) ∧ w.grownBy w' none := by
  by_cases h0 : n = 0
  · subst h0; exact eq_zero a a' c c' w
  · obtain ⟨b, off, rfl, _⟩ := hr.block (by omega)
    obtain ⟨b', off', rfl, _⟩ := hr'.block (by omega)
    exact eq_pos b off b' off' n c c' xs w hr hr' (by omega) hn

end Go.Proofs.Qxb6623273a.Mark
