import Derived.Test.Qxb6623268aRows
import Derived.Test.Qxb6623268aKit
import Derived.WalkLawsBesides
import Derived.BigQuiet
import Derived.Deep.QuietTactic
namespace Go.Proofs.Qxb6623268a.Hold
open Go.RowKit Go.Proofs.Qxb6623268a.Kit

theorem info5 : (Try.prog.info? 5).map (fun i => (i.zero, i.size, i.bytes)) = some (some (.int .u8 0), 1, 1) := by kernel_rfl

/-! ### zzClone -/
set_option maxHeartbeats 400000 in
theorem clone_nil (w : World) :
    Calls Try.prog 5 #[.slice none 0 0] w fun e w' => e = .returned (.slice none 0 0) ∧ w' = w := by
  have hq := fun (w : World) => Lib.run_eql_slice_nil (P := Try.prog) w 22 5 none 0 0 0 0 Try.underlying22
  go_enter Try.func5, Try.ntmps5
  go_wp2
  go_ret
  exact ⟨rfl, rfl⟩

set_option maxHeartbeats 400000 in
theorem clone_zero (x : Addr) (c : Nat) (w : World) :
    Calls Try.prog 5 #[.slice (some x) 0 c] w fun e w' => ∃ v, e = .returned v ∧ w'.ownsRow w.heap.size 5 1 v 0 [] ∧ w.grownBy w' none := by
  have hq := fun (w : World) => Lib.run_eql_slice_nil (P := Try.prog) w 22 5 (some x) 0 c 0 0 Try.underlying22
  obtain ⟨i0, hi, hz0, hz1, hz2⟩ := info_parts info5
  go_enter Try.func5, Try.ntmps5
  go_wp2_with (at_make; refine wpList_make_full _ rfl _ _ 22 rfl w.heap.size 5 i0 (.int .u8 0) 1 Try.underlying22 hi hz0 hz1 .i64 .i64 _ _ 0 rfl rfl rfl rfl (by omega) (by unfold maxLen; omega) (Nat.le_refl _) ?_; intro w1 ho hg)
  rw [made_mix .u8 [] 0] at ho
  refine wp_loop_rounds 1 ?_
  rw [rounds_succ]
  go_wp2
  go_ret
  exact ⟨.slice (some ⟨w.heap.size, 0, none⟩) 0 0, rfl, ho, hg⟩

set_option maxHeartbeats 400000 in
theorem clone_pos (b off n c : Nat) (xs : List Int) (w : World) (hr : Rd .u8 w (some ⟨b, off, none⟩) n xs) (h0 : 0 < n) (hn : n ≤ 1048576) :
    Calls Try.prog 5 #[.slice (some ⟨b, off, none⟩) n c] w fun e w' => ∃ v, e = .returned v ∧ w'.ownsRow w.heap.size 5 1 v n (vals .u8 xs) ∧ w.grownBy w' none := by
  have hq := fun (w : World) => Lib.run_eql_slice_nil (P := Try.prog) w 22 5 (some ⟨b, off, none⟩) n c 0 0 Try.underlying22
  obtain ⟨i0, hi, hz0, hz1, hz2⟩ := info_parts info5
  go_enter Try.func5, Try.ntmps5
  go_wp2_with (at_make; refine wpList_make_full _ rfl _ _ 22 rfl w.heap.size 5 i0 (.int .u8 0) 1 Try.underlying22 hi hz0 hz1 .i64 .i64 _ _ n rfl rfl rfl rfl (by rw [hz2]; omega) (by unfold maxLen; omega) (Nat.le_refl _) ?_; intro w1 ho hg)
  go_loopw [4] (fun i wr => ∃ j : Nat, j ≤ n ∧ i = .int .i64 j ∧ wr.ownsRow w.heap.size 5 1 (.slice (some ⟨w.heap.size, 0, none⟩) n n) n (mix .u8 xs n j) ∧ w.grownBy wr none) (fun i _ => n - (intOf i).toNat)
  case atStart => exact ⟨0, Nat.zero_le _, rfl, by rw [← made_mix]; exact ho, hg⟩
  case round =>
    clear ho hg hi hz0 hz1 hz2 hq
    obtain ⟨j, hj, rfl, ho, hg⟩ := hrel
    by_cases hlt : j < n
    · obtain ⟨y, hy⟩ : ∃ y, y = xs.getD j 0 := ⟨_, rfl⟩
      have hl := hr.1
      obtain ⟨b', off', e, hb, hc⟩ := (hr.below (grown_below hg)).block h0
      simp only [Option.some.injEq, Addr.mk.injEq, and_true] at e
      obtain ⟨rfl, rfl⟩ := e
      have c1 : wr.cell? ⟨b, off + j, none⟩ = some (.int .u8 y) := by rw [hy]; exact hc j hlt
      obtain ⟨u, c2⟩ : ∃ u, wr.cell? ⟨w.heap.size, j, none⟩ = some u := by
        rw [ho.cellAt j (by omega)]
        exact ⟨_, List.getElem?_eq_getElem (by rw [mix_length _ _ _ _ hl hj]; exact hlt)⟩
      have c3 : wr.frozen? ⟨w.heap.size, j, none⟩ = false := ho.frozenAt j
      have HO := ho.stored j (.int .u8 y)
      rw [hy, mix_set .u8 xs n j hl hlt, ← hy] at HO
      have HS : Hid ((wr.setCell ⟨w.heap.size, j, none⟩ (.int .u8 y)).ownsRow w.heap.size 5 1 (.slice (some ⟨w.heap.size, 0, none⟩) n n) n (mix .u8 xs n (j + 1)) ∧ w.grownBy (wr.setCell ⟨w.heap.size, j, none⟩ (.int .u8 y)) none) := ⟨HO.1, grown_fresh hg HO.2 (by simp)⟩
      clear HO hc hl hr hy ho hg hb
      go_wp2
      go_roundw
      case rel => exact ⟨j + 1, by omega, by go_num, HS.out.1, HS.out.2⟩
      case measure => simp [intOf]; omega
    · go_wp2
      go_ret
      obtain rfl : j = n := by omega
      exact ⟨_, rfl, by rw [← mix_full .u8 xs j hr.1]; exact ho, hg⟩

/-- zzClone: a slice of the call's own that reads as the argument does. -/
theorem clone_any (a : Option Addr) (n c : Nat) (xs : List Int) (w : World) (hr : Rd .u8 w a n xs) (hnil : a = none → n = 0 ∧ c = 0) (hn : n ≤ 1048576) :
    Calls Try.prog 5 #[.slice a n c] w fun e w' => ∃ v, e = .returned v ∧ w'.ownsRow w.heap.size 5 1 v n (vals .u8 xs) ∧ w.grownBy w' none := by
  by_cases h0 : n = 0
  · subst h0
    have hx : xs = [] := List.length_eq_zero_iff.1 hr.1
    subst hx
    cases a with
    | none =>
      obtain ⟨_, rfl⟩ := hnil rfl
      refine (clone_nil w).mono ?_
      rintro e w' ⟨rfl, rfl⟩
      exact ⟨_, rfl, World.ownsRow_nil _ _ _ _, grown_refl _ _⟩
    | some x => exact clone_zero x c w
  · obtain ⟨b, off, rfl, _⟩ := hr.block (by omega)
    exact clone_pos b off n c xs w hr (by omega) hn

/-! ### zzEq, at two slices that read the same -/
set_option maxHeartbeats 400000 in
theorem eq_zero (a a' : Option Addr) (c c' : Nat) (w : World) :
    Calls Try.prog 7 #[.slice a 0 c, .slice a' 0 c'] w fun e w' => e = .returned (.bool true) ∧ w.grownBy w' none := by
  go_enter Try.func7, Try.ntmps7
  go_wp2
  refine wp_loop_rounds 1 ?_
  rw [rounds_succ]
  go_wp2
  go_ret
  exact ⟨rfl, grown_refl _ _⟩
set_option maxHeartbeats 400000 in
theorem eq_pos (b off b' off' n c c' : Nat) (xs : List Int) (w : World) (hr : Rd .u8 w (some ⟨b, off, none⟩) n xs) (hr' : Rd .u8 w (some ⟨b', off', none⟩) n xs) (h0 : 0 < n) (hn : n ≤ 1048576) :
    Calls Try.prog 7 #[.slice (some ⟨b, off, none⟩) n c, .slice (some ⟨b', off', none⟩) n c'] w fun e w' => e = .returned (.bool true) ∧ w.grownBy w' none := by
  go_enter Try.func7, Try.ntmps7
  go_wp2
  go_loopw [5] (fun i wr => ∃ j : Nat, j ≤ n ∧ i = .int .i64 j ∧ ∃ q, wr = w.drewN q) (fun i _ => n - (intOf i).toNat)
  case atStart => exact ⟨0, Nat.zero_le _, rfl, 0, rfl⟩
  case round =>
    obtain ⟨j, hj, rfl, q, rfl⟩ := hrel
    by_cases hlt : j < n
    · obtain ⟨y, hy⟩ : ∃ y, y = xs.getD j 0 := ⟨_, rfl⟩
      have c1 : w.cell? ⟨b, off + j, none⟩ = some (.int .u8 y) := by
        obtain ⟨_, _, e, _, hc⟩ := hr.block h0
        simp only [Option.some.injEq, Addr.mk.injEq, and_true] at e
        obtain ⟨rfl, rfl⟩ := e
        rw [hy]; exact hc j hlt
      have c2 : w.cell? ⟨b', off' + j, none⟩ = some (.int .u8 y) := by
        obtain ⟨_, _, e, _, hc⟩ := hr'.block h0
        simp only [Option.some.injEq, Addr.mk.injEq, and_true] at e
        obtain ⟨rfl, rfl⟩ := e
        rw [hy]; exact hc j hlt
      clear hy hr hr'
      go_wp2
      go_quiet (fail)
      go_wp2
      go_roundw
      case rel => exact ⟨j + 1, by omega, by go_num, q + nq, by simp⟩
      case measure => simp [intOf]; omega
    · go_wp2
      go_ret
      exact ⟨rfl, grown_drewN _ _ _⟩
/-- zzEq, at two slices that read the same: true. -/
theorem eq_any (a a' : Option Addr) (n c c' : Nat) (xs : List Int) (w : World) (hr : Rd .u8 w a n xs) (hr' : Rd .u8 w a' n xs) (hn : n ≤ 1048576) :
    Calls Try.prog 7 #[.slice a n c, .slice a' n c'] w fun e w' => e = .returned (.bool true) ∧ w.grownBy w' none := by
  by_cases h0 : n = 0
  · subst h0; exact eq_zero a a' c c' w
  · obtain ⟨b, off, rfl, _⟩ := hr.block (by omega)
    obtain ⟨b', off', rfl, _⟩ := hr'.block (by omega)
    exact eq_pos b off b' off' n c c' xs w hr hr' (by omega) hn

/-! ### zzIsConcat, at a slice that reads the one and then the other -/
set_option maxHeartbeats 1000000 in
theorem concat_any (a0 a1 a2 : Option Addr) (n m c0 c1 c2 : Nat) (xs ys : List Int) (w : World) (hr0 : Rd .u8 w a0 (n + m) (xs ++ ys)) (hr1 : Rd .u8 w a1 n xs) (hr2 : Rd .u8 w a2 m ys) (hn : n ≤ 1048576) (hm : m ≤ 1048576) :
    Calls Try.prog 8 #[.slice a0 (n + m) c0, .slice a1 n c1, .slice a2 m c2] w fun e w' => e = .returned (.bool true) ∧ w.grownBy w' none := by
  have hl := hr1.1
  go_enter Try.func8, Try.ntmps8
  go_wp2
  go_loopw [7] (fun i wr => ∃ j : Nat, j ≤ n ∧ i = .int .i64 j ∧ ∃ q, wr = w.drewN q) (fun i _ => n - (intOf i).toNat)
  case atStart => exact ⟨0, Nat.zero_le _, rfl, 0, rfl⟩
  case round =>
    obtain ⟨j, hj, rfl, q, rfl⟩ := hrel
    by_cases hlt : j < n
    · obtain ⟨y, hy⟩ : ∃ y, y = xs.getD j 0 := ⟨_, rfl⟩
      have hlt' : j < n + m := by omega
      obtain ⟨b, off, rfl, _, hc⟩ := hr0.block (by omega)
      obtain ⟨b', off', rfl, _, hc'⟩ := hr1.block (by omega)
      have k1 : w.cell? ⟨b, off + j, none⟩ = some (.int .u8 y) := by
        rw [hc j (by omega), hy]; simp [List.getD, List.getElem?_append_left (show j < xs.length by omega)]
      have k2 : w.cell? ⟨b', off' + j, none⟩ = some (.int .u8 y) := by rw [hc' j hlt, hy]
      clear hy hr0 hr1 hr2 hc hc' hl
      go_wp2
      go_quiet (fail)
      go_wp2
      go_roundw
      case rel => exact ⟨j + 1, by omega, by go_num, q + nq, by simp⟩
      case measure => simp [intOf]; omega
    · go_wp2
      go_loopw [8] (fun i wr => ∃ j : Nat, j ≤ m ∧ i = .int .i64 j ∧ ∃ q, wr = w.drewN q) (fun i _ => m - (intOf i).toNat)
      case atStart => exact ⟨0, Nat.zero_le _, rfl, q, rfl⟩
      case round =>
        obtain ⟨j', hj', rfl, q', rfl⟩ := hrel
        by_cases hlt2 : j' < m
        · obtain ⟨y, hy⟩ : ∃ y, y = ys.getD j' 0 := ⟨_, rfl⟩
          have hlt' : n + j' < n + m := by omega
          obtain ⟨b, off, rfl, _, hc⟩ := hr0.block (by omega)
          obtain ⟨b', off', rfl, _, hc'⟩ := hr2.block (by omega)
          have k1 : w.cell? ⟨b, off + (n + j'), none⟩ = some (.int .u8 y) := by
            rw [hc (n + j') (by omega), hy, ← hl]; simp [List.getD, List.getElem?_append_right]
          have k2 : w.cell? ⟨b', off' + j', none⟩ = some (.int .u8 y) := by rw [hc' j' hlt2, hy]
          clear hy hr0 hr1 hr2 hc hc' hl
          go_wp2
          go_quiet (fail)
          go_wp2
          go_roundw
          case rel => exact ⟨j' + 1, by omega, by go_num, q' + nq, rfl⟩
          case measure => simp [intOf]; omega
        · go_wp2
          go_ret
          exact ⟨rfl, grown_drewN _ _ _⟩
end Go.Proofs.Qxb6623268a.Hold
