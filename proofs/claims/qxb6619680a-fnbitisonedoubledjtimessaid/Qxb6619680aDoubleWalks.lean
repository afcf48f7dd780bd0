import Derived.Test.Qxb6619680aBitWalks
import Derived.Deep.RegionHeld3
namespace Go.Proofs.Qxb6619680a.Bit
open Go.RowKit

theorem lo_zero : loP 0 = 1 := rfl
theorem mi_zero : miP 0 = 0 := rfl
theorem hi_zero : hiP 0 = 0 := rfl
theorem frozen_new (w : World) (b o : Nat) (h : w.heap.size ≤ b) : w.frozen? ⟨b, o, none⟩ = false := by
  have e : w.heap[b]? = none := by simp; omega
  simp [World.frozen?, e]

theorem add_agg (j : Int) (w : World) (h0 : 0 ≤ j) (h1 : j < 159) :
    Calls Try.prog 6 #[.agg #[.int .u32 (hiP j), .int .u64 (miP j), .int .u64 (loP j)], .agg #[.int .u32 (hiP j), .int .u64 (miP j), .int .u64 (loP j)]] w fun e w' => e = .returned (.agg #[.int .u32 (hiP (j + 1)), .int .u64 (miP (j + 1)), .int .u64 (loP (j + 1))]) ∧ ∃ c1 c2 c3 : Array Value, w' = ((w.alloc (.cells c1 25)).alloc (.cells c2 25)).alloc (.cells c3 25) :=
  add_ex j w h0 h1

set_option maxHeartbeats 1000000 in
theorem law_in (j : Int) (w : World) (h0 : 0 ≤ j) (h1 : j < 160) :
    Calls Try.prog 3 #[.int .i64 j] w fun e w' => e = .returned (.bool true) ∧ Gr w w' := by
  go_enter Try.func3, Try.ntmps3
  go_wp2
  go_loopw [4] (fun i wr => ∃ k : Int, 0 ≤ k ∧ k ≤ j ∧ i = .int .i64 k ∧ Gr w wr ∧ w.heap.size < wr.heap.size ∧
      wr.cell? ⟨w.heap.size, 0, none⟩ = some (.int .u32 (hiP k)) ∧ wr.cell? ⟨w.heap.size, 1, none⟩ = some (.int .u64 (miP k)) ∧ wr.cell? ⟨w.heap.size, 2, none⟩ = some (.int .u64 (loP k))) (fun i _ => (j - intOf i).toNat)
  case atStart => exact ⟨0, by omega, by omega, rfl, (Gr.refl _).alloc _ _, by simp, by simp [hi_zero], by simp [mi_zero], by simp [lo_zero]⟩
  case round =>
    obtain ⟨k, hk0, hk1, rfl, hg, hs, c0, c1, c2⟩ := hrel
    by_cases hlt : k < j
    · have ha := add_any k wr hk0 (by omega)
      unfold PV at ha
      go_wp2_with fail
      refine ha.mono ?_
      rintro e w1 ⟨rfl, hg1⟩
      have HG : Hid (Gr w w1) := hg.trans hg1
      have hs1 : w.heap.size < w1.heap.size := Nat.lt_of_lt_of_le hs hg1.size
      have d0 := (hg1.cell w.heap.size 0 hs).trans c0
      have d1 := (hg1.cell w.heap.size 1 hs).trans c1
      have d2 := (hg1.cell w.heap.size 2 hs).trans c2
      have hf : ∀ o, w1.frozen? ⟨w.heap.size, o, none⟩ = false := fun o => (HG.out.2 _).trans (frozen_new w _ o (Nat.le_refl _))
      clear ha hg1 hg c0 c1 c2
      go_wp2
      go_roundw
      case rel => exact ⟨k + 1, by omega, by omega, rfl, ((HG.out.setCell (Nat.le_refl _) _).setCell (Nat.le_refl _) _).setCell (Nat.le_refl _) _, by simpa using hs1, by simp [go_sem, d0], by simp [go_sem, d1], by simp [go_sem, d2]⟩
      case measure => simp [intOf]; omega
    · obtain rfl : k = j := by omega
      have ha := get_any k wr hk0 h1
      unfold PV at ha
      go_wp2_with fail
      refine ha.mono ?_
      rintro e w1 ⟨rfl, hg1⟩
      have HG : Hid (Gr w w1) := hg.trans hg1
      have hs1 : w.heap.size < w1.heap.size := Nat.lt_of_lt_of_le hs hg1.size
      have d0 := (hg1.cell w.heap.size 0 hs).trans c0
      have d1 := (hg1.cell w.heap.size 1 hs).trans c1
      have d2 := (hg1.cell w.heap.size 2 hs).trans c2
      clear ha hg1 hg c0 c1 c2
      by_cases hl : k + 1 < 160
      · have hb := get_any (k + 1) (w1.alloc (.cells #[.int .u32 (hiP k), .int .u64 (miP k), .int .u64 (loP k)] 25)) (by omega) hl
        unfold PV at hb
        go_wp2_with fail
        refine hb.mono ?_
        rintro e w2 ⟨rfl, hg2⟩
        have HG2 : Hid (Gr w w2) := (HG.out.alloc _ _).trans hg2
        have hs2 : w1.heap.size < w2.heap.size := by have := hg2.size; simp at this; omega
        have f0 : w2.cell? ⟨w1.heap.size, 0, none⟩ = some (.int .u32 (hiP k)) := (hg2.cell w1.heap.size 0 (by simp)).trans (by simp)
        have f1 : w2.cell? ⟨w1.heap.size, 1, none⟩ = some (.int .u64 (miP k)) := (hg2.cell w1.heap.size 1 (by simp)).trans (by simp)
        have f2 : w2.cell? ⟨w1.heap.size, 2, none⟩ = some (.int .u64 (loP k)) := (hg2.cell w1.heap.size 2 (by simp)).trans (by simp)
        clear hb hg2 d0 d1 d2
        have g1 : w1.heap.size < w2.heap.size + 1 := by omega
        have g2 : w1.heap.size < w2.heap.size + 1 + 1 := by omega
        have g3 : w1.heap.size < w2.heap.size + 1 + 1 + 1 := by omega
        have g4 : w1.heap.size < w2.heap.size + 1 + 1 + 1 + 1 := by omega
        go_wp2_with fail
        go_region_held3 (fun w' => w1.heap.size < w'.heap.size ∧ w2.heap.size < w'.heap.size ∧ w'.cell? ⟨w1.heap.size, 0, none⟩ = some (.int .u32 (hiP k)) ∧ w'.cell? ⟨w1.heap.size, 1, none⟩ = some (.int .u64 (miP k)) ∧ w'.cell? ⟨w1.heap.size, 2, none⟩ = some (.int .u64 (loP k))
          ∧ w'.cell? ⟨w2.heap.size, 0, none⟩ = some (.int .u32 (hiP (k + 1))) ∧ w'.cell? ⟨w2.heap.size, 1, none⟩ = some (.int .u64 (miP (k + 1))) ∧ w'.cell? ⟨w2.heap.size, 2, none⟩ = some (.int .u64 (loP (k + 1)))) (simp [go_sem, World.cell?_alloc_past, *])
          (first | (go_at_call 6; refine (add_agg k _ hk0 (by omega)).mono ?_; rintro e w' ⟨rfl, o1, o2, o3, rfl⟩))
        go_wp2
        go_ret
        exact ⟨rfl, ((((HG2.out.alloc _ _).alloc _ _).alloc _ _).alloc _ _).drew⟩
      · go_wp2_with fail
        go_ret
        exact ⟨rfl, HG.out.alloc _ _⟩

set_option maxHeartbeats 400000 in
theorem law_out (j : Int) (w : World) (h : j < 0 ∨ 160 ≤ j) :
    Calls Try.prog 3 #[.int .i64 j] w fun e w' => e = .returned (.bool true) ∧ Gr w w' := by
  rcases h with h | h
  · go_enter Try.func3, Try.ntmps3
    go_wp2
    go_ret
    exact ⟨rfl, Gr.refl _⟩
  · have h' : ¬ j < 0 := by omega
    go_enter Try.func3, Try.ntmps3
    go_wp2
    go_ret
    exact ⟨rfl, Gr.refl _⟩
end Go.Proofs.Qxb6619680a.Bit
