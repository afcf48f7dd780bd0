import Derived.Test.Qxb6619680aOrderWalks
namespace Go.Proofs.Qxb6619680a.Bit
open Go.RowKit

/-- what the law's text wants: how i and j compare -/
def wantOf (i j : Int) : Int := if i < j then -1 else if j < i then 1 else 0

theorem cmp_want (i j : Int) (w : World) (h0 : 0 ≤ i) (k0 : 0 ≤ j) :
    Calls Try.prog 9 #[.agg #[.int .u32 (hiP i), .int .u64 (miP i), .int .u64 (loP i)], .agg #[.int .u32 (hiP j), .int .u64 (miP j), .int .u64 (loP j)]] w fun e w' => e = .returned (.int .i64 (wantOf i j)) ∧ Gr w w' := by
  unfold wantOf
  by_cases c1 : i < j
  · rw [if_pos c1]; exact cmp_lt i j w h0 c1
  · rw [if_neg c1]
    by_cases c2 : j < i
    · rw [if_pos c2]; exact cmp_gt i j w k0 c2
    · rw [if_neg c2]
      obtain rfl : i = j := by omega
      exact cmp_same i w

theorem ret_bool {a b : Bool} (h : a = b) : Ending.returned (.bool a) = .returned (.bool b) := by rw [h]

set_option maxHeartbeats 1000000 in
theorem order_in (i j : Int) (w : World) (h0 : 0 ≤ i) (h1 : i < 160) (k0 : 0 ≤ j) (k1 : j < 160) :
    Calls Try.prog 4 #[.int .i64 i, .int .i64 j] w fun e w' => e = .returned (.bool true) ∧ Gr w w' := by
  have ha := get_any i w h0 h1
  unfold PV at ha
  go_enter Try.func4, Try.ntmps4
  go_wp2_with fail
  refine ha.mono ?_
  rintro e w1 ⟨rfl, g1⟩
  clear ha
  have hb := get_any j (w1.alloc (.cells #[.int .u32 (hiP i), .int .u64 (miP i), .int .u64 (loP i)] 25)) k0 k1
  unfold PV at hb
  go_wp2_with fail
  refine hb.mono ?_
  rintro e w2 ⟨rfl, g2⟩
  clear hb
  have s2 : w1.heap.size < w2.heap.size := by have := g2.size; simp at this; omega
  have c2 : ∀ o, w2.cell? ⟨w1.heap.size, o, none⟩ = (w1.alloc (.cells #[.int .u32 (hiP i), .int .u64 (miP i), .int .u64 (loP i)] 25)).cell? ⟨w1.heap.size, o, none⟩ := fun o => g2.cell _ o (by simp)
  have G2 : Hid (Gr w w2) := (g1.alloc _ _).trans g2
  clear g1 g2
  have hp := pow_any i (w2.alloc (.cells #[.int .u32 (hiP j), .int .u64 (miP j), .int .u64 (loP j)] 25)) h0 h1
  unfold PV at hp
  go_wp2_with fail
  refine hp.mono ?_
  rintro e w3 ⟨rfl, g3⟩
  clear hp
  have s3 : w2.heap.size < w3.heap.size := by have := g3.size; simp at this; omega
  have s13 : w1.heap.size < w3.heap.size := by omega
  have c3 : ∀ o, w3.cell? ⟨w2.heap.size, o, none⟩ = (w2.alloc (.cells #[.int .u32 (hiP j), .int .u64 (miP j), .int .u64 (loP j)] 25)).cell? ⟨w2.heap.size, o, none⟩ := fun o => g3.cell _ o (by simp)
  have c13 : ∀ o, w3.cell? ⟨w1.heap.size, o, none⟩ = (w1.alloc (.cells #[.int .u32 (hiP i), .int .u64 (miP i), .int .u64 (loP i)] 25)).cell? ⟨w1.heap.size, o, none⟩ := fun o => (g3.cell _ o (by simp; omega)).trans ((World.cell?_alloc_past _ _ _ s2).trans (c2 o))
  have G3 : Hid (Gr w w3) := (G2.out.alloc _ _).trans g3
  clear g3 c2 G2
  have hq := pow_any j w3 k0 k1
  unfold PV at hq
  go_wp2_with fail
  refine hq.mono ?_
  rintro e w4 ⟨rfl, g4⟩
  clear hq
  have s4 : w2.heap.size < w4.heap.size := by have := g4.size; omega
  have s14 : w1.heap.size < w4.heap.size := by omega
  have c4 : ∀ o, w4.cell? ⟨w2.heap.size, o, none⟩ = (w2.alloc (.cells #[.int .u32 (hiP j), .int .u64 (miP j), .int .u64 (loP j)] 25)).cell? ⟨w2.heap.size, o, none⟩ := fun o => (g4.cell _ o s3).trans (c3 o)
  have c14 : ∀ o, w4.cell? ⟨w1.heap.size, o, none⟩ = (w1.alloc (.cells #[.int .u32 (hiP i), .int .u64 (miP i), .int .u64 (loP i)] 25)).cell? ⟨w1.heap.size, o, none⟩ := fun o => (g4.cell _ o s13).trans (c13 o)
  have G4 : Hid (Gr w w4) := G3.out.trans g4
  clear g4 c3 c13 G3
  go_wp2_with (go_at_call 9; refine (cmp_want i j _ h0 k0).mono ?_; rintro e w5 ⟨rfl, g5⟩)
  all_goals
    go_ret
    refine ⟨ret_bool ?_, G4.out.trans g5⟩
    unfold wantOf
    simp only [beq_iff_eq]
    repeat' split
    all_goals omega

set_option maxHeartbeats 400000 in
theorem order_out (i j : Int) (w : World) (h : i < 0 ∨ 160 ≤ i ∨ j < 0 ∨ 160 ≤ j) :
    Calls Try.prog 4 #[.int .i64 i, .int .i64 j] w fun e w' => e = .returned (.bool true) ∧ Gr w w' := by
  by_cases c1 : i < 0
  · clear h
    go_enter Try.func4, Try.ntmps4
    go_wp2
    go_ret
    exact ⟨rfl, Gr.refl _⟩
  by_cases c2 : 160 ≤ i
  · clear h
    go_enter Try.func4, Try.ntmps4
    go_wp2
    go_ret
    exact ⟨rfl, Gr.refl _⟩
  by_cases c3 : j < 0
  · clear h
    go_enter Try.func4, Try.ntmps4
    go_wp2
    go_ret
    exact ⟨rfl, Gr.refl _⟩
  · have c4 : 160 ≤ j := by omega
    clear h
    go_enter Try.func4, Try.ntmps4
    go_wp2
    go_ret
    exact ⟨rfl, Gr.refl _⟩
end Go.Proofs.Qxb6619680a.Bit
