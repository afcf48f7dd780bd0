import Derived.Test.Qxb6619680aRows
import Derived.WalkKit
import Derived.ProofKit
import Derived.WalkSpells
import Derived.WalkLawsBesides
namespace Go.Proofs.Qxb6619680a.Notice
open Go.RowKit

/-- what 'noticeRoom' answers, at x bytes left beside head and descriptors -/
def nr (x : Int) : Int := if x < 0 then 0 else x / 21

theorem nr_lo (x : Int) : 0 ≤ nr x := by unfold nr; omega
theorem nr_hi (x : Int) (h : x ≤ 1472) : nr x ≤ 1472 := by unfold nr; omega
theorem td_pos (x : Int) (h : 0 < x.tdiv 21) : x.tdiv 21 = nr x := by
  unfold nr
  by_cases c : x < 0
  · have e : x.tdiv 21 = -((-x).tdiv 21) := by rw [Int.neg_tdiv, Int.neg_neg]
    have := Int.tdiv_nonneg (a := -x) (b := 21) (by omega) (by omega)
    omega
  · rw [if_neg c, Int.tdiv_eq_ediv_of_nonneg (by omega)]
theorem td_non (x : Int) (h : x.tdiv 21 ≤ 0) : 0 = nr x := by
  unfold nr
  by_cases c : x < 0
  · rw [if_pos c]
  · rw [Int.tdiv_eq_ediv_of_nonneg (by omega)] at h
    rw [if_neg c]; omega
theorem ret_int {k : IntKind} {a b : Int} (h : a = b) : Ending.returned (.int k a) = .returned (.int k b) := by rw [h]

set_option maxHeartbeats 400000 in
theorem room_reply (d : Int) (w : World) (h0 : 0 ≤ d) (h1 : d ≤ 33554433) :
    Calls Try.prog 14 #[.int .u8 2, .int .i64 d] w fun e w' => e = .returned (.int .i64 (nr (1462 - d * 38))) ∧ w' = w := by
  go_enter Try.func14, Try.ntmps14
  go_wp2
  · go_ret
    exact ⟨ret_int (td_pos _ ‹_›), rfl⟩
  · go_ret
    exact ⟨ret_int (td_non _ ‹_›), rfl⟩

set_option maxHeartbeats 400000 in
theorem room_other (t d : Int) (w : World) (ht : (t == 2) = false) (h0 : 0 ≤ d) (h1 : d ≤ 33554433) :
    Calls Try.prog 14 #[.int .u8 t, .int .i64 d] w fun e w' => e = .returned (.int .i64 (nr (1442 - d * 38))) ∧ w' = w := by
  go_enter Try.func14, Try.ntmps14
  go_wp2
  · go_ret
    exact ⟨ret_int (td_pos _ ‹_›), rfl⟩
  · go_ret
    exact ⟨ret_int (td_non _ ‹_›), rfl⟩

set_option maxHeartbeats 400000 in
theorem zz_reply (d : Int) (w : World) (h0 : 0 ≤ d) (h1 : d ≤ 33554433) :
    Calls Try.prog 10 #[.int .u8 2, .int .i64 d] w fun e w' => e = .returned (.int .i64 (nr (1462 - d * 38))) ∧ w' = w := by
  go_enter Try.func10, Try.ntmps10
  go_wp2_with (go_at_call 14; refine (room_reply _ _ (by omega) (by omega)).mono ?_; rintro e w' ⟨rfl, rfl⟩)
  go_ret
  exact ⟨rfl, rfl⟩

set_option maxHeartbeats 400000 in
theorem zz_other (t d : Int) (w : World) (ht : (t == 2) = false) (h0 : 0 ≤ d) (h1 : d ≤ 33554433) :
    Calls Try.prog 10 #[.int .u8 t, .int .i64 d] w fun e w' => e = .returned (.int .i64 (nr (1442 - d * 38))) ∧ w' = w := by
  go_enter Try.func10, Try.ntmps10
  go_wp2_with (go_at_call 14; refine (room_other _ _ _ ht (by omega) (by omega)).mono ?_; rintro e w' ⟨rfl, rfl⟩)
  go_ret
  exact ⟨rfl, rfl⟩

/-- the law's last tests, as plain numbers: x bytes left at d descriptors, 38 fewer at one more -/
theorem fits (x : Int) (h : x ≤ 1472) :
    0 ≤ nr x - nr (x - 38) ∧ nr x - nr (x - 38) ≤ 2 ∧ (nr (x - 38) = 0 ∨ 1 ≤ nr x - nr (x - 38)) ∧
    (nr x = 0 → x < 21) ∧ (¬ nr x = 0 → nr x * 21 ≤ x ∧ x < (nr x + 1) * 21) := by
  unfold nr
  omega
end Go.Proofs.Qxb6619680a.Notice
