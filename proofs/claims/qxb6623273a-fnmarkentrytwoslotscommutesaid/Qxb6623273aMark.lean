import Derived.Test.Qxb6623273aWalkA
import Derived.Test.Qxb6623273aBits
namespace Go.Proofs.Qxb6623273a.Mark
open Go.RowKit Go.Proofs.Qxb6623273a.Kit Go.Proofs.Qxb6623273a.Bits

/-! ### markEntry, ZZmarkEntry -/
set_option maxHeartbeats 400000 in
theorem mark_t (g n c q r : Nat) (i x b : Int) (w : World) (h0 : 0 ≤ i) (hi : i ≤ 9223372036854775807) (hq : i / 64 = (q : Int)) (hr : i % 64 = (r : Int)) (_hr6 : r < 64) (hqn : q < n)
    (hb : IntKind.u64.wrap (2 ^ r) = b) (hc : w.cell? ⟨g, q, none⟩ = some (.int .u64 x)) (hf : w.frozen? ⟨g, q, none⟩ = false) :
    Calls Try.prog 10 #[.slice (some ⟨g, 0, none⟩) n c, .int .i64 i, .bool true] w fun e w' => e = .returned (.tuple #[]) ∧ w' = w.setCell ⟨g, q, none⟩ (.int .u64 (bits .or .u64 x b)) := by
  go_enter Try.func10, Try.ntmps10
  go_wp2
  go_end0
  exact ⟨rfl, rfl⟩
set_option maxHeartbeats 400000 in
theorem mark_f (g n c q r : Nat) (i x b : Int) (w : World) (h0 : 0 ≤ i) (hi : i ≤ 9223372036854775807) (hq : i / 64 = (q : Int)) (hr : i % 64 = (r : Int)) (_hr6 : r < 64) (hqn : q < n)
    (hb : IntKind.u64.wrap (2 ^ r) = b) (hc : w.cell? ⟨g, q, none⟩ = some (.int .u64 x)) (hf : w.frozen? ⟨g, q, none⟩ = false) :
    Calls Try.prog 10 #[.slice (some ⟨g, 0, none⟩) n c, .int .i64 i, .bool false] w fun e w' => e = .returned (.tuple #[]) ∧ w' = w.setCell ⟨g, q, none⟩ (.int .u64 (bits .andNot .u64 x b)) := by
  go_enter Try.func10, Try.ntmps10
  go_wp2
  go_end0
  exact ⟨rfl, rfl⟩
theorem mark_any (e : Bool) (g n c q r : Nat) (i x : Int) (w : World) (h0 : 0 ≤ i) (hi : i ≤ 9223372036854775807) (hq : i / 64 = (q : Int)) (hr : i % 64 = (r : Int)) (hr6 : r < 64) (hqn : q < n)
    (hc : w.cell? ⟨g, q, none⟩ = some (.int .u64 x)) (hf : w.frozen? ⟨g, q, none⟩ = false) :
    Calls Try.prog 10 #[.slice (some ⟨g, 0, none⟩) n c, .int .i64 i, .bool e] w fun e' w' => e' = .returned (.tuple #[]) ∧ w' = w.setCell ⟨g, q, none⟩ (.int .u64 (mk e x (one r))) := by
  cases e with
  | true => exact mark_t g n c q r i x (one r) w h0 hi hq hr hr6 hqn (wrap_one hr6) hc hf
  | false => exact mark_f g n c q r i x (one r) w h0 hi hq hr hr6 hqn (wrap_one hr6) hc hf
set_option maxHeartbeats 400000 in
theorem zz_cell (e : Bool) (g n c q r : Nat) (i x : Int) (w : World) (h0 : 0 ≤ i) (hi : i ≤ 9223372036854775807) (hq : i / 64 = (q : Int)) (hr : i % 64 = (r : Int)) (hr6 : r < 64) (hqn : q < n)
    (hc : w.cell? ⟨g, q, none⟩ = some (.int .u64 x)) (hf : w.frozen? ⟨g, q, none⟩ = false) :
    Calls Try.prog 7 #[.slice (some ⟨g, 0, none⟩) n c, .int .i64 i, .bool e] w fun e' w' => e' = .returned (.tuple #[]) ∧ w' = w.setCell ⟨g, q, none⟩ (.int .u64 (mk e x (one r))) := by
  have hm := mark_any e g n c q r i x w h0 hi hq hr hr6 hqn hc hf
  clear hq hr hc hf
  go_enter Try.func7, Try.ntmps7
  go_wp2_with (go_at_call 10; refine hm.mono ?_; rintro e' w' ⟨rfl, rfl⟩)
  go_end0
  exact ⟨rfl, rfl⟩

/-- A slice of the call's own, marked. -/
theorem vals_set (xs : List Int) (q : Nat) (y : Int) : (vals .u64 xs).set q (.int .u64 y) = vals .u64 (xs.set q y) := by simp [vals]
theorem zz_own (e : Bool) (base g n c q r : Nat) (i : Int) (xs : List Int) (w : World) (h0 : 0 ≤ i) (hi : i ≤ 9223372036854775807) (hq : i / 64 = (q : Int)) (hr : i % 64 = (r : Int)) (hr6 : r < 64) (hqn : q < n)
    (ho : w.ownsRow base 28 1 (.slice (some ⟨g, 0, none⟩) n c) n (vals .u64 xs)) :
    Calls Try.prog 7 #[.slice (some ⟨g, 0, none⟩) n c, .int .i64 i, .bool e] w fun e' w' => e' = .returned (.tuple #[]) ∧
      w'.ownsRow base 28 1 (.slice (some ⟨g, 0, none⟩) n c) n (vals .u64 (xs.set q (mk e (xs.getD q 0) (one r)))) ∧ w.grownBy w' (some g) := by
  have hl : xs.length = n := by have := ho.1; simpa [vals] using this
  have hc : w.cell? ⟨g, q, none⟩ = some (.int .u64 (xs.getD q 0)) := by rw [ho.cellAt q (by omega)]; exact vals_get .u64 xs q (by omega)
  refine (zz_cell e g n c q r i _ w h0 hi hq hr hr6 hqn hc (ho.frozenAt q)).mono ?_
  rintro e' w' ⟨rfl, rfl⟩
  have hs := ho.stored q (.int .u64 (mk e (xs.getD q 0) (one r)))
  rw [vals_set] at hs
  exact ⟨rfl, hs.1, hs.2⟩

/-! ### zzBytes -/
set_option maxHeartbeats 400000 in
theorem bytes9_yes (a : Option Addr) (n c : Nat) (i : Int) (e : Bool) (w : World) (h : n ≤ 1048576) :
    Calls Try.prog 9 #[.slice a n c, .int .i64 i, .bool e] w fun e w' => e = .returned (.bool true) ∧ w' = w := by
  go_enter Try.func9, Try.ntmps9
  go_wp2
  go_ret
  exact ⟨rfl, rfl⟩
set_option maxHeartbeats 400000 in
theorem bytes9_no (a : Option Addr) (n c : Nat) (i : Int) (e : Bool) (w : World) (h : 1048576 < n) :
    Calls Try.prog 9 #[.slice a n c, .int .i64 i, .bool e] w fun e w' => e = .returned (.bool false) ∧ w' = w := by
  go_enter Try.func9, Try.ntmps9
  go_wp2
  go_ret
  exact ⟨rfl, rfl⟩
set_option maxHeartbeats 400000 in
theorem bytes5_yes (a : Option Addr) (n c : Nat) (i j : Int) (e f : Bool) (w : World) (h : n ≤ 1048576) :
    Calls Try.prog 5 #[.slice a n c, .int .i64 i, .int .i64 j, .bool e, .bool f] w fun e w' => e = .returned (.bool true) ∧ w' = w := by
  go_enter Try.func5, Try.ntmps5
  go_wp2
  go_ret
  exact ⟨rfl, rfl⟩
set_option maxHeartbeats 400000 in
theorem bytes5_no (a : Option Addr) (n c : Nat) (i j : Int) (e f : Bool) (w : World) (h : 1048576 < n) :
    Calls Try.prog 5 #[.slice a n c, .int .i64 i, .int .i64 j, .bool e, .bool f] w fun e w' => e = .returned (.bool false) ∧ w' = w := by
  go_enter Try.func5, Try.ntmps5
  go_wp2
  go_ret
  exact ⟨rfl, rfl⟩
end Go.Proofs.Qxb6623273a.Mark
