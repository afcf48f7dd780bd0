import Derived.Test.Qxb6619680aRows
import Derived.WalkKit
import Derived.ProofKit
import Derived.WalkSpells
import Derived.WalkLawsBesides
import Derived.BigQuiet
import Derived.Deep.QuietTactic
import Derived.IntWalk
namespace Go.Proofs.Qxb6619680a.Bit
open Go.RowKit

/-! ### What becomes of the world: new blocks alone, no mark turned -/
def Gr (W w' : World) : Prop := Below W.heap.size W w' ∧ ∀ a, w'.frozen? a = W.frozen? a
theorem Gr.refl (W : World) : Gr W W := ⟨Below.refl _ _, fun _ => rfl⟩
theorem Gr.trans {a b c : World} (h : Gr a b) (k : Gr b c) : Gr a c :=
  ⟨h.1.trans (k.1.mono h.1.size), fun x => (k.2 x).trans (h.2 x)⟩
theorem Gr.alloc {W w' : World} (h : Gr W w') (c : Array Value) (t : TypeId) : Gr W (w'.alloc (.cells c t)) :=
  ⟨h.1.alloc h.1.size _, fun a => (frozen?_alloc_cells _ _ _ a).trans (h.2 a)⟩
theorem Gr.setCell {W w' : World} (h : Gr W w') {a : Addr} (ha : W.heap.size ≤ a.block) (v : Value) : Gr W (w'.setCell a v) :=
  ⟨h.1.setCell ha v, fun x => (World.frozen?_setCell _ _ _ _).trans (h.2 x)⟩
theorem Gr.drew {W w' : World} (h : Gr W w') : Gr W w'.drew := ⟨h.1.drew, h.2⟩
theorem Gr.drewN {W w' : World} (h : Gr W w') (n : Nat) : Gr W (w'.drewN n) := ⟨below_drewN h.1 n, h.2⟩
theorem Gr.grown {W w' : World} (h : Gr W w') : Grown W w' := ⟨h.1.frame _, h.2, h.1.size⟩
theorem Gr.size {W w' : World} (h : Gr W w') : W.heap.size ≤ w'.heap.size := h.1.size
theorem Gr.cell {W w' : World} (h : Gr W w') : ∀ b o, b < W.heap.size → w'.cell? ⟨b, o, none⟩ = W.cell? ⟨b, o, none⟩ :=
  fun b o k => h.1.cell (p := ⟨b, o, none⟩) k

/-! ### 2^j in three words -/
def loP (j : Int) : Int := if j < 64 then 2 ^ j.toNat else 0
def miP (j : Int) : Int := if 64 ≤ j ∧ j < 128 then 2 ^ (j - 64).toNat else 0
def hiP (j : Int) : Int := if 128 ≤ j then 2 ^ (j - 128).toNat else 0

theorem two_le {a b : Nat} (h : a ≤ b) : (2 : Int) ^ a ≤ 2 ^ b := by
  have := Nat.pow_le_pow_right (n := 2) (by omega) h
  exact_mod_cast this
theorem two_pos (a : Nat) : (0 : Int) < 2 ^ a := by
  have := Nat.pow_pos (n := a) (a := 2) (by omega)
  exact_mod_cast this
theorem two_succ (a : Nat) : (2 : Int) ^ (a + 1) = 2 ^ a + 2 ^ a := by rw [Int.pow_succ]; omega

theorem lo_wrap (j : Int) (h : j < 64) : IntKind.u64.wrap (2 ^ j.toNat) = 2 ^ j.toNat := by
  have a := two_pos j.toNat
  have b := two_le (show j.toNat ≤ 63 by omega)
  exact IntWalk.u64_in _ ⟨by omega, by omega⟩
theorem wrap_top : IntKind.u64.wrap 18446744073709551616 = 0 := by rw [IntKind.wrap_u64]; omega

/-- the words' doubles -/
theorem dbl_lo (j : Int) (h0 : 0 ≤ j) (h1 : j < 63) : loP (j + 1) = loP j + loP j ∧ 0 ≤ loP j ∧ loP j < 9223372036854775808 := by
  unfold loP
  rw [if_pos (by omega), if_pos (by omega), show (j + 1).toNat = j.toNat + 1 by omega, two_succ]
  have a := two_pos j.toNat
  have b := two_le (show j.toNat ≤ 62 by omega)
  exact ⟨rfl, by omega, by omega⟩
theorem dbl_mi (j : Int) (h0 : 64 ≤ j) (h1 : j < 127) : miP (j + 1) = miP j + miP j ∧ 0 ≤ miP j ∧ miP j < 9223372036854775808 := by
  unfold miP
  rw [if_pos (by omega), if_pos (by omega), show (j + 1 - 64).toNat = (j - 64).toNat + 1 by omega, two_succ]
  have a := two_pos (j - 64).toNat
  have b := two_le (show (j - 64).toNat ≤ 62 by omega)
  exact ⟨rfl, by omega, by omega⟩
theorem dbl_hi (j : Int) (h0 : 128 ≤ j) (h1 : j < 159) : hiP (j + 1) = hiP j + hiP j ∧ 0 ≤ hiP j ∧ hiP j < 2147483648 := by
  unfold hiP
  rw [if_pos (by omega), if_pos (by omega), show (j + 1 - 128).toNat = (j - 128).toNat + 1 by omega, two_succ]
  have a := two_pos (j - 128).toNat
  have b := two_le (show (j - 128).toNat ≤ 30 by omega)
  exact ⟨rfl, by omega, by omega⟩
theorem lo_none (j : Int) (h : 64 ≤ j) : loP j = 0 := by unfold loP; rw [if_neg (by omega)]
theorem mi_none (j : Int) (h : j < 64 ∨ 128 ≤ j) : miP j = 0 := by unfold miP; rw [if_neg (by omega)]
theorem hi_none (j : Int) (h : j < 128) : hiP j = 0 := by unfold hiP; rw [if_neg (by omega)]

/-- the struct that holds 2^j -/
def PV (j : Int) : Value := .agg #[.int .u32 (hiP j), .int .u64 (miP j), .int .u64 (loP j)]

/-! ### bit -/
set_option maxHeartbeats 400000 in
theorem bit_any (j : Int) (w : World) (h0 : 0 ≤ j) (h1 : j < 160) :
    Calls Try.prog 15 #[.int .i64 j] w fun e w' => e = .returned (PV j) ∧ Gr w w' := by
  by_cases c1 : j < 64
  · have H1 : Hid (hiP j = 0) := hi_none j (by omega)
    have H2 : Hid (miP j = 0) := mi_none j (by omega)
    have H3 : Hid (loP j = IntKind.u64.wrap (2 ^ j.toNat)) := by rw [lo_wrap j c1]; unfold loP; exact if_pos c1
    go_enter Try.func15, Try.ntmps15
    go_wp2
    refine bodyPost_ret (v := .agg #[.int .u32 0, .int .u64 0, .int .u64 (IntKind.u64.wrap (2 ^ j.toNat))]) (by simp [results, Try.results15, go_sem]) rfl ⟨?_, (Gr.refl _).alloc _ _⟩
    rw [PV, H1.out, H2.out, H3.out]
  · by_cases c2 : j < 128
    · have H1 : Hid (hiP j = 0) := hi_none j (by omega)
      have H2 : Hid (miP j = IntKind.u64.wrap (2 ^ (j - 64).toNat)) := by rw [lo_wrap (j - 64) (by omega)]; unfold miP; exact if_pos (by omega)
      have H3 : Hid (loP j = 0) := lo_none j (by omega)
      go_enter Try.func15, Try.ntmps15
      go_wp2
      refine bodyPost_ret (v := .agg #[.int .u32 0, .int .u64 (IntKind.u64.wrap (2 ^ (j - 64).toNat)), .int .u64 0]) (by simp [results, Try.results15, go_sem]) rfl ⟨?_, (Gr.refl _).alloc _ _⟩
      rw [PV, H1.out, H2.out, H3.out]
    · have H1 : Hid (hiP j = 2 ^ (j - 128).toNat % 4294967296) := by
        have a := two_pos (j - 128).toNat
        have b := two_le (show (j - 128).toNat ≤ 31 by omega)
        rw [Int.emod_eq_of_lt (by omega) (by omega)]; unfold hiP; exact if_pos (by omega)
      have H2 : Hid (miP j = 0) := mi_none j (by omega)
      have H3 : Hid (loP j = 0) := lo_none j (by omega)
      go_enter Try.func15, Try.ntmps15
      go_wp2
      refine bodyPost_ret (v := .agg #[.int .u32 (2 ^ (j - 128).toNat % 4294967296), .int .u64 0, .int .u64 0]) (by simp [results, Try.results15, go_sem]) rfl ⟨?_, (Gr.refl _).alloc _ _⟩
      rw [PV, H1.out, H2.out, H3.out]

/-! ### add3, doubling -/
set_option maxHeartbeats 400000 in
theorem add_low (ah am al : Int) (w : World) (h0 : 0 ≤ ah) (h1 : ah < 2147483648) (m0 : 0 ≤ am) (m1 : am < 9223372036854775808) (l0 : 0 ≤ al) (l1 : al < 9223372036854775808) :
    Calls Try.prog 6 #[.agg #[.int .u32 ah, .int .u64 am, .int .u64 al], .agg #[.int .u32 ah, .int .u64 am, .int .u64 al]] w fun e w' => e = .returned (.agg #[.int .u32 (ah + ah), .int .u64 (am + am), .int .u64 (al + al)]) ∧ ∃ c1 c2 c3 : Array Value, w' = ((w.alloc (.cells c1 25)).alloc (.cells c2 25)).alloc (.cells c3 25) := by
  go_enter Try.func6, Try.ntmps6
  go_wp2
  exact bodyPost_ret (v := .agg #[.int .u32 (ah + ah), .int .u64 (am + am), .int .u64 (al + al)]) (by simp [results, Try.results6, go_sem]) rfl ⟨rfl, _, _, _, rfl⟩
set_option maxHeartbeats 400000 in
theorem add_63 (w : World) :
    Calls Try.prog 6 #[.agg #[.int .u32 0, .int .u64 0, .int .u64 9223372036854775808], .agg #[.int .u32 0, .int .u64 0, .int .u64 9223372036854775808]] w fun e w' => e = .returned (.agg #[.int .u32 0, .int .u64 1, .int .u64 0]) ∧ ∃ c1 c2 c3 : Array Value, w' = ((w.alloc (.cells c1 25)).alloc (.cells c2 25)).alloc (.cells c3 25) := by
  have hw := wrap_top
  go_enter Try.func6, Try.ntmps6
  go_wp2
  exact bodyPost_ret (v := .agg #[.int .u32 0, .int .u64 1, .int .u64 0]) (by simp [results, Try.results6, go_sem]) rfl ⟨rfl, _, _, _, rfl⟩
set_option maxHeartbeats 400000 in
theorem add_127 (w : World) :
    Calls Try.prog 6 #[.agg #[.int .u32 0, .int .u64 9223372036854775808, .int .u64 0], .agg #[.int .u32 0, .int .u64 9223372036854775808, .int .u64 0]] w fun e w' => e = .returned (.agg #[.int .u32 1, .int .u64 0, .int .u64 0]) ∧ ∃ c1 c2 c3 : Array Value, w' = ((w.alloc (.cells c1 25)).alloc (.cells c2 25)).alloc (.cells c3 25) := by
  have hw := wrap_top
  go_enter Try.func6, Try.ntmps6
  go_wp2
  exact bodyPost_ret (v := .agg #[.int .u32 1, .int .u64 0, .int .u64 0]) (by simp [results, Try.results6, go_sem]) rfl ⟨rfl, _, _, _, rfl⟩

theorem add_ex (j : Int) (w : World) (h0 : 0 ≤ j) (h1 : j < 159) :
    Calls Try.prog 6 #[PV j, PV j] w fun e w' => e = .returned (PV (j + 1)) ∧ ∃ c1 c2 c3 : Array Value, w' = ((w.alloc (.cells c1 25)).alloc (.cells c2 25)).alloc (.cells c3 25) := by
  unfold PV
  by_cases c1 : j < 63
  · obtain ⟨e, a, b⟩ := dbl_lo j h0 c1
    rw [e, mi_none j (by omega), mi_none (j + 1) (by omega), hi_none j (by omega), hi_none (j + 1) (by omega)]
    exact add_low 0 0 (loP j) w (by omega) (by omega) (by omega) (by omega) a b
  by_cases c2 : j = 63
  · subst c2
    exact add_63 w
  by_cases c3 : j < 127
  · obtain ⟨e, a, b⟩ := dbl_mi j (by omega) c3
    rw [e, lo_none j (by omega), lo_none (j + 1) (by omega), hi_none j (by omega), hi_none (j + 1) (by omega)]
    exact add_low 0 (miP j) 0 w (by omega) (by omega) a b (by omega) (by omega)
  by_cases c4 : j = 127
  · subst c4
    exact add_127 w
  · obtain ⟨e, a, b⟩ := dbl_hi j (by omega) h1
    rw [e, lo_none j (by omega), lo_none (j + 1) (by omega), mi_none j (by omega), mi_none (j + 1) (by omega)]
    exact add_low (hiP j) 0 0 w a b (by omega) (by omega) (by omega) (by omega)

theorem add_any (j : Int) (w : World) (h0 : 0 ≤ j) (h1 : j < 159) :
    Calls Try.prog 6 #[PV j, PV j] w fun e w' => e = .returned (PV (j + 1)) ∧ Gr w w' := by
  refine (add_ex j w h0 h1).mono ?_
  rintro e w' ⟨rfl, c1, c2, c3, rfl⟩
  exact ⟨rfl, (((Gr.refl _).alloc _ _).alloc _ _).alloc _ _⟩

/-! ### ZZBit, getBit -/
set_option maxHeartbeats 400000 in
theorem zz_any (j : Int) (w : World) (h0 : 0 ≤ j) (h1 : j < 160) :
    Calls Try.prog 11 #[.int .i64 j] w fun e w' => e = .returned (.tuple #[.int .u32 (hiP j), .int .u64 (miP j), .int .u64 (loP j)]) ∧ Gr w w' := by
  have hb := bit_any j w h0 h1
  unfold PV at hb
  go_enter Try.func11, Try.ntmps11
  go_wp2_with (go_at_call 15; refine hb.mono ?_; rintro e w' ⟨rfl, hg⟩)
  go_quiet (fail)
  go_wp2
  go_ret3
  exact ⟨rfl, (hg.alloc _ _).drewN _⟩

set_option maxHeartbeats 400000 in
theorem get_any (j : Int) (w : World) (h0 : 0 ≤ j) (h1 : j < 160) :
    Calls Try.prog 7 #[.int .i64 j] w fun e w' => e = .returned (PV j) ∧ Gr w w' := by
  unfold PV
  go_enter Try.func7, Try.ntmps7
  go_wp2_with fail
  refine (zz_any j _ h0 h1).mono ?_
  rintro e w' ⟨rfl, hg⟩
  have hz : w.heap.size < w'.heap.size := by have := hg.size; simp at this; omega
  obtain ⟨hc, hf⟩ : (∀ b o, b < w.heap.size + 1 → w'.cell? ⟨b, o, none⟩ = (w.alloc (.cells #[.int .u32 0, .int .u64 0, .int .u64 0] 25)).cell? ⟨b, o, none⟩) ∧ (∀ a, w'.frozen? a = (w.alloc (.cells #[.int .u32 0, .int .u64 0, .int .u64 0] 25)).frozen? a) := ⟨fun b o h => hg.cell b o (by simpa using h), hg.2⟩
  go_wp2
  exact bodyPost_ret (v := .agg #[.int .u32 (hiP j), .int .u64 (miP j), .int .u64 (loP j)]) (by simp [results, Try.results7, go_sem, hc]) rfl ⟨rfl, ((((Gr.refl _).alloc _ _).trans hg).setCell (Nat.le_refl _) _ |>.setCell (Nat.le_refl _) _).setCell (Nat.le_refl _) _⟩
end Go.Proofs.Qxb6619680a.Bit
