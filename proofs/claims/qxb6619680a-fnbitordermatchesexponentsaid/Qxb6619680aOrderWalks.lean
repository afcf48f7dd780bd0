import Derived.Test.Qxb6619680aBitWalks
import Derived.Laws.BitsAllLaws
namespace Go.Proofs.Qxb6619680a.Bit
open Go.RowKit

set_option maxHeartbeats 400000 in
theorem zero_lo (l : Int) (w : World) (hl : (l == 0) = false) :
    Calls Try.prog 12 #[.agg #[.int .u32 0, .int .u64 0, .int .u64 l]] w fun e w' => e = .returned (.bool false) ∧ Gr w w' := by
  go_enter Try.func12, Try.ntmps12
  go_wp2
  go_ret
  exact ⟨rfl, (Gr.refl _).alloc _ _⟩
set_option maxHeartbeats 400000 in
theorem zero_mi (l : Int) (w : World) (hl : (l == 0) = false) :
    Calls Try.prog 12 #[.agg #[.int .u32 0, .int .u64 l, .int .u64 0]] w fun e w' => e = .returned (.bool false) ∧ Gr w w' := by
  go_enter Try.func12, Try.ntmps12
  go_wp2
  go_ret
  exact ⟨rfl, (Gr.refl _).alloc _ _⟩
set_option maxHeartbeats 400000 in
theorem zero_hi (l : Int) (w : World) (hl : (l == 0) = false) :
    Calls Try.prog 12 #[.agg #[.int .u32 l, .int .u64 0, .int .u64 0]] w fun e w' => e = .returned (.bool false) ∧ Gr w w' := by
  go_enter Try.func12, Try.ntmps12
  go_wp2
  go_ret
  exact ⟨rfl, (Gr.refl _).alloc _ _⟩

set_option maxHeartbeats 400000 in
theorem dec_lo (l : Int) (w : World) (hl : (l == 0) = false) (h0 : 1 ≤ l) (h1 : l ≤ 9223372036854775808) :
    Calls Try.prog 13 #[.agg #[.int .u32 0, .int .u64 0, .int .u64 l]] w fun e w' => e = .returned (.agg #[.int .u32 0, .int .u64 0, .int .u64 (l - 1)]) ∧ Gr w w' := by
  go_enter Try.func13, Try.ntmps13
  go_wp2
  exact bodyPost_ret (v := .agg #[.int .u32 0, .int .u64 0, .int .u64 (l - 1)]) (by simp [results, Try.results13, go_sem]) rfl ⟨rfl, ((Gr.refl _).alloc _ _).alloc _ _⟩
set_option maxHeartbeats 400000 in
theorem dec_mi (l : Int) (w : World) (hl : (l == 0) = false) (h0 : 1 ≤ l) (h1 : l ≤ 9223372036854775808) :
    Calls Try.prog 13 #[.agg #[.int .u32 0, .int .u64 l, .int .u64 0]] w fun e w' => e = .returned (.agg #[.int .u32 0, .int .u64 (l - 1), .int .u64 (IntKind.u64.wrap (-1))]) ∧ Gr w w' := by
  go_enter Try.func13, Try.ntmps13
  go_wp2
  exact bodyPost_ret (v := .agg #[.int .u32 0, .int .u64 (l - 1), .int .u64 (IntKind.u64.wrap (-1))]) (by simp [results, Try.results13, go_sem]) rfl ⟨rfl, ((Gr.refl _).alloc _ _).alloc _ _⟩
set_option maxHeartbeats 400000 in
theorem dec_hi (l : Int) (w : World) (h0 : 1 ≤ l) (h1 : l ≤ 2147483648) :
    Calls Try.prog 13 #[.agg #[.int .u32 l, .int .u64 0, .int .u64 0]] w fun e w' => e = .returned (.agg #[.int .u32 (l - 1), .int .u64 (IntKind.u64.wrap (-1)), .int .u64 (IntKind.u64.wrap (-1))]) ∧ Gr w w' := by
  go_enter Try.func13, Try.ntmps13
  go_wp2
  exact bodyPost_ret (v := .agg #[.int .u32 (l - 1), .int .u64 (IntKind.u64.wrap (-1)), .int .u64 (IntKind.u64.wrap (-1))]) (by simp [results, Try.results13, go_sem]) rfl ⟨rfl, ((Gr.refl _).alloc _ _).alloc _ _⟩

theorem and0_32 (x : Int) (h0 : 0 ≤ x) (h1 : x < 4294967296) : bits .and .u32 0 x = 0 := by
  rw [u32_and 0 x (by omega) (by omega) h0 h1]; simp
theorem and0_64 (x : Int) (h0 : 0 ≤ x) (h1 : x < 18446744073709551616) : bits .and .u64 0 x = 0 := by
  rw [u64_and 0 x (by omega) (by omega) h0 h1]; simp
theorem wrap_neg : IntKind.u64.wrap (-1) = 18446744073709551615 := by rw [IntKind.wrap_u64]; omega
theorem and_zz : bits .and .u64 0 0 = 0 := and0_64 0 (by omega) (by omega)
theorem and_zz32 : bits .and .u32 0 0 = 0 := and0_32 0 (by omega) (by omega)
theorem and_zn : bits .and .u64 0 (IntKind.u64.wrap (-1)) = 0 := by rw [wrap_neg]; exact and0_64 _ (by omega) (by omega)
theorem and_pow64 (n : Nat) (h : n < 64) : bits .and .u64 (2 ^ n) (2 ^ n - 1) = 0 := by
  have a := two_pos n
  have b := two_le (show n ≤ 63 by omega)
  rw [u64_and _ _ (by omega) (by omega) (by omega) (by omega)]
  have e1 : ((2 : Int) ^ n).toNat = 2 ^ n := by
    have : ((2 : Int) ^ n) = ((2 ^ n : Nat) : Int) := by simp
    rw [this, Int.toNat_natCast]
  have e2 : ((2 : Int) ^ n - 1).toNat = 2 ^ n - 1 := by omega
  rw [e1, e2, Nat.and_two_pow_sub_one_eq_mod, Nat.mod_self]; rfl
theorem and_pow32 (n : Nat) (h : n < 32) : bits .and .u32 (2 ^ n) (2 ^ n - 1) = 0 := by
  have a := two_pos n
  have b := two_le (show n ≤ 31 by omega)
  rw [u32_and _ _ (by omega) (by omega) (by omega) (by omega)]
  have e1 : ((2 : Int) ^ n).toNat = 2 ^ n := by
    have : ((2 : Int) ^ n) = ((2 ^ n : Nat) : Int) := by simp
    rw [this, Int.toNat_natCast]
  have e2 : ((2 : Int) ^ n - 1).toNat = 2 ^ n - 1 := by omega
  rw [e1, e2, Nat.and_two_pow_sub_one_eq_mod, Nat.mod_self]; rfl

set_option maxHeartbeats 400000 in
theorem pow_lo (l : Int) (w : World) (h0 : 1 ≤ l) (h1 : l ≤ 9223372036854775808) (hb : bits .and .u64 l (l - 1) = 0) :
    Calls Try.prog 8 #[.agg #[.int .u32 0, .int .u64 0, .int .u64 l]] w fun e w' => e = .returned (.bool true) ∧ Gr w w' := by
  have hl : (l == 0) = false := by simp; omega
  have z1 := and_zz; have z2 := and_zz32
  go_enter Try.func8, Try.ntmps8
  go_wp2_with fail
  refine (zero_lo l _ hl).mono ?_
  rintro e w1 ⟨rfl, g1⟩
  have hs1 : w.heap.size < w1.heap.size := by have := g1.size; simp at this; omega
  have c1 : ∀ o, w1.cell? ⟨w.heap.size, o, none⟩ = (w.alloc (.cells #[.int .u32 0, .int .u64 0, .int .u64 l] 25)).cell? ⟨w.heap.size, o, none⟩ := fun o => g1.cell _ o (by simp)
  go_wp2_with fail
  refine (dec_lo l _ hl h0 h1).mono ?_
  rintro e w2 ⟨rfl, g2⟩
  have hs2 : w.heap.size < w2.heap.size := by have := g2.size; omega
  have c2 : ∀ o, w2.cell? ⟨w.heap.size, o, none⟩ = (w.alloc (.cells #[.int .u32 0, .int .u64 0, .int .u64 l] 25)).cell? ⟨w.heap.size, o, none⟩ := fun o => (g2.cell _ o hs1).trans (c1 o)
  have HG : Hid (Gr w w2) := ((Gr.refl _).alloc _ _).trans (g1.trans g2)
  clear g1 g2 c1
  go_wp2
  go_ret
  exact ⟨rfl, HG.out.alloc _ _⟩
set_option maxHeartbeats 400000 in
theorem pow_mi (l : Int) (w : World) (h0 : 1 ≤ l) (h1 : l ≤ 9223372036854775808) (hb : bits .and .u64 l (l - 1) = 0) :
    Calls Try.prog 8 #[.agg #[.int .u32 0, .int .u64 l, .int .u64 0]] w fun e w' => e = .returned (.bool true) ∧ Gr w w' := by
  have hl : (l == 0) = false := by simp; omega
  have z1 := and_zn; have z2 := and_zz32
  go_enter Try.func8, Try.ntmps8
  go_wp2_with fail
  refine (zero_mi l _ hl).mono ?_
  rintro e w1 ⟨rfl, g1⟩
  have hs1 : w.heap.size < w1.heap.size := by have := g1.size; simp at this; omega
  have c1 : ∀ o, w1.cell? ⟨w.heap.size, o, none⟩ = (w.alloc (.cells #[.int .u32 0, .int .u64 l, .int .u64 0] 25)).cell? ⟨w.heap.size, o, none⟩ := fun o => g1.cell _ o (by simp)
  go_wp2_with fail
  refine (dec_mi l _ hl h0 h1).mono ?_
  rintro e w2 ⟨rfl, g2⟩
  have hs2 : w.heap.size < w2.heap.size := by have := g2.size; omega
  have c2 : ∀ o, w2.cell? ⟨w.heap.size, o, none⟩ = (w.alloc (.cells #[.int .u32 0, .int .u64 l, .int .u64 0] 25)).cell? ⟨w.heap.size, o, none⟩ := fun o => (g2.cell _ o hs1).trans (c1 o)
  have HG : Hid (Gr w w2) := ((Gr.refl _).alloc _ _).trans (g1.trans g2)
  clear g1 g2 c1
  go_wp2
  go_ret
  exact ⟨rfl, HG.out.alloc _ _⟩
set_option maxHeartbeats 400000 in
theorem pow_hi (l : Int) (w : World) (h0 : 1 ≤ l) (h1 : l ≤ 2147483648) (hb : bits .and .u32 l (l - 1) = 0) :
    Calls Try.prog 8 #[.agg #[.int .u32 l, .int .u64 0, .int .u64 0]] w fun e w' => e = .returned (.bool true) ∧ Gr w w' := by
  have hl : (l == 0) = false := by simp; omega
  have z1 := and_zn
  go_enter Try.func8, Try.ntmps8
  go_wp2_with fail
  refine (zero_hi l _ hl).mono ?_
  rintro e w1 ⟨rfl, g1⟩
  have hs1 : w.heap.size < w1.heap.size := by have := g1.size; simp at this; omega
  have c1 : ∀ o, w1.cell? ⟨w.heap.size, o, none⟩ = (w.alloc (.cells #[.int .u32 l, .int .u64 0, .int .u64 0] 25)).cell? ⟨w.heap.size, o, none⟩ := fun o => g1.cell _ o (by simp)
  go_wp2_with fail
  refine (dec_hi l _ h0 h1).mono ?_
  rintro e w2 ⟨rfl, g2⟩
  have hs2 : w.heap.size < w2.heap.size := by have := g2.size; omega
  have c2 : ∀ o, w2.cell? ⟨w.heap.size, o, none⟩ = (w.alloc (.cells #[.int .u32 l, .int .u64 0, .int .u64 0] 25)).cell? ⟨w.heap.size, o, none⟩ := fun o => (g2.cell _ o hs1).trans (c1 o)
  have HG : Hid (Gr w w2) := ((Gr.refl _).alloc _ _).trans (g1.trans g2)
  clear g1 g2 c1
  go_wp2
  go_ret
  exact ⟨rfl, HG.out.alloc _ _⟩

theorem pow_any (j : Int) (w : World) (h0 : 0 ≤ j) (h1 : j < 160) :
    Calls Try.prog 8 #[PV j] w fun e w' => e = .returned (.bool true) ∧ Gr w w' := by
  unfold PV
  by_cases c1 : j < 64
  · rw [mi_none j (by omega), hi_none j (by omega)]
    have a := two_pos j.toNat
    have b := two_le (show j.toNat ≤ 63 by omega)
    have e : loP j = 2 ^ j.toNat := by unfold loP; exact if_pos c1
    rw [e]
    exact pow_lo _ w (by omega) (by omega) (and_pow64 _ (by omega))
  by_cases c2 : j < 128
  · rw [lo_none j (by omega), hi_none j (by omega)]
    have a := two_pos (j - 64).toNat
    have b := two_le (show (j - 64).toNat ≤ 63 by omega)
    have e : miP j = 2 ^ (j - 64).toNat := by unfold miP; exact if_pos (by omega)
    rw [e]
    exact pow_mi _ w (by omega) (by omega) (and_pow64 _ (by omega))
  · rw [lo_none j (by omega), mi_none j (by omega)]
    have a := two_pos (j - 128).toNat
    have b := two_le (show (j - 128).toNat ≤ 31 by omega)
    have e : hiP j = 2 ^ (j - 128).toNat := by unfold hiP; exact if_pos (by omega)
    rw [e]
    exact pow_hi _ w (by omega) (by omega) (and_pow32 _ (by omega))

/-! ### cmp3 -/
theorem two_lt {a b : Nat} (h : a < b) : (2 : Int) ^ a < 2 ^ b := by
  have := Nat.pow_lt_pow_right (a := 2) (by omega) h
  exact_mod_cast this
theorem words_lt (i j : Int) (h0 : 0 ≤ i) (h : i < j) :
    hiP i < hiP j ∨ (hiP i = hiP j ∧ miP i < miP j) ∨ (hiP i = hiP j ∧ miP i = miP j ∧ loP i < loP j) := by
  by_cases c1 : 128 ≤ j
  · left
    unfold hiP; rw [if_pos c1]
    by_cases d : 128 ≤ i
    · rw [if_pos d]; exact two_lt (by omega)
    · rw [if_neg d]; exact two_pos _
  by_cases c2 : 64 ≤ j
  · right; left
    refine ⟨by rw [hi_none i (by omega), hi_none j (by omega)], ?_⟩
    unfold miP; rw [if_pos (show 64 ≤ j ∧ j < 128 by omega)]
    by_cases d : 64 ≤ i
    · rw [if_pos (by omega)]; exact two_lt (by omega)
    · rw [if_neg (by omega)]; exact two_pos _
  · right; right
    refine ⟨by rw [hi_none i (by omega), hi_none j (by omega)], by rw [mi_none i (by omega), mi_none j (by omega)], ?_⟩
    unfold loP; rw [if_pos (by omega), if_pos (by omega)]
    exact two_lt (by omega)

set_option maxHeartbeats 400000 in
theorem cmp_hi (ah am al bh bm bl r : Int) (w : World) (hr : r = if ah < bh then -1 else 1) (h : ah ≠ bh) :
    Calls Try.prog 9 #[.agg #[.int .u32 ah, .int .u64 am, .int .u64 al], .agg #[.int .u32 bh, .int .u64 bm, .int .u64 bl]] w fun e w' => e = .returned (.int .i64 r) ∧ Gr w w' := by
  have h' : (ah == bh) = false := by simpa using h
  clear h
  by_cases c : ah < bh
  · rw [if_pos c] at hr; subst hr
    go_enter Try.func9, Try.ntmps9
    go_wp2
    go_ret
    exact ⟨rfl, ((Gr.refl _).alloc _ _).alloc _ _⟩
  · rw [if_neg c] at hr; subst hr
    go_enter Try.func9, Try.ntmps9
    go_wp2
    go_ret
    exact ⟨rfl, ((Gr.refl _).alloc _ _).alloc _ _⟩
set_option maxHeartbeats 400000 in
theorem cmp_mi (ah am al bm bl r : Int) (w : World) (hr : r = if am < bm then -1 else 1) (h : am ≠ bm) :
    Calls Try.prog 9 #[.agg #[.int .u32 ah, .int .u64 am, .int .u64 al], .agg #[.int .u32 ah, .int .u64 bm, .int .u64 bl]] w fun e w' => e = .returned (.int .i64 r) ∧ Gr w w' := by
  have h' : (am == bm) = false := by simpa using h
  clear h
  by_cases c : am < bm
  · rw [if_pos c] at hr; subst hr
    go_enter Try.func9, Try.ntmps9
    go_wp2
    go_ret
    exact ⟨rfl, ((Gr.refl _).alloc _ _).alloc _ _⟩
  · rw [if_neg c] at hr; subst hr
    go_enter Try.func9, Try.ntmps9
    go_wp2
    go_ret
    exact ⟨rfl, ((Gr.refl _).alloc _ _).alloc _ _⟩
set_option maxHeartbeats 400000 in
theorem cmp_lo (ah am al bl r : Int) (w : World) (hr : r = if al < bl then -1 else 1) (h : al ≠ bl) :
    Calls Try.prog 9 #[.agg #[.int .u32 ah, .int .u64 am, .int .u64 al], .agg #[.int .u32 ah, .int .u64 am, .int .u64 bl]] w fun e w' => e = .returned (.int .i64 r) ∧ Gr w w' := by
  have h' : (al == bl) = false := by simpa using h
  clear h
  by_cases c : al < bl
  · rw [if_pos c] at hr; subst hr
    go_enter Try.func9, Try.ntmps9
    go_wp2
    go_ret
    exact ⟨rfl, ((Gr.refl _).alloc _ _).alloc _ _⟩
  · rw [if_neg c] at hr; subst hr
    go_enter Try.func9, Try.ntmps9
    go_wp2
    go_ret
    exact ⟨rfl, ((Gr.refl _).alloc _ _).alloc _ _⟩
set_option maxHeartbeats 400000 in
theorem cmp_eq (ah am al : Int) (w : World) :
    Calls Try.prog 9 #[.agg #[.int .u32 ah, .int .u64 am, .int .u64 al], .agg #[.int .u32 ah, .int .u64 am, .int .u64 al]] w fun e w' => e = .returned (.int .i64 0) ∧ Gr w w' := by
  go_enter Try.func9, Try.ntmps9
  go_wp2
  go_ret
  exact ⟨rfl, ((Gr.refl _).alloc _ _).alloc _ _⟩

theorem cmp_lt (i j : Int) (w : World) (h0 : 0 ≤ i) (h : i < j) :
    Calls Try.prog 9 #[PV i, PV j] w fun e w' => e = .returned (.int .i64 (-1)) ∧ Gr w w' := by
  unfold PV
  rcases words_lt i j h0 h with k | ⟨e, k⟩ | ⟨e, e2, k⟩
  · exact cmp_hi _ _ _ _ _ _ _ w (by rw [if_pos k]) (by omega)
  · rw [e]; exact cmp_mi _ _ _ _ _ _ w (by rw [if_pos k]) (by omega)
  · rw [e, e2]; exact cmp_lo _ _ _ _ _ w (by rw [if_pos k]) (by omega)
theorem cmp_gt (i j : Int) (w : World) (h0 : 0 ≤ j) (h : j < i) :
    Calls Try.prog 9 #[PV i, PV j] w fun e w' => e = .returned (.int .i64 1) ∧ Gr w w' := by
  unfold PV
  rcases words_lt j i h0 h with k | ⟨e, k⟩ | ⟨e, e2, k⟩
  · exact cmp_hi _ _ _ _ _ _ _ w (by rw [if_neg (by omega)]) (by omega)
  · rw [e]; exact cmp_mi _ _ _ _ _ _ w (by rw [if_neg (by omega)]) (by omega)
  · rw [e, e2]; exact cmp_lo _ _ _ _ _ w (by rw [if_neg (by omega)]) (by omega)
theorem cmp_same (i : Int) (w : World) :
    Calls Try.prog 9 #[PV i, PV i] w fun e w' => e = .returned (.int .i64 0) ∧ Gr w w' := cmp_eq _ _ _ w

end Go.Proofs.Qxb6619680a.Bit
