import Derived.Test.Qxb6623273aMark
namespace Go.Proofs.Qxb6623273a.Mark
open Go.RowKit Go.Proofs.Qxb6623273a.Kit Go.Proofs.Qxb6623273a.Bits

set_option maxHeartbeats 400000 in
theorem restore_long (a : Option Addr) (n c : Nat) (i : Int) (e : Bool) (w : World) (h : 1048576 < n) :
    Calls Try.prog 4 #[.slice a n c, .int .i64 i, .bool e] w fun e w' => e = .returned (.bool true) ∧ w' = w := by
  go_enter Try.func4, Try.ntmps4
  go_wp2_with (go_at_call 9; refine (bytes9_no _ _ _ _ _ _ h).mono ?_; rintro e w' ⟨rfl, rfl⟩)
  go_ret
  exact ⟨rfl, rfl⟩
set_option maxHeartbeats 400000 in
theorem restore_neg (a : Option Addr) (n c : Nat) (i : Int) (e : Bool) (w : World) (h : n ≤ 1048576) (hi : i < 0) :
    Calls Try.prog 4 #[.slice a n c, .int .i64 i, .bool e] w fun e w' => e = .returned (.bool true) ∧ w' = w := by
  go_enter Try.func4, Try.ntmps4
  go_wp2_with (go_at_call 9; refine (bytes9_yes _ _ _ _ _ _ h).mono ?_; rintro e w' ⟨rfl, rfl⟩)
  go_ret
  exact ⟨rfl, rfl⟩
set_option maxHeartbeats 400000 in
theorem restore_out (a : Option Addr) (n c : Nat) (i : Int) (e : Bool) (w : World) (h : n ≤ 1048576) (h0 : 0 ≤ i) (hi : i ≤ 9223372036854775807) (hq : (n : Int) ≤ i / 64) :
    Calls Try.prog 4 #[.slice a n c, .int .i64 i, .bool e] w fun e w' => e = .returned (.bool true) ∧ w' = w := by
  go_enter Try.func4, Try.ntmps4
  go_wp2_with (go_at_call 9; refine (bytes9_yes _ _ _ _ _ _ h).mono ?_; rintro e w' ⟨rfl, rfl⟩)
  go_ret
  exact ⟨rfl, rfl⟩

theorem own_some {w : World} {base n : Nat} {v : Value} {ys : List Value} (h : w.ownsRow base 28 1 v n ys) (hn : 0 < n) : ∃ g c, v = .slice (some ⟨g, 0, none⟩) n c ∧ base ≤ g ∧ g < w.heap.size := by
  rcases h.2 with ⟨_, e⟩ | ⟨g, cap, cur, e, hb, hg, _⟩
  · omega
  · exact ⟨g, cap, e, hb, (Array.getElem?_eq_some_iff.1 hg).1⟩
theorem own_cell {w : World} {base g n c : Nat} {xs : List Int} (h : w.ownsRow base 28 1 (.slice (some ⟨g, 0, none⟩) n c) n (vals .u64 xs)) {k : Nat} (hk : k < n) : w.cell? ⟨g, k, none⟩ = some (.int .u64 (xs.getD k 0)) := by
  have hl : xs.length = n := by have := h.1; simpa [vals] using this
  rw [h.cellAt k (by omega)]; exact vals_get .u64 xs k (by omega)
theorem set_back (xs : List Int) (q : Nat) (y : Int) : (xs.set q y).set q (xs.getD q 0) = xs := by
  by_cases h : q < xs.length
  · rw [List.set_set]; simp [List.getD, h]
  · rw [List.set_eq_of_length_le (by simpa using h), List.set_eq_of_length_le (by omega)]
theorem get_set (xs : List Int) (q : Nat) (y : Int) (h : q < xs.length) : (xs.set q y).getD q 0 = y := by simp [List.getD, h]
theorem get_set_ne (xs : List Int) (q k : Nat) (y : Int) (h : q ≠ k) : (xs.set q y).getD k 0 = xs.getD k 0 := by simp [List.getD, h]

set_option maxHeartbeats 1000000 in
theorem restore_main (e : Bool) (a : Option Addr) (n c q r : Nat) (i b : Int) (xs : List Int) (w : World) (h : n ≤ 1048576) (hrd : Rd .u64 w a n xs) (hnil : a = none → n = 0 ∧ c = 0) (hwd : ∀ k, Wd (xs.getD k 0))
    (h0 : 0 ≤ i) (hi : i ≤ 9223372036854775807) (hq : i / 64 = (q : Int)) (hr : i % 64 = (r : Int)) (hr6 : r < 64) (hqn : q < n) (hb : IntKind.u64.wrap (2 ^ r) = b) (ha : bits .and .i64 i 63 = (r : Int)) :
    Calls Try.prog 4 #[.slice a n c, .int .i64 i, .bool e] w fun e w' => e = .returned (.bool true) ∧ w.grownBy w' none := by
  have hl := hrd.1
  have HB : Hid (b = one r) := hb.symm.trans (wrap_one hr6)
  have HW : Hid (∀ k, Wd (xs.getD k 0)) := hwd
  have HR : Hid (Rd .u64 w a n xs) := hrd
  clear hwd hrd
  go_enter Try.func4, Try.ntmps4
  go_wp2_with (go_at_call 9; refine (bytes9_yes _ _ _ _ _ _ h).mono ?_; rintro e w ⟨rfl, rfl⟩)
  -- orig := copyWordsB1(marks)
  refine (clone_any a n c xs w HR.out hnil h).mono ?_
  rintro e1 w1 ⟨v1, rfl, o1, g1⟩
  obtain ⟨b1, c1, hv1, hb1, hs1⟩ := own_some o1 (by omega)
  subst hv1
  go_wp2_with fail
  -- c := copyWordsB1(marks)
  refine (clone_any a n c xs w1 (HR.out.below (grown_below g1)) hnil h).mono ?_
  rintro e2 w2 ⟨v2, rfl, o2, g2⟩
  obtain ⟨b2, c2, hv2, hb2, hs2⟩ := own_some o2 (by omega)
  subst hv2
  have G2 : Hid (w.grownBy w2 none) := grown_trans g1 g2
  have o12 := o1.kept g2 (by simp [Value.ownBlock])
  clear o1 g2 g1
  go_wp2_with fail
  -- markEntry(c, i, e)
  obtain ⟨x, hx⟩ : ∃ x, x = xs.getD q 0 := ⟨_, rfl⟩
  obtain ⟨y, hy⟩ : ∃ y, y = mk e x b := ⟨_, rfl⟩
  have hm := zz_own e w1.heap.size b2 n c2 q r i xs w2 h0 hi hq hr hr6 hqn o2
  rw [← HB.out, ← hx, ← hy] at hm
  refine hm.mono ?_
  rintro e3 w3 ⟨rfl, o3, g3⟩
  have G3 : Hid (w.grownBy w3 none) := grown_fresh G2.out g3 (by intro g e; simp at e; omega)
  have o13 := o12.kept g3 (by right; simp [Value.ownBlock]; omega)
  clear hm o2 o12 g3 G2
  have k1 : w3.cell? ⟨b2, q, none⟩ = some (.int .u64 y) := by rw [own_cell o3 hqn, get_set _ _ _ (by omega)]
  have k2 : w3.cell? ⟨b1, q, none⟩ = some (.int .u64 x) := by rw [own_cell o13 hqn, hx]
  have HX : Hid (x = xs.getD q 0 ∧ y = mk e x b ∧ Wd x) := ⟨hx, hy, by rw [hx]; exact HW.out q⟩
  have O3 : Hid (w3.ownsRow w1.heap.size 28 1 (.slice (some ⟨b2, 0, none⟩) n c2) n (vals .u64 (xs.set q y)) ∧ w3.ownsRow w.heap.size 28 1 (.slice (some ⟨b1, 0, none⟩) n c1) n (vals .u64 xs)) := ⟨o3, o13⟩
  have t1 : (bits .and .u64 y b != 0) = e := by
    rw [HX.out.2.1, HB.out, and_mk e x r HX.out.2.2 hr6]
    have := Nat.pow_pos (n := r) (a := 2) (by omega)
    cases e
    · simp
    · simp only [if_true, one, bne_iff_ne, ne_eq]; omega
  have t2 : bits .andNot .u64 y b = bits .andNot .u64 x b := by rw [HX.out.2.1, HB.out, not_mk e x r HX.out.2.2 hr6]
  have HQ : Hid (i / 64 = (q : Int) ∧ i % 64 = (r : Int) ∧ xs.length = n) := ⟨hq, hr, hl⟩
  clear hx hy o3 o13 hq hr ha hb hl
  go_wp2
  go_loopw [11] (fun k wr => ∃ j : Nat, j ≤ n ∧ k = .int .i64 j ∧ ∃ p, wr = w3.drewN p) (fun k _ => n - (intOf k).toNat)
  case atStart => exact ⟨0, Nat.zero_le _, rfl, 0, rfl⟩
  case round =>
    obtain ⟨j, hj, rfl, p, rfl⟩ := hrel
    by_cases hlt : j < n
    · by_cases hjq : j = q
      · subst hjq
        clear t1
        go_wp2
        go_quiet (fail)
        go_wp2
        go_roundw
        case rel => exact ⟨j + 1, by omega, by go_num, p + nq, by simp⟩
        case measure => simp [intOf]; omega
      · have hne : ((j : Int) == (q : Int)) = false := by simp; omega
        obtain ⟨z, hz⟩ : ∃ z, z = xs.getD j 0 := ⟨_, rfl⟩
        have k3 : w3.cell? ⟨b2, j, none⟩ = some (.int .u64 z) := by rw [own_cell O3.out.1 hlt, get_set_ne _ _ _ _ (fun e => hjq e.symm), hz]
        have k4 : w3.cell? ⟨b1, j, none⟩ = some (.int .u64 z) := by rw [own_cell O3.out.2 hlt, hz]
        clear t1 t2 hz hjq
        go_wp2
        go_quiet (fail)
        go_wp2
        go_roundw
        case rel => exact ⟨j + 1, by omega, by go_num, p + nq, by simp⟩
        case measure => simp [intOf]; omega
    · clear t2 t1
      go_wp2_with fail
      obtain ⟨e', he'⟩ : ∃ e', e' = (bits .and .u64 x b != 0) := ⟨_, rfl⟩
      have o3 : (w3.drewN p).ownsRow w1.heap.size 28 1 (.slice (some ⟨b2, 0, none⟩) n c2) n (vals .u64 (xs.set q y)) := O3.out.1.kept (grown_drewN _ _ none) (by simp [Value.ownBlock])
      have o13 : (w3.drewN p).ownsRow w.heap.size 28 1 (.slice (some ⟨b1, 0, none⟩) n c1) n (vals .u64 xs) := O3.out.2.kept (grown_drewN _ _ none) (by simp [Value.ownBlock])
      have hm := zz_own (bits .and .u64 x b != 0) w1.heap.size b2 n c2 q r i (xs.set q y) (w3.drewN p) h0 hi HQ.out.1 HQ.out.2.1 hr6 hqn o3
      rw [get_set _ _ _ (by have := HQ.out.2.2; omega), ← HB.out, show mk (bits .and .u64 x b != 0) y b = xs.getD q 0 by rw [HX.out.2.1, HB.out, mk_back e x r HX.out.2.2 hr6, HX.out.1], set_back] at hm
      refine hm.mono ?_
      rintro e4 w4 ⟨rfl, o4, g4⟩
      have G4 : Hid (w.grownBy w4 none) := grown_fresh (grown_trans G3.out (grown_drewN _ _ none)) g4 (by intro g e; simp at e; omega)
      have o14 := o13.kept g4 (by right; simp [Value.ownBlock]; omega)
      clear hm o3 o13 g4 he'
      obtain ⟨_, _, e5, r5, _⟩ := Rd.of_owns o4
      simp only [Value.slice.injEq, true_and] at e5
      obtain ⟨rfl, rfl⟩ := e5
      obtain ⟨_, _, e6, r6, _⟩ := Rd.of_owns o14
      simp only [Value.slice.injEq, true_and] at e6
      obtain ⟨rfl, rfl⟩ := e6
      clear o4 o14 k1 k2
      go_wp2_with fail
      refine (eq_any _ _ n _ _ xs w4 r5 r6 h).mono ?_
      rintro e7 w5 ⟨rfl, g5⟩
      have G5 : Hid (w.grownBy w5 none) := grown_trans G4.out g5
      clear g5 r5 r6
      go_wp2
      go_ret
      exact ⟨rfl, G5.out⟩

/-- The law, whatever the input. -/
theorem restore_any (e : Bool) (a : Option Addr) (n c : Nat) (i : Int) (xs : List Int) (w : World) (hrd : Rd .u64 w a n xs) (hnil : a = none → n = 0 ∧ c = 0) (hwd : ∀ k, Wd (xs.getD k 0)) (hi : i ≤ 9223372036854775807) :
    Calls Try.prog 4 #[.slice a n c, .int .i64 i, .bool e] w fun e w' => e = .returned (.bool true) ∧ w.grownBy w' none := by
  by_cases h : 1048576 < n
  · refine (restore_long a n c i e w h).mono ?_
    rintro e w' ⟨rfl, rfl⟩
    exact ⟨rfl, grown_refl _ _⟩
  by_cases h0 : i < 0
  · refine (restore_neg a n c i e w (by omega) h0).mono ?_
    rintro e w' ⟨rfl, rfl⟩
    exact ⟨rfl, grown_refl _ _⟩
  by_cases hq : (n : Int) ≤ i / 64
  · refine (restore_out a n c i e w (by omega) (by omega) hi hq).mono ?_
    rintro e w' ⟨rfl, rfl⟩
    exact ⟨rfl, grown_refl _ _⟩
  obtain ⟨q, hq'⟩ := Int.eq_ofNat_of_zero_le (show 0 ≤ i / 64 by omega)
  obtain ⟨r, hr'⟩ := Int.eq_ofNat_of_zero_le (show 0 ≤ i % 64 by omega)
  exact restore_main e a n c q r i _ xs w (by omega) hrd hnil hwd (by omega) hi hq' hr' (by omega) (by omega) rfl (by rw [and63 i, hr'])
end Go.Proofs.Qxb6623273a.Mark
