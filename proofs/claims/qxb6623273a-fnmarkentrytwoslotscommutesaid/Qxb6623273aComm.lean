import Derived.Test.Qxb6623273aRestore
namespace Go.Proofs.Qxb6623273a.Mark
open Go.RowKit Go.Proofs.Qxb6623273a.Kit Go.Proofs.Qxb6623273a.Bits

/-! ### the early ways out -/
set_option maxHeartbeats 400000 in
theorem comm_long (a : Option Addr) (n c : Nat) (i j : Int) (e f : Bool) (w : World) (h : 1048576 < n) :
    Calls Try.prog 3 #[.slice a n c, .int .i64 i, .int .i64 j, .bool e, .bool f] w fun e w' => e = .returned (.bool true) ∧ w' = w := by
  go_enter Try.func3, Try.ntmps3
  go_wp2_with (go_at_call 5; refine (bytes5_no _ _ _ _ _ _ _ _ h).mono ?_; rintro e w' ⟨rfl, rfl⟩)
  go_ret
  exact ⟨rfl, rfl⟩
set_option maxHeartbeats 400000 in
theorem comm_neg (a : Option Addr) (n c : Nat) (i j : Int) (e f : Bool) (w : World) (h : n ≤ 1048576) (hi : i < 0 ∨ j < 0) :
    Calls Try.prog 3 #[.slice a n c, .int .i64 i, .int .i64 j, .bool e, .bool f] w fun e w' => e = .returned (.bool true) ∧ w' = w := by
  by_cases h1 : i < 0
  · clear hi
    go_enter Try.func3, Try.ntmps3
    go_wp2_with (go_at_call 5; refine (bytes5_yes _ _ _ _ _ _ _ _ h).mono ?_; rintro e w' ⟨rfl, rfl⟩)
    go_ret
    exact ⟨rfl, rfl⟩
  · have h2 : j < 0 := by omega
    clear hi
    go_enter Try.func3, Try.ntmps3
    go_wp2_with (go_at_call 5; refine (bytes5_yes _ _ _ _ _ _ _ _ h).mono ?_; rintro e w' ⟨rfl, rfl⟩)
    go_ret
    exact ⟨rfl, rfl⟩
set_option maxHeartbeats 400000 in
theorem comm_out (a : Option Addr) (n c : Nat) (i j : Int) (e f : Bool) (w : World) (h : n ≤ 1048576) (h0 : 0 ≤ i) (hi : i ≤ 9223372036854775807) (h0' : 0 ≤ j) (hi' : j ≤ 9223372036854775807) (hq : (n : Int) ≤ i / 64 ∨ (n : Int) ≤ j / 64) :
    Calls Try.prog 3 #[.slice a n c, .int .i64 i, .int .i64 j, .bool e, .bool f] w fun e w' => e = .returned (.bool true) ∧ w' = w := by
  by_cases h1 : (n : Int) ≤ i / 64
  · clear hq
    go_enter Try.func3, Try.ntmps3
    go_wp2_with (go_at_call 5; refine (bytes5_yes _ _ _ _ _ _ _ _ h).mono ?_; rintro e w' ⟨rfl, rfl⟩)
    go_ret
    exact ⟨rfl, rfl⟩
  · have h2 : (n : Int) ≤ j / 64 := by omega
    clear hq
    go_enter Try.func3, Try.ntmps3
    go_wp2_with (go_at_call 5; refine (bytes5_yes _ _ _ _ _ _ _ _ h).mono ?_; rintro e w' ⟨rfl, rfl⟩)
    go_ret
    exact ⟨rfl, rfl⟩
set_option maxHeartbeats 400000 in
theorem comm_same (a : Option Addr) (n c : Nat) (i : Int) (e f : Bool) (w : World) (h : n ≤ 1048576) (h0 : 0 ≤ i) (hi : i ≤ 9223372036854775807) (hq : i / 64 < (n : Int)) :
    Calls Try.prog 3 #[.slice a n c, .int .i64 i, .int .i64 i, .bool e, .bool f] w fun e w' => e = .returned (.bool true) ∧ w' = w := by
  go_enter Try.func3, Try.ntmps3
  go_wp2_with (go_at_call 5; refine (bytes5_yes _ _ _ _ _ _ _ _ h).mono ?_; rintro e w' ⟨rfl, rfl⟩)
  go_ret
  exact ⟨rfl, rfl⟩

/-! ### the plain law: marking two slots, in either order -/
def m1 (e : Bool) (q r : Nat) (xs : List Int) : List Int := xs.set q (mk e (xs.getD q 0) (one r))
theorem m1_length (e : Bool) (q r : Nat) (xs : List Int) : (m1 e q r xs).length = xs.length := by simp [m1]
theorem m1_at (e : Bool) (q r : Nat) (xs : List Int) (h : q < xs.length) : (m1 e q r xs).getD q 0 = mk e (xs.getD q 0) (one r) := get_set _ _ _ h
theorem m1_else (e : Bool) (q r k : Nat) (xs : List Int) (h : q ≠ k) : (m1 e q r xs).getD k 0 = xs.getD k 0 := get_set_ne _ _ _ _ h
theorem m1_comm (e f : Bool) (q r q' r' : Nat) (xs : List Int) (hw : ∀ k, Wd (xs.getD k 0)) (hr : r < 64) (hr' : r' < 64) (hl : q < xs.length) (hne : q = q' → r ≠ r') :
    m1 f q' r' (m1 e q r xs) = m1 e q r (m1 f q' r' xs) := by
  by_cases hq : q = q'
  · subst hq
    have e1 := m1_at e q r xs hl
    have e2 := m1_at f q r' xs hl
    show (m1 e q r xs).set q (mk f ((m1 e q r xs).getD q 0) (one r')) = (m1 f q r' xs).set q (mk e ((m1 f q r' xs).getD q 0) (one r))
    rw [e1, e2]
    unfold m1
    rw [List.set_set, List.set_set, mk_comm e f _ r r' (hw q) hr hr' (hne rfl)]
  · show (m1 e q r xs).set q' (mk f ((m1 e q r xs).getD q' 0) (one r')) = (m1 f q' r' xs).set q (mk e ((m1 f q' r' xs).getD q 0) (one r))
    rw [m1_else e q r q' xs hq, m1_else f q' r' q xs (fun e => hq e.symm)]
    unfold m1
    rw [List.set_comm _ _ hq]

set_option maxRecDepth 4000 in
set_option maxHeartbeats 4000000 in
theorem comm_main (e f : Bool) (a : Option Addr) (n c q r q' r' : Nat) (i j b b' : Int) (xs : List Int) (w : World) (h : n ≤ 1048576) (hrd : Rd .u64 w a n xs) (hnil : a = none → n = 0 ∧ c = 0) (hwd : ∀ k, Wd (xs.getD k 0))
    (h0 : 0 ≤ i) (hi : i ≤ 9223372036854775807) (hq : i / 64 = (q : Int)) (hr : i % 64 = (r : Int)) (hr6 : r < 64) (hqn : q < n) (hb : IntKind.u64.wrap (2 ^ r) = b) (ha : bits .and .i64 i 63 = (r : Int))
    (h0' : 0 ≤ j) (hi' : j ≤ 9223372036854775807) (hq' : j / 64 = (q' : Int)) (hr' : j % 64 = (r' : Int)) (hr6' : r' < 64) (hqn' : q' < n) (hb' : IntKind.u64.wrap (2 ^ r') = b') (ha' : bits .and .i64 j 63 = (r' : Int))
    (hij : (i == j) = false) (hne : q = q' → r ≠ r') :
    Calls Try.prog 3 #[.slice a n c, .int .i64 i, .int .i64 j, .bool e, .bool f] w fun e w' => e = .returned (.bool true) ∧ w.grownBy w' none := by
  have hl := hrd.1
  have HB : Hid (b = one r ∧ b' = one r') := ⟨hb.symm.trans (wrap_one hr6), hb'.symm.trans (wrap_one hr6')⟩
  have HW : Hid ((∀ k, Wd (xs.getD k 0)) ∧ xs.length = n ∧ (q = q' → r ≠ r')) := ⟨hwd, hl, hne⟩
  have HR : Hid (Rd .u64 w a n xs) := hrd
  have HQ : Hid (i / 64 = (q : Int) ∧ i % 64 = (r : Int)) := ⟨hq, hr⟩
  have HQ' : Hid (j / 64 = (q' : Int) ∧ j % 64 = (r' : Int)) := ⟨hq', hr'⟩
  clear hwd hrd hl hne hr hr'
  go_enter Try.func3, Try.ntmps3
  go_wp2_with (go_at_call 5; refine (bytes5_yes _ _ _ _ _ _ _ _ h).mono ?_; rintro e w ⟨rfl, rfl⟩)
  -- orig
  refine (clone_any a n c xs w HR.out hnil h).mono ?_
  rintro e1 w1 ⟨v1, rfl, o1, g1⟩
  obtain ⟨b1, c1, hv1, hb1, hs1⟩ := own_some o1 (by omega)
  subst hv1
  go_wp2_with fail
  -- a
  refine (clone_any a n c xs w1 (HR.out.below (grown_below g1)) hnil h).mono ?_
  rintro e2 w2 ⟨v2, rfl, o2, g2⟩
  obtain ⟨b2, c2, hv2, hb2, hs2⟩ := own_some o2 (by omega)
  subst hv2
  have G2 : Hid (w.grownBy w2 none) := grown_trans g1 g2
  have o12 := o1.kept g2 (by simp [Value.ownBlock])
  clear o1 g2 g1
  go_wp2_with fail
  -- b
  refine (clone_any a n c xs w2 (HR.out.below (grown_below G2.out)) hnil h).mono ?_
  rintro e3 w3 ⟨v3, rfl, o3, g3⟩
  obtain ⟨b3, c3, hv3, hb3, hs3⟩ := own_some o3 (by omega)
  subst hv3
  have G3 : Hid (w.grownBy w3 none) := grown_trans G2.out g3
  have o13 := o12.kept g3 (by simp [Value.ownBlock])
  have o23 := o2.kept g3 (by simp [Value.ownBlock])
  clear o12 o2 g3 G2
  go_wp2_with fail
  -- markEntry(a, i, e)
  refine (zz_own e w1.heap.size b2 n c2 q r i xs w3 h0 hi HQ.out.1 HQ.out.2 hr6 hqn o23).mono ?_
  rintro e4 w4 ⟨rfl, p4, g4⟩
  have G4 : Hid (w.grownBy w4 none) := grown_fresh G3.out g4 (by intro g e; simp at e; omega)
  have o14 := o13.kept g4 (by right; simp [Value.ownBlock]; omega)
  have o34 := o3.kept g4 (by right; simp [Value.ownBlock]; omega)
  clear o23 o13 o3 g4 G3
  go_wp2_with fail
  -- markEntry(a, j, f)
  refine (zz_own f w1.heap.size b2 n c2 q' r' j (m1 e q r xs) w4 h0' hi' HQ'.out.1 HQ'.out.2 hr6' hqn' p4).mono ?_
  rintro e5 w5 ⟨rfl, p5, g5⟩
  have G5 : Hid (w.grownBy w5 none) := grown_fresh G4.out g5 (by intro g e; simp at e; omega)
  have o15 := o14.kept g5 (by right; simp [Value.ownBlock]; omega)
  have o35 := o34.kept g5 (by right; simp [Value.ownBlock]; omega)
  clear p4 o14 o34 g5 G4
  go_wp2_with fail
  -- markEntry(b, j, f)
  refine (zz_own f w2.heap.size b3 n c3 q' r' j xs w5 h0' hi' HQ'.out.1 HQ'.out.2 hr6' hqn' o35).mono ?_
  rintro e6 w6 ⟨rfl, p6, g6⟩
  have G6 : Hid (w.grownBy w6 none) := grown_fresh G5.out g6 (by intro g e; simp at e; omega)
  have o16 := o15.kept g6 (by right; simp [Value.ownBlock]; omega)
  have p56 := p5.kept g6 (by right; simp [Value.ownBlock]; omega)
  clear p5 o15 o35 g6 G5
  go_wp2_with fail
  -- markEntry(b, i, e)
  refine (zz_own e w2.heap.size b3 n c3 q r i (m1 f q' r' xs) w6 h0 hi HQ.out.1 HQ.out.2 hr6 hqn p6).mono ?_
  rintro e7 w7 ⟨rfl, p7, g7⟩
  have G7 : Hid (w.grownBy w7 none) := grown_fresh G6.out g7 (by intro g e; simp at e; omega)
  have o17 := o16.kept g7 (by right; simp [Value.ownBlock]; omega)
  have p57 := p56.kept g7 (by right; simp [Value.ownBlock]; omega)
  clear p6 p56 o16 g7 G6
  -- the two results are one list
  have hcm : m1 f q' r' (m1 e q r xs) = m1 e q r (m1 f q' r' xs) := m1_comm e f q r q' r' xs HW.out.1 hr6 hr6' (by have := HW.out.2.1; omega) HW.out.2.2
  have hp7 : w7.ownsRow w2.heap.size 28 1 (.slice (some ⟨b3, 0, none⟩) n c3) n (vals .u64 (m1 f q' r' (m1 e q r xs))) := by rw [hcm]; exact p7
  have hp5 : w7.ownsRow w1.heap.size 28 1 (.slice (some ⟨b2, 0, none⟩) n c2) n (vals .u64 (m1 f q' r' (m1 e q r xs))) := p57
  clear hcm p7 p57
  obtain ⟨_, _, e5, r5, _⟩ := Rd.of_owns hp5
  simp only [Value.slice.injEq, true_and] at e5
  obtain ⟨rfl, rfl⟩ := e5
  obtain ⟨_, _, e6, r6, _⟩ := Rd.of_owns hp7
  simp only [Value.slice.injEq, true_and] at e6
  obtain ⟨rfl, rfl⟩ := e6
  clear hp7
  go_wp2_with fail
  refine (eq_any _ _ n _ _ _ w7 r5 r6 h).mono ?_
  rintro e8 w8 ⟨rfl, g8⟩
  have G8 : Hid (w.grownBy w8 none) := grown_trans G7.out g8
  have O8 : Hid (w8.ownsRow w1.heap.size 28 1 (.slice (some ⟨b2, 0, none⟩) n c2) n (vals .u64 (m1 f q' r' (m1 e q r xs))) ∧ w8.ownsRow w.heap.size 28 1 (.slice (some ⟨b1, 0, none⟩) n c1) n (vals .u64 xs)) :=
    ⟨hp5.kept g8 (by simp [Value.ownBlock]), o17.kept g8 (by simp [Value.ownBlock])⟩
  clear hp5 o17 r5 r6 g8 G7
  go_wp2
  go_loopw [14] (fun t wr => ∃ k : Nat, k ≤ n ∧ t = .int .i64 k ∧ ∃ p, wr = w8.drewN p) (fun t _ => n - (intOf t).toNat)
  case atStart => exact ⟨0, Nat.zero_le _, rfl, 0, rfl⟩
  case round =>
    obtain ⟨k, hk, rfl, p, rfl⟩ := hrel
    by_cases hlt : k < n
    · obtain ⟨x, hx⟩ : ∃ x, x = xs.getD k 0 := ⟨_, rfl⟩
      obtain ⟨y, hy⟩ : ∃ y, y = (m1 f q' r' (m1 e q r xs)).getD k 0 := ⟨_, rfl⟩
      have kx : w8.cell? ⟨b1, k, none⟩ = some (.int .u64 x) := by rw [own_cell O8.out.2 hlt, hx]
      have ky : w8.cell? ⟨b2, k, none⟩ = some (.int .u64 y) := by rw [own_cell O8.out.1 hlt, hy]
      have hwx : Wd x := by rw [hx]; exact HW.out.1 k
      have HY : Hid (y = (m1 f q' r' (m1 e q r xs)).getD k 0 ∧ x = xs.getD k 0 ∧ Wd x) := ⟨hy, hx, hwx⟩
      have hlx := HW.out.2.1
      clear hx hy hwx
      by_cases d1 : q = k
      · by_cases d2 : q' = k
        · -- both slots lie in this word
          have hne := HW.out.2.2 (d1.trans d2.symm)
          subst d1
          subst d2
          have ey : y = mk f (mk e x (one r)) (one r') := by
            rw [HY.out.1, m1_at f _ r' _ (by rw [m1_length]; omega), m1_at e _ r xs (by omega), HY.out.2.1]
          obtain ⟨M, hM⟩ : ∃ M, M = two r r' := ⟨_, rfl⟩
          have z0 : bits .or .u64 0 b = b := by rw [HB.out.1, or_zero hr6]
          have z1 : bits .or .u64 0 b' = b' := by rw [HB.out.2, or_zero hr6']
          have z2 : bits .or .u64 b b' = M := by rw [HB.out.1, HB.out.2, or_two hr6 hr6', hM]
          have t1 : bits .andNot .u64 y M = bits .andNot .u64 x M := by rw [ey, hM, not_two e f x r r' HY.out.2.2 hr6 hr6']
          have t2 : bits .and .u64 y M = if e then (if f then M else b) else (if f then b' else 0) := by
            rw [ey, hM, and_two e f x r r' HY.out.2.2 hr6 hr6' hne, HB.out.1, HB.out.2]; rfl
          clear ey hM hne hlx
          cases e
          · cases f
            · simp only [Bool.false_eq_true, if_false] at t2
              go_wp2
              go_quiet (fail)
              go_wp2
              go_roundw
              case rel => exact ⟨_, Nat.succ_le_of_lt hlt, by go_num, p + nq, by simp⟩
              case measure => simp [intOf]; omega
            · simp only [Bool.false_eq_true, if_false, if_true] at t2
              go_wp2
              go_quiet (fail)
              go_wp2
              go_roundw
              case rel => exact ⟨_, Nat.succ_le_of_lt hlt, by go_num, p + nq, by simp⟩
              case measure => simp [intOf]; omega
          · cases f
            · simp only [Bool.false_eq_true, if_false, if_true] at t2
              go_wp2
              go_quiet (fail)
              go_wp2
              go_roundw
              case rel => exact ⟨_, Nat.succ_le_of_lt hlt, by go_num, p + nq, by simp⟩
              case measure => simp [intOf]; omega
            · simp only [if_true] at t2
              go_wp2
              go_quiet (fail)
              go_wp2
              go_roundw
              case rel => exact ⟨_, Nat.succ_le_of_lt hlt, by go_num, p + nq, by simp⟩
              case measure => simp [intOf]; omega
        · -- slot i alone
          have d2' : ((q' : Int) == (k : Int)) = false := by simp; omega
          subst d1
          have ey : y = mk e x (one r) := by
            rw [HY.out.1, m1_else f _ r' _ _ d2, m1_at e _ r xs (by omega), HY.out.2.1]
          have z0 : bits .or .u64 0 b = b := by rw [HB.out.1, or_zero hr6]
          have t1 : bits .andNot .u64 y b = bits .andNot .u64 x b := by rw [ey, HB.out.1, not_mk e x r HY.out.2.2 hr6]
          have t2 : bits .and .u64 y b = if e then b else 0 := by rw [ey, HB.out.1, and_mk e x r HY.out.2.2 hr6]
          clear ey d2 hlx
          cases e
          · simp only [Bool.false_eq_true, if_false] at t2
            go_wp2
            go_quiet (fail)
            go_wp2
            go_roundw
            case rel => exact ⟨_, Nat.succ_le_of_lt hlt, by go_num, p + nq, by simp⟩
            case measure => simp [intOf]; omega
          · simp only [if_true] at t2
            go_wp2
            go_quiet (fail)
            go_wp2
            go_roundw
            case rel => exact ⟨_, Nat.succ_le_of_lt hlt, by go_num, p + nq, by simp⟩
            case measure => simp [intOf]; omega
      · have d1' : ((q : Int) == (k : Int)) = false := by simp; omega
        by_cases d2 : q' = k
        · -- slot j alone
          subst d2
          have ey : y = mk f x (one r') := by
            rw [HY.out.1, m1_at f _ r' _ (by rw [m1_length]; omega), m1_else e _ r _ xs d1, HY.out.2.1]
          have z0 : bits .or .u64 0 b' = b' := by rw [HB.out.2, or_zero hr6']
          have t1 : bits .andNot .u64 y b' = bits .andNot .u64 x b' := by rw [ey, HB.out.2, not_mk f x r' HY.out.2.2 hr6']
          have t2 : bits .and .u64 y b' = if f then b' else 0 := by rw [ey, HB.out.2, and_mk f x r' HY.out.2.2 hr6']
          clear ey d1 hlx
          cases f
          · simp only [Bool.false_eq_true, if_false] at t2
            go_wp2
            go_quiet (fail)
            go_wp2
            go_roundw
            case rel => exact ⟨_, Nat.succ_le_of_lt hlt, by go_num, p + nq, by simp⟩
            case measure => simp [intOf]; omega
          · simp only [if_true] at t2
            go_wp2
            go_quiet (fail)
            go_wp2
            go_roundw
            case rel => exact ⟨_, Nat.succ_le_of_lt hlt, by go_num, p + nq, by simp⟩
            case measure => simp [intOf]; omega
        · -- neither
          have d2' : ((q' : Int) == (k : Int)) = false := by simp; omega
          have ey : y = x := by
            rw [HY.out.1, m1_else f _ r' _ _ d2, m1_else e _ r _ xs d1, HY.out.2.1]
          have t2 : bits .and .u64 x 0 = 0 := and_none x HY.out.2.2
          clear HY
          subst ey
          clear d1 d2 hlx
          go_wp2
          go_quiet (fail)
          go_wp2
          go_roundw
          case rel => exact ⟨k + 1, by omega, by go_num, p + nq, by simp⟩
          case measure => simp [intOf]; omega
    · go_wp2
      go_ret
      exact ⟨rfl, grown_trans G8.out (grown_drewN _ _ _)⟩

/-- The law, whatever the input. -/
theorem comm_any (e f : Bool) (a : Option Addr) (n c : Nat) (i j : Int) (xs : List Int) (w : World) (hrd : Rd .u64 w a n xs) (hnil : a = none → n = 0 ∧ c = 0) (hwd : ∀ k, Wd (xs.getD k 0)) (hi : i ≤ 9223372036854775807) (hj : j ≤ 9223372036854775807) :
    Calls Try.prog 3 #[.slice a n c, .int .i64 i, .int .i64 j, .bool e, .bool f] w fun e w' => e = .returned (.bool true) ∧ w.grownBy w' none := by
  have fin : ∀ (x : Ending) (w' : World), (x = .returned (.bool true) ∧ w' = w) → (x = .returned (.bool true) ∧ w.grownBy w' none) := by
    rintro x w' ⟨rfl, rfl⟩
    exact ⟨rfl, grown_refl _ _⟩
  by_cases h : 1048576 < n
  · exact (comm_long a n c i j e f w h).mono fin
  by_cases h0 : i < 0 ∨ j < 0
  · exact (comm_neg a n c i j e f w (by omega) h0).mono fin
  by_cases hq : (n : Int) ≤ i / 64 ∨ (n : Int) ≤ j / 64
  · exact (comm_out a n c i j e f w (by omega) (by omega) hi (by omega) hj hq).mono fin
  by_cases hij : i = j
  · subst hij
    exact (comm_same a n c i e f w (by omega) (by omega) hi (by omega)).mono fin
  obtain ⟨q, hq1⟩ := Int.eq_ofNat_of_zero_le (show 0 ≤ i / 64 by omega)
  obtain ⟨r, hr1⟩ := Int.eq_ofNat_of_zero_le (show 0 ≤ i % 64 by omega)
  obtain ⟨q', hq2⟩ := Int.eq_ofNat_of_zero_le (show 0 ≤ j / 64 by omega)
  obtain ⟨r', hr2⟩ := Int.eq_ofNat_of_zero_le (show 0 ≤ j % 64 by omega)
  exact comm_main e f a n c q r q' r' i j _ _ xs w (by omega) hrd hnil hwd (by omega) hi hq1 hr1 (by omega) (by omega) rfl (by rw [and63 i, hr1]) (by omega) hj hq2 hr2 (by omega) (by omega) rfl (by rw [and63 j, hr2]) (by simpa using hij) (fun e1 e2 => hij (by omega))
end Go.Proofs.Qxb6623273a.Mark
