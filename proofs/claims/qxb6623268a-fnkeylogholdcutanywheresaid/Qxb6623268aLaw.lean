import Derived.Test.Qxb6623268aWalkC
namespace Go.Proofs.Qxb6623268a.Hold
open Go.RowKit Go.Proofs.Qxb6623268a.Kit

/-! ### zzBytes -/
set_option maxRecDepth 20000 in
set_option maxHeartbeats 400000 in
theorem bytes_yes (a a' : Option Addr) (n c m c' : Nat) (s : Bool) (k : Int) (w : World) (h : n + m ≤ 1048576) :
    Calls Try.prog 4 #[.slice a n c, .bool s, .slice a' m c', .int .u16 k] w fun e w' => e = .returned (.bool true) ∧ w' = w := by
  go_enter Try.func4, Try.ntmps4
  go_wp2
  go_ret
  exact ⟨rfl, rfl⟩
set_option maxRecDepth 20000 in
set_option maxHeartbeats 400000 in
theorem bytes_no (a a' : Option Addr) (n c m c' : Nat) (s : Bool) (k : Int) (w : World) (h : 1048576 < n + m) :
    Calls Try.prog 4 #[.slice a n c, .bool s, .slice a' m c', .int .u16 k] w fun e w' => e = .returned (.bool false) ∧ w' = w := by
  by_cases h1 : 1048576 < n
  · clear h
    go_enter Try.func4, Try.ntmps4
    go_wp2
    go_ret
    exact ⟨rfl, rfl⟩
  by_cases h2 : 1048576 < m
  · clear h
    go_enter Try.func4, Try.ntmps4
    go_wp2
    go_ret
    exact ⟨rfl, rfl⟩
  · go_enter Try.func4, Try.ntmps4
    go_wp2
    go_ret
    exact ⟨rfl, rfl⟩

set_option maxRecDepth 20000 in
set_option maxHeartbeats 400000 in
theorem law_long (a a' : Option Addr) (n c m c' : Nat) (s : Bool) (k : Int) (w : World) (h : 1048576 < n + m) :
    Calls Try.prog 3 #[.slice a n c, .bool s, .slice a' m c', .int .u16 k] w fun e w' => e = .returned (.bool true) ∧ w' = w := by
  go_enter Try.func3, Try.ntmps3
  go_wp2_with (go_at_call 4; refine (bytes_no _ _ _ _ _ _ _ _ _ h).mono ?_; rintro e w' ⟨rfl, rfl⟩)
  go_ret
  exact ⟨rfl, rfl⟩
set_option maxRecDepth 20000 in
set_option maxHeartbeats 400000 in
theorem law_mid (a a' : Option Addr) (n c m c' : Nat) (s : Bool) (k : Int) (w : World) (h : n + m ≤ 1048576) (h' : 65536 < n ∨ 65536 < m) :
    Calls Try.prog 3 #[.slice a n c, .bool s, .slice a' m c', .int .u16 k] w fun e w' => e = .returned (.bool true) ∧ w' = w := by
  by_cases h1 : 65536 < n
  · clear h'
    go_enter Try.func3, Try.ntmps3
    go_wp2_with (go_at_call 4; refine (bytes_yes _ _ _ _ _ _ _ _ _ h).mono ?_; rintro e w' ⟨rfl, rfl⟩)
    go_ret
    exact ⟨rfl, rfl⟩
  · have h2 : 65536 < m := by omega
    clear h'
    go_enter Try.func3, Try.ntmps3
    go_wp2_with (go_at_call 4; refine (bytes_yes _ _ _ _ _ _ _ _ _ h).mono ?_; rintro e w' ⟨rfl, rfl⟩)
    go_ret
    exact ⟨rfl, rfl⟩

/-! ### zzClone at 'part[k:]': the walk parts on whether k is the capacity -/
theorem tail_full (a' : Option Addr) (m c' K : Nat) (ys : List Int) (w : World) (hr' : Rd .u8 w a' m ys) (hc : m ≤ c') (hK : K ≤ m) (hz : c' = K) :
    Calls Try.prog 5 #[.slice a' (m - K) 0] w fun e w' => ∃ v, e = .returned v ∧ w'.ownsRow w.heap.size 5 1 v (m - K) (vals .u8 (ys.drop K)) ∧ w.grownBy w' none := by
  have e0 : m - K = 0 := by omega
  have e1 : ys.drop K = [] := by rw [List.drop_eq_nil_iff]; have := hr'.1; omega
  rw [e0, e1]
  exact clone_any a' 0 0 [] w (Rd.zero rfl) (fun _ => ⟨rfl, rfl⟩) (by omega)
theorem tail_rest (a' : Option Addr) (m c' K : Nat) (ys : List Int) (w : World) (hr' : Rd .u8 w a' m ys) (hnil' : a' = none → m = 0 ∧ c' = 0) (hm : m ≤ 65536) (hK : K ≤ m) :
    Calls Try.prog 5 #[.slice (Option.map (fun x => x.add K) a') (m - K) (c' - K)] w fun e w' => ∃ v, e = .returned v ∧ w'.ownsRow w.heap.size 5 1 v (m - K) (vals .u8 (ys.drop K)) ∧ w.grownBy w' none := by
  refine clone_any _ (m - K) (c' - K) (ys.drop K) w ?_ ?_ (by omega)
  · by_cases h0 : m = 0
    · have e1 : ys.drop K = [] := by rw [List.drop_eq_nil_iff]; have := hr'.1; omega
      rw [e1, show m - K = 0 by omega]
      exact Rd.zero rfl
    · obtain ⟨b, off, rfl, _⟩ := hr'.block (by omega)
      have := hr'.drop hK
      rw [Option.map_some, Addr.add_lit]
      exact this
  · intro e
    have := hnil' (by cases a' with | none => rfl | some x => simp at e)
    omega

set_option maxRecDepth 20000 in
set_option maxHeartbeats 1000000 in
theorem law_app (a a' : Option Addr) (n c m c' K : Nat) (k : Int) (xs ys : List Int) (w : World) (hr : Rd .u8 w a n xs) (hr' : Rd .u8 w a' m ys)
    (hnil : a = none → n = 0 ∧ c = 0) (hnil' : a' = none → m = 0 ∧ c' = 0) (hnm : n + m < 4096) (hc : m ≤ c') (k0 : 0 ≤ k) (k1 : k ≤ 65535) (hK : k % ((m : Int) + 1) = (K : Int)) (hKm : K ≤ m) :
    Calls Try.prog 3 #[.slice a n c, .bool false, .slice a' m c', .int .u16 k] w fun e w' => e = .returned (.bool true) ∧ w.grownBy w' none := by
  go_enter Try.func3, Try.ntmps3
  go_wp2_with (go_at_call 4; refine (bytes_yes _ _ _ _ _ _ _ _ _ (by omega)).mono ?_; rintro e w ⟨rfl, rfl⟩)
  -- p1 := zzClone(pending)
  refine (clone_any a n c xs w hr hnil (by omega)).mono ?_
  rintro e w1 ⟨p1, rfl, o1, g1⟩
  go_wp2_with fail
  -- w1 := zzClone(part)
  refine (clone_any a' m c' ys w1 (hr'.below (grown_below g1)) hnil' (by omega)).mono ?_
  rintro e w2 ⟨q1, rfl, o2, g2⟩
  have G2 : Hid (w.grownBy w2 none) := grown_trans g1 g2
  have o12 := o1.kept g2 (by cases p1.ownBlock <;> simp)
  clear o1 g2
  go_wp2_with fail
  refine (zz_any n m w.heap.size w1.heap.size p1 q1 xs ys w2 hnm o12 G2.out.size o2).mono ?_
  rintro e w3 ⟨p3, rfl, o3, g3⟩
  have G3 : Hid (w.grownBy w3 none) := grown_fresh G2.out g3 (fun g e => (o12.lt g e).1)
  clear o12 o2 g3 G2 g1
  obtain ⟨ap, cp, hp, _⟩ := Rd.of_owns o3
  subst hp
  go_wp2_with fail
  -- p2 := zzClone(pending)
  refine (clone_any a n c xs w3 (hr.below (grown_below G3.out)) hnil (by omega)).mono ?_
  rintro e w4 ⟨p4, rfl, o4, g4⟩
  have G4 : Hid (w.grownBy w4 none) := grown_trans G3.out g4
  have o34 := o3.kept g4 (by cases (Value.slice ap (n + m) cp).ownBlock <;> simp)
  have hlt3 : Hid (∀ g, (Value.slice ap (n + m) cp).ownBlock = some g → g < w3.heap.size) := fun g e => (o3.lt g e).2
  clear o3
  go_wp2_with fail
  -- a := zzClone(part[:k])
  have ra := (hr'.below (grown_below G4.out)).take hKm
  refine (clone_any a' K c' (ys.take K) w4 ra (fun e => ⟨by have := hnil' e; omega, (hnil' e).2⟩) (by omega)).mono ?_
  rintro e w5 ⟨p5, rfl, o5, g5⟩
  have G5 : Hid (w.grownBy w5 none) := grown_trans G4.out g5
  have o45 := o4.kept g5 (by cases p4.ownBlock <;> simp)
  have o35 := o34.kept g5 (by cases (Value.slice ap (n + m) cp).ownBlock <;> simp)
  have hlt4 : Hid (∀ g, p4.ownBlock = some g → g < w4.heap.size) := fun g e => (o4.lt g e).2
  clear o4 o34 ra
  go_wp2_with fail
  -- b := zzClone(part[k:])
  refine (tail_full a' m c' K ys w5 (hr'.below (grown_below G5.out)) hc hKm (by assumption)).mono ?_
  rotate_left
  refine (tail_rest a' m c' K ys w5 (hr'.below (grown_below G5.out)) hnil' (by omega) hKm).mono ?_
  all_goals
    rintro e w6 ⟨p6, rfl, o6, g6⟩
    clear h
    have G6 : Hid (w.grownBy w6 none) := grown_trans G5.out g6
    have o46 := o45.kept g6 (by cases p4.ownBlock <;> simp)
    have o36 := o35.kept g6 (by cases (Value.slice ap (n + m) cp).ownBlock <;> simp)
    have o56 := o5.kept g6 (by cases p5.ownBlock <;> simp)
    have h35 := g4.size
    have h45 := g5.size
    have h46 : w3.heap.size ≤ w6.heap.size := by have := g6.size; omega
    clear o45 o35 o5 g6 g5 g4
    go_wp2_with fail
    refine (zz_any n K w3.heap.size w4.heap.size p4 p5 xs (ys.take K) w6 (by omega) o46 h46 o56).mono ?_
    rintro e w7 ⟨p7, rfl, o7, g7⟩
    have G7 : Hid (w.grownBy w7 none) := grown_fresh G6.out g7 (fun g e => by have := (o46.lt g e).1; have := G3.out.size; omega)
    have o37 := o36.kept g7 (by
      cases e : (Value.slice ap (n + m) cp).ownBlock with
      | none => simp
      | some g => right; intro e2; have := hlt3.out g e; have := (o46.lt g e2.symm).1; omega)
    have o67 := o6.kept g7 (by
      cases e : p6.ownBlock with
      | none => simp
      | some g => right; intro e2; have := (o6.lt g e).1; have := hlt4.out g e2.symm; omega)
    have hlt7 : Hid (∀ g, p7.ownBlock = some g → w3.heap.size ≤ g) := fun g e => (o7.lt g e).1
    have h37 : w3.heap.size ≤ w7.heap.size := by have := g7.size; omega
    clear o36 o6 g7 o46 o56 hlt4
    go_wp2_with fail
    refine (zz_any (n + K) (m - K) w3.heap.size w5.heap.size p7 p6 (xs ++ ys.take K) (ys.drop K) w7 (by omega) o7 h37 o67).mono ?_
    rintro e w8 ⟨p8, rfl, o8, g8⟩
    have G8 : Hid (w.grownBy w8 none) := grown_fresh G7.out g8 (fun g e => by have := hlt7.out g e; have := G3.out.size; omega)
    have o38 := o37.kept g8 (by
      cases e : (Value.slice ap (n + m) cp).ownBlock with
      | none => simp
      | some g => right; intro e2; have := hlt3.out g e; have := hlt7.out g e2.symm; omega)
    clear o37 o7 o67 g8 hlt7 hlt3
    rw [show n + K + (m - K) = n + m by omega, List.append_assoc, List.take_append_drop] at o8
    obtain ⟨a8, c8, hp8, r8, _⟩ := Rd.of_owns o8
    subst hp8
    obtain ⟨a3, c3, e3, r3, _⟩ := Rd.of_owns o38
    simp only [Value.slice.injEq, true_and] at e3
    obtain ⟨rfl, rfl⟩ := e3
    clear o8 o38
    go_wp2_with fail
    refine (eq_any ap a8 (n + m) cp c8 (xs ++ ys) w8 r3 r8 (by omega)).mono ?_
    rintro e w9 ⟨rfl, g9⟩
    have G9 : Hid (w.grownBy w9 none) := grown_trans G8.out g9
    have r39 := r3.below (grown_below g9)
    clear r3 r8 g9
    go_wp2_with fail
    refine (concat_any ap a a' n m _ _ _ xs ys w9 r39 (hr.below (grown_below G9.out)) (hr'.below (grown_below G9.out)) (by omega) (by omega)).mono ?_
    rintro e w10 ⟨rfl, g10⟩
    have G10 : Hid (w.grownBy w10 none) := grown_trans G9.out g10
    clear r39 g10
    go_wp2
    go_ret
    exact ⟨rfl, G10.out⟩

set_option maxRecDepth 20000 in
set_option maxHeartbeats 1000000 in
theorem law_skip (a a' : Option Addr) (n c m c' K : Nat) (k : Int) (xs ys : List Int) (w : World) (hr : Rd .u8 w a n xs) (hr' : Rd .u8 w a' m ys)
    (hnil : a = none → n = 0 ∧ c = 0) (hnil' : a' = none → m = 0 ∧ c' = 0) (hn6 : n ≤ 65536) (hm6 : m ≤ 65536) (hc : m ≤ c') (k0 : 0 ≤ k) (k1 : k ≤ 65535) (hK : k % ((m : Int) + 1) = (K : Int)) (hKm : K ≤ m) :
    Calls Try.prog 3 #[.slice a n c, .bool true, .slice a' m c', .int .u16 k] w fun e w' => e = .returned (.bool true) ∧ w.grownBy w' none := by
  go_enter Try.func3, Try.ntmps3
  go_wp2_with (go_at_call 4; refine (bytes_yes _ _ _ _ _ _ _ _ _ (by omega)).mono ?_; rintro e w ⟨rfl, rfl⟩)
  -- p1 := zzClone(pending)
  refine (clone_any a n c xs w hr hnil (by omega)).mono ?_
  rintro e w1 ⟨p1, rfl, o1, g1⟩
  obtain ⟨a1, c1, hp1, _, _, _, hnc1⟩ := Rd.of_owns o1
  subst hp1
  go_wp2_with fail
  -- w1 := zzClone(part)
  refine (clone_any a' m c' ys w1 (hr'.below (grown_below g1)) hnil' (by omega)).mono ?_
  rintro e w2 ⟨q1, rfl, o2, g2⟩
  obtain ⟨aq, cq, hq1, _⟩ := Rd.of_owns o2
  subst hq1
  have G2 : Hid (w.grownBy w2 none) := grown_trans g1 g2
  have o12 := o1.kept g2 (by cases (Value.slice a1 n c1).ownBlock <;> simp)
  clear o1 g2 o2 g1
  go_wp2_with fail
  refine (zz_skip a1 n c1 _ w2).mono ?_
  rintro e w3 ⟨rfl, g3⟩
  have G3 : Hid (w.grownBy w3 none) := grown_trans G2.out g3
  have o13 := o12.kept g3 (by cases (Value.slice a1 n c1).ownBlock <;> simp)
  clear o12 g3 G2
  go_wp2_with fail
  -- p2 := zzClone(pending)
  refine (clone_any a n c xs w3 (hr.below (grown_below G3.out)) hnil (by omega)).mono ?_
  rintro e w4 ⟨p4, rfl, o4, g4⟩
  obtain ⟨a4, c4, hp4, _, _, _, hnc4⟩ := Rd.of_owns o4
  subst hp4
  have G4 : Hid (w.grownBy w4 none) := grown_trans G3.out g4
  have o14 := o13.kept g4 (by cases (Value.slice a1 n c1).ownBlock <;> simp)
  clear o13
  go_wp2_with fail
  -- a := zzClone(part[:k])
  have ra := (hr'.below (grown_below G4.out)).take hKm
  refine (clone_any a' K c' (ys.take K) w4 ra (fun e => ⟨by have := hnil' e; omega, (hnil' e).2⟩) (by omega)).mono ?_
  rintro e w5 ⟨p5, rfl, o5, g5⟩
  obtain ⟨a5, c5, hp5, _⟩ := Rd.of_owns o5
  subst hp5
  have G5 : Hid (w.grownBy w5 none) := grown_trans G4.out g5
  have o45 := o4.kept g5 (by cases (Value.slice a4 n c4).ownBlock <;> simp)
  have o15 := o14.kept g5 (by cases (Value.slice a1 n c1).ownBlock <;> simp)
  clear o4 o14 ra
  go_wp2_with fail
  -- b := zzClone(part[k:])
  refine (tail_full a' m c' K ys w5 (hr'.below (grown_below G5.out)) hc hKm (by assumption)).mono ?_
  rotate_left
  refine (tail_rest a' m c' K ys w5 (hr'.below (grown_below G5.out)) hnil' (by omega) hKm).mono ?_
  all_goals
    rintro e w6 ⟨p6, rfl, o6, g6⟩
    clear h
    obtain ⟨a6, c6, hp6, _⟩ := Rd.of_owns o6
    subst hp6
    have G6 : Hid (w.grownBy w6 none) := grown_trans G5.out g6
    have o46 := o45.kept g6 (by cases (Value.slice a4 n c4).ownBlock <;> simp)
    have o16 := o15.kept g6 (by cases (Value.slice a1 n c1).ownBlock <;> simp)
    have o56 := o5.kept g6 (by cases (Value.slice a5 K c5).ownBlock <;> simp)
    have h35 := g4.size
    have h45 := g5.size
    have h46 : w3.heap.size ≤ w6.heap.size := by have := g6.size; omega
    clear o45 o15 o5 g6 g5 g4
    go_wp2_with fail
    refine (zz_skip a4 n c4 _ w6).mono ?_
    rintro e w7 ⟨rfl, g7⟩
    go_wp2_with fail
    refine (zz_skip a4 n c4 _ w7).mono ?_
    rintro e w8 ⟨rfl, g8⟩
    have G68 : Hid (w6.grownBy w8 none) := grown_trans g7 g8
    have G8 : Hid (w.grownBy w8 none) := grown_trans G6.out G68.out
    have q1 := o16.kept G68.out (by cases (Value.slice a1 n c1).ownBlock <;> simp)
    have q4 := o46.kept G68.out (by cases (Value.slice a4 n c4).ownBlock <;> simp)
    clear o16 o46 o56 o6 g7 g8 G68
    obtain ⟨_, _, e1, r1, _⟩ := Rd.of_owns q1
    simp only [Value.slice.injEq, true_and] at e1
    obtain ⟨rfl, rfl⟩ := e1
    obtain ⟨_, _, e4, r4, _⟩ := Rd.of_owns q4
    simp only [Value.slice.injEq, true_and] at e4
    obtain ⟨rfl, rfl⟩ := e4
    clear q1 q4
    go_wp2_with fail
    refine (eq_any a1 a4 n _ _ xs w8 r1 r4 (by omega)).mono ?_
    rintro e w9 ⟨rfl, g9⟩
    have G9 : Hid (w.grownBy w9 none) := grown_trans G8.out g9
    have r19 := r1.below (grown_below g9)
    clear r1 r4 g9
    go_wp2_with fail
    refine (eq_any a1 a n _ _ xs w9 r19 (hr.below (grown_below G9.out)) (by omega)).mono ?_
    rintro e w10 ⟨rfl, g10⟩
    have G10 : Hid (w.grownBy w10 none) := grown_trans G9.out g10
    clear r19 g10
    go_wp2
    go_ret
    exact ⟨rfl, G10.out⟩

set_option maxRecDepth 20000 in
set_option maxHeartbeats 1000000 in
theorem law_over1 (a a' : Option Addr) (n c m c' K : Nat) (k : Int) (xs ys : List Int) (w : World) (hr : Rd .u8 w a n xs) (hr' : Rd .u8 w a' m ys)
    (hnil : a = none → n = 0 ∧ c = 0) (hnil' : a' = none → m = 0 ∧ c' = 0) (hn6 : n ≤ 65536) (hm6 : m ≤ 65536) (hnm : 4096 ≤ n + m) (hnK : 4096 ≤ n + K) (hc : m ≤ c') (k0 : 0 ≤ k) (k1 : k ≤ 65535) (hK : k % ((m : Int) + 1) = (K : Int)) (hKm : K ≤ m) :
    Calls Try.prog 3 #[.slice a n c, .bool false, .slice a' m c', .int .u16 k] w fun e w' => e = .returned (.bool true) ∧ w.grownBy w' none := by
  go_enter Try.func3, Try.ntmps3
  go_wp2_with (go_at_call 4; refine (bytes_yes _ _ _ _ _ _ _ _ _ (by omega)).mono ?_; rintro e w ⟨rfl, rfl⟩)
  -- p1 := zzClone(pending)
  refine (clone_any a n c xs w hr hnil (by omega)).mono ?_
  rintro e w1 ⟨p1, rfl, o1, g1⟩
  obtain ⟨a1, c1, hp1, _, _, _, hnc1⟩ := Rd.of_owns o1
  subst hp1
  go_wp2_with fail
  -- w1 := zzClone(part)
  refine (clone_any a' m c' ys w1 (hr'.below (grown_below g1)) hnil' (by omega)).mono ?_
  rintro e w2 ⟨q1, rfl, o2, g2⟩
  obtain ⟨aq, cq, hq1, _⟩ := Rd.of_owns o2
  subst hq1
  have G2 : Hid (w.grownBy w2 none) := grown_trans g1 g2
  have o12 := o1.kept g2 (by cases (Value.slice a1 n c1).ownBlock <;> simp)
  clear o1 g2 o2 g1
  go_wp2_with fail
  refine (zz_over a1 aq n c1 m cq w2 hnm (by omega) (by omega) hnc1).mono ?_
  rintro e w3 ⟨rfl, g3⟩
  have G3 : Hid (w.grownBy w3 none) := grown_trans G2.out g3
  have o13 := o12.kept g3 (by cases (Value.slice a1 n c1).ownBlock <;> simp)
  clear o12 g3 G2
  go_wp2_with fail
  -- p2 := zzClone(pending)
  refine (clone_any a n c xs w3 (hr.below (grown_below G3.out)) hnil (by omega)).mono ?_
  rintro e w4 ⟨p4, rfl, o4, g4⟩
  obtain ⟨a4, c4, hp4, _, _, _, hnc4⟩ := Rd.of_owns o4
  subst hp4
  have G4 : Hid (w.grownBy w4 none) := grown_trans G3.out g4
  have o14 := o13.kept g4 (by cases (Value.slice a1 n c1).ownBlock <;> simp)
  clear o13
  go_wp2_with fail
  -- a := zzClone(part[:k])
  have ra := (hr'.below (grown_below G4.out)).take hKm
  refine (clone_any a' K c' (ys.take K) w4 ra (fun e => ⟨by have := hnil' e; omega, (hnil' e).2⟩) (by omega)).mono ?_
  rintro e w5 ⟨p5, rfl, o5, g5⟩
  obtain ⟨a5, c5, hp5, _⟩ := Rd.of_owns o5
  subst hp5
  have G5 : Hid (w.grownBy w5 none) := grown_trans G4.out g5
  have o45 := o4.kept g5 (by cases (Value.slice a4 n c4).ownBlock <;> simp)
  have o15 := o14.kept g5 (by cases (Value.slice a1 n c1).ownBlock <;> simp)
  clear o4 o14 ra
  go_wp2_with fail
  -- b := zzClone(part[k:])
  refine (tail_full a' m c' K ys w5 (hr'.below (grown_below G5.out)) hc hKm (by assumption)).mono ?_
  rotate_left
  refine (tail_rest a' m c' K ys w5 (hr'.below (grown_below G5.out)) hnil' (by omega) hKm).mono ?_
  all_goals
    rintro e w6 ⟨p6, rfl, o6, g6⟩
    clear h
    obtain ⟨a6, c6, hp6, _⟩ := Rd.of_owns o6
    subst hp6
    have G6 : Hid (w.grownBy w6 none) := grown_trans G5.out g6
    have o46 := o45.kept g6 (by cases (Value.slice a4 n c4).ownBlock <;> simp)
    have o16 := o15.kept g6 (by cases (Value.slice a1 n c1).ownBlock <;> simp)
    have o56 := o5.kept g6 (by cases (Value.slice a5 K c5).ownBlock <;> simp)
    have h35 := g4.size
    have h45 := g5.size
    have h46 : w3.heap.size ≤ w6.heap.size := by have := g6.size; omega
    clear o45 o15 o5 g6 g5 g4
    go_wp2_with fail
    refine (zz_over a4 a5 n c4 K c5 w6 hnK (by omega) (by omega) hnc4).mono ?_
    rintro e w7 ⟨rfl, g7⟩
    go_wp2_with fail
    refine (zz_skip a4 0 c4 _ w7).mono ?_
    rintro e w8 ⟨rfl, g8⟩
    have G8 : Hid (w.grownBy w8 none) := grown_trans G6.out (grown_trans g7 g8)
    clear o16 o46 o56 o6 g7 g8
    go_wp2_with fail
    refine (eq_zero a1 a4 _ _ w8).mono ?_
    rintro e w9 ⟨rfl, g9⟩
    have G9 : Hid (w.grownBy w9 none) := grown_trans G8.out g9
    clear g9
    go_wp2
    go_ret
    exact ⟨rfl, G9.out⟩

set_option maxRecDepth 20000 in
set_option maxHeartbeats 1000000 in
theorem law_over2 (a a' : Option Addr) (n c m c' K : Nat) (k : Int) (xs ys : List Int) (w : World) (hr : Rd .u8 w a n xs) (hr' : Rd .u8 w a' m ys)
    (hnil : a = none → n = 0 ∧ c = 0) (hnil' : a' = none → m = 0 ∧ c' = 0) (hn6 : n ≤ 65536) (hm6 : m ≤ 65536) (hnm : 4096 ≤ n + m) (hnK : n + K < 4096) (hc : m ≤ c') (k0 : 0 ≤ k) (k1 : k ≤ 65535) (hK : k % ((m : Int) + 1) = (K : Int)) (hKm : K ≤ m) :
    Calls Try.prog 3 #[.slice a n c, .bool false, .slice a' m c', .int .u16 k] w fun e w' => e = .returned (.bool true) ∧ w.grownBy w' none := by
  go_enter Try.func3, Try.ntmps3
  go_wp2_with (go_at_call 4; refine (bytes_yes _ _ _ _ _ _ _ _ _ (by omega)).mono ?_; rintro e w ⟨rfl, rfl⟩)
  -- p1 := zzClone(pending)
  refine (clone_any a n c xs w hr hnil (by omega)).mono ?_
  rintro e w1 ⟨p1, rfl, o1, g1⟩
  obtain ⟨a1, c1, hp1, _, _, _, hnc1⟩ := Rd.of_owns o1
  subst hp1
  go_wp2_with fail
  -- w1 := zzClone(part)
  refine (clone_any a' m c' ys w1 (hr'.below (grown_below g1)) hnil' (by omega)).mono ?_
  rintro e w2 ⟨q1, rfl, o2, g2⟩
  obtain ⟨aq, cq, hq1, _⟩ := Rd.of_owns o2
  subst hq1
  have G2 : Hid (w.grownBy w2 none) := grown_trans g1 g2
  have o12 := o1.kept g2 (by cases (Value.slice a1 n c1).ownBlock <;> simp)
  clear o1 g2 o2 g1
  go_wp2_with fail
  refine (zz_over a1 aq n c1 m cq w2 hnm (by omega) (by omega) hnc1).mono ?_
  rintro e w3 ⟨rfl, g3⟩
  have G3 : Hid (w.grownBy w3 none) := grown_trans G2.out g3
  have o13 := o12.kept g3 (by cases (Value.slice a1 n c1).ownBlock <;> simp)
  clear o12 g3 G2
  go_wp2_with fail
  -- p2 := zzClone(pending)
  refine (clone_any a n c xs w3 (hr.below (grown_below G3.out)) hnil (by omega)).mono ?_
  rintro e w4 ⟨p4, rfl, o4, g4⟩
  obtain ⟨a4, c4, hp4, _, _, _, hnc4⟩ := Rd.of_owns o4
  subst hp4
  have G4 : Hid (w.grownBy w4 none) := grown_trans G3.out g4
  have o14 := o13.kept g4 (by cases (Value.slice a1 n c1).ownBlock <;> simp)
  clear o13
  go_wp2_with fail
  -- a := zzClone(part[:k])
  have ra := (hr'.below (grown_below G4.out)).take hKm
  refine (clone_any a' K c' (ys.take K) w4 ra (fun e => ⟨by have := hnil' e; omega, (hnil' e).2⟩) (by omega)).mono ?_
  rintro e w5 ⟨p5, rfl, o5, g5⟩
  obtain ⟨a5, c5, hp5, _⟩ := Rd.of_owns o5
  subst hp5
  have G5 : Hid (w.grownBy w5 none) := grown_trans G4.out g5
  have o45 := o4.kept g5 (by cases (Value.slice a4 n c4).ownBlock <;> simp)
  have o15 := o14.kept g5 (by cases (Value.slice a1 n c1).ownBlock <;> simp)
  clear o4 o14 ra
  go_wp2_with fail
  -- b := zzClone(part[k:])
  refine (tail_rest a' m c' K ys w5 (hr'.below (grown_below G5.out)) hnil' (by omega) hKm).mono ?_
  all_goals
    rintro e w6 ⟨p6, rfl, o6, g6⟩
    obtain ⟨a6, c6, hp6, _⟩ := Rd.of_owns o6
    subst hp6
    have G6 : Hid (w.grownBy w6 none) := grown_trans G5.out g6
    have o46 := o45.kept g6 (by cases (Value.slice a4 n c4).ownBlock <;> simp)
    have o16 := o15.kept g6 (by cases (Value.slice a1 n c1).ownBlock <;> simp)
    have o56 := o5.kept g6 (by cases (Value.slice a5 K c5).ownBlock <;> simp)
    have h35 := g4.size
    have h45 := g5.size
    have h46 : w3.heap.size ≤ w6.heap.size := by have := g6.size; omega
    clear o45 o15 o5 g6 g5 g4
    go_wp2_with fail
    refine (zz_any n K w3.heap.size w4.heap.size _ _ xs (ys.take K) w6 hnK o46 h46 o56).mono ?_
    rintro e w7 ⟨p7, rfl, o7, g7⟩
    obtain ⟨a7, c7, hp7, _, _, _, hnc7⟩ := Rd.of_owns o7
    subst hp7
    have G7 : Hid (w.grownBy w7 none) := grown_fresh G6.out g7 (fun g e => by have := (o46.lt g e).1; have := G3.out.size; omega)
    clear o16 o46 o56 o6 g7
    go_wp2_with fail
    refine (zz_over a7 a6 (n + K) c7 (m - K) c6 w7 (by omega) (by omega) (by omega) hnc7).mono ?_
    rintro e w8 ⟨rfl, g8⟩
    have G8 : Hid (w.grownBy w8 none) := grown_trans G7.out g8
    clear g8
    go_wp2_with fail
    refine (eq_zero a1 a7 _ _ w8).mono ?_
    rintro e w9 ⟨rfl, g9⟩
    have G9 : Hid (w.grownBy w9 none) := grown_trans G8.out g9
    clear g9
    go_wp2
    go_ret
    exact ⟨rfl, G9.out⟩

/-- The law, whatever the input. -/
theorem law_any (a a' : Option Addr) (n c m c' : Nat) (s : Bool) (k : Int) (xs ys : List Int) (w : World) (hr : Rd .u8 w a n xs) (hr' : Rd .u8 w a' m ys)
    (hnil : a = none → n = 0 ∧ c = 0) (hnil' : a' = none → m = 0 ∧ c' = 0) (hc : m ≤ c') (k0 : 0 ≤ k) (k1 : k ≤ 65535) :
    Calls Try.prog 3 #[.slice a n c, .bool s, .slice a' m c', .int .u16 k] w fun e w' => e = .returned (.bool true) ∧ w.grownBy w' none := by
  by_cases h1 : 1048576 < n + m
  · refine (law_long a a' n c m c' s k w h1).mono ?_
    rintro e w' ⟨rfl, rfl⟩
    exact ⟨rfl, grown_refl _ _⟩
  by_cases h2 : 65536 < n ∨ 65536 < m
  · refine (law_mid a a' n c m c' s k w (by omega) h2).mono ?_
    rintro e w' ⟨rfl, rfl⟩
    exact ⟨rfl, grown_refl _ _⟩
  have e0 : 0 ≤ k % ((m : Int) + 1) := Int.emod_nonneg _ (by omega)
  have e1 : k % ((m : Int) + 1) < (m : Int) + 1 := Int.emod_lt_of_pos _ (by omega)
  obtain ⟨K, hK⟩ := Int.eq_ofNat_of_zero_le e0
  have hKm : K ≤ m := by omega
  cases s with
  | true => exact law_skip a a' n c m c' K k xs ys w hr hr' hnil hnil' (by omega) (by omega) hc k0 k1 hK hKm
  | false =>
    by_cases h3 : n + m < 4096
    · exact law_app a a' n c m c' K k xs ys w hr hr' hnil hnil' h3 hc k0 k1 hK hKm
    by_cases h4 : n + K < 4096
    · exact law_over2 a a' n c m c' K k xs ys w hr hr' hnil hnil' (by omega) (by omega) (by omega) h4 hc k0 k1 hK hKm
    · exact law_over1 a a' n c m c' K k xs ys w hr hr' hnil hnil' (by omega) (by omega) (by omega) (by omega) hc k0 k1 hK hKm
end Go.Proofs.Qxb6623268a.Hold
