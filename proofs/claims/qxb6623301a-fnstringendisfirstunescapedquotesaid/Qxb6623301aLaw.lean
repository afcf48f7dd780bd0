import Derived.Test.Qxb6623301aWalkA
import Derived.Laws.CopyOwn
namespace Go.Proofs.Qxb6623301a.Str
open Go.RowKit Go.Proofs.Qxb6623301a.Kit Go.Proofs.Qxb6623301a.Scan

theorem info5 : (Try.prog.info? 5).map (fun i => (i.zero, i.size, i.bytes)) = some (some (.int .u8 0), 1, 1) := by kernel_rfl

/-! ### zzBytes -/
set_option maxRecDepth 20000 in
set_option maxHeartbeats 400000 in
theorem bytes_yes (a0 a1 a3 : Option Addr) (p c0 m c1 q c3 : Nat) (s : Int) (w : World) (h : p + m + q ≤ 1048576) :
    Calls Try.prog 4 #[.slice a0 p c0, .slice a1 m c1, .int .i64 s, .slice a3 q c3] w fun e w' => e = .returned (.bool true) ∧ w' = w := by
  go_enter Try.func4, Try.ntmps4
  go_wp2
  go_ret
  exact ⟨rfl, rfl⟩
set_option maxRecDepth 20000 in
set_option maxHeartbeats 400000 in
theorem bytes_no (a0 a1 a3 : Option Addr) (p c0 m c1 q c3 : Nat) (s : Int) (w : World) (h : 1048576 < p + m + q) :
    Calls Try.prog 4 #[.slice a0 p c0, .slice a1 m c1, .int .i64 s, .slice a3 q c3] w fun e w' => e = .returned (.bool false) ∧ w' = w := by
  by_cases h1 : 1048576 < p
  · clear h
    go_enter Try.func4, Try.ntmps4
    go_wp2
    go_ret
    exact ⟨rfl, rfl⟩
  by_cases h2 : 1048576 < m
  · clear h
    go_enter Try.func4, Try.ntmps4
    go_wp2
    go_ret
    exact ⟨rfl, rfl⟩
  by_cases h3 : 1048576 < p + m
  · clear h
    go_enter Try.func4, Try.ntmps4
    go_wp2
    go_ret
    exact ⟨rfl, rfl⟩
  by_cases h4 : 1048576 < q
  · clear h
    go_enter Try.func4, Try.ntmps4
    go_wp2
    go_ret
    exact ⟨rfl, rfl⟩
  · go_enter Try.func4, Try.ntmps4
    go_wp2
    go_ret
    exact ⟨rfl, rfl⟩

/-! ### the early ways out -/
set_option maxRecDepth 20000 in
set_option maxHeartbeats 400000 in
theorem law_long (a0 a1 a3 : Option Addr) (p c0 m c1 q c3 : Nat) (s : Int) (w : World) (h : 1048576 < p + m + q) :
    Calls Try.prog 3 #[.slice a0 p c0, .slice a1 m c1, .int .i64 s, .slice a3 q c3] w fun e w' => e = .returned (.bool true) ∧ w' = w := by
  go_enter Try.func3, Try.ntmps3
  go_wp2_with (go_at_call 4; refine (bytes_no _ _ _ _ _ _ _ _ _ _ _ h).mono ?_; rintro e w' ⟨rfl, rfl⟩)
  go_ret
  exact ⟨rfl, rfl⟩
set_option maxRecDepth 20000 in
set_option maxHeartbeats 400000 in
theorem law_big (a0 a1 a3 : Option Addr) (p c0 m c1 q c3 : Nat) (s : Int) (w : World) (h : p + m + q ≤ 1048576) (h' : 262144 < p ∨ 524288 < m ∨ 262144 < q) :
    Calls Try.prog 3 #[.slice a0 p c0, .slice a1 m c1, .int .i64 s, .slice a3 q c3] w fun e w' => e = .returned (.bool true) ∧ w' = w := by
  by_cases h1 : 262144 < p
  · clear h'
    go_enter Try.func3, Try.ntmps3
    go_wp2_with (go_at_call 4; refine (bytes_yes _ _ _ _ _ _ _ _ _ _ _ h).mono ?_; rintro e w' ⟨rfl, rfl⟩)
    go_ret
    exact ⟨rfl, rfl⟩
  by_cases h2 : 524288 < m
  · clear h'
    go_enter Try.func3, Try.ntmps3
    go_wp2_with (go_at_call 4; refine (bytes_yes _ _ _ _ _ _ _ _ _ _ _ h).mono ?_; rintro e w' ⟨rfl, rfl⟩)
    go_ret
    exact ⟨rfl, rfl⟩
  · have h3 : 262144 < q := by omega
    clear h'
    go_enter Try.func3, Try.ntmps3
    go_wp2_with (go_at_call 4; refine (bytes_yes _ _ _ _ _ _ _ _ _ _ _ h).mono ?_; rintro e w' ⟨rfl, rfl⟩)
    go_ret
    exact ⟨rfl, rfl⟩
set_option maxRecDepth 20000 in
set_option maxHeartbeats 400000 in
theorem law_out (a0 a1 a3 : Option Addr) (p c0 m c1 q c3 : Nat) (s : Int) (w : World) (h1 : p ≤ 262144) (h2 : m ≤ 524288) (h3 : q ≤ 262144) (h' : s < 0 ∨ (m : Int) ≤ s) :
    Calls Try.prog 3 #[.slice a0 p c0, .slice a1 m c1, .int .i64 s, .slice a3 q c3] w fun e w' => e = .returned (.bool true) ∧ w' = w := by
  by_cases h4 : s < 0
  · clear h'
    go_enter Try.func3, Try.ntmps3
    go_wp2_with (go_at_call 4; refine (bytes_yes _ _ _ _ _ _ _ _ _ _ _ (by omega)).mono ?_; rintro e w' ⟨rfl, rfl⟩)
    go_ret
    exact ⟨rfl, rfl⟩
  · have h5 : (m : Int) ≤ s := by omega
    clear h'
    go_enter Try.func3, Try.ntmps3
    go_wp2_with (go_at_call 4; refine (bytes_yes _ _ _ _ _ _ _ _ _ _ _ (by omega)).mono ?_; rintro e w' ⟨rfl, rfl⟩)
    go_ret
    exact ⟨rfl, rfl⟩

/-! ### the built-in copy, over the whole of a slice of the call's own -/
theorem copy_run (base g m b1 off1 c1 : Nat) (zs : List Value) (ds : List Int) (w1 : World) (ho : w1.ownsRow base 5 1 (.slice (some ⟨g, 0, none⟩) m m) m zs) (hr : Rd .u8 w1 (some ⟨b1, off1, none⟩) m ds) :
    ∃ w2, (Builtin.copy_ #[22, 22] 3 #[.slice (some ⟨g, 0, none⟩) m m, .slice (some ⟨b1, off1, none⟩) m c1]).run Try.prog w1 = .ok (.int .i64 m) w2 ∧ w2.ownsRow base 5 1 (.slice (some ⟨g, 0, none⟩) m m) m (vals .u8 ds) ∧ w1.grownBy w2 (some g) := by
  have hl : (vals .u8 ds).length = m := by rw [vals_length]; exact hr.1
  rcases ho.2 with ⟨e, _⟩ | ⟨g', cap, cur, e, hb, hg, _, hcm, hcs, _⟩
  · simp at e
  · simp only [Value.slice.injEq, Option.some.injEq, Addr.mk.injEq, and_true, true_and] at e
    obtain ⟨rfl, rfl⟩ := e
    have hrun := run_copy_row (P := Try.prog) w1 22 22 3 5 g 0 m m ⟨b1, off1, none⟩ m c1 cur 5 (vals .u8 ds) Try.underlying22 (by kernel_rfl) hg (by rw [hl]; exact (Nat.min_self m).symm) hr.cells (by rw [hl, hcs]; omega) (vals_one _ _)
    rw [hl] at hrun
    have hd : cur.toList.take 0 ++ vals .u8 ds ++ cur.toList.drop (0 + m) = vals .u8 ds := by
      have e1 : cur.toList.drop (0 + m) = [] := by rw [List.drop_eq_nil_iff, Array.length_toList, hcs]; omega
      rw [e1]; simp
    rw [hd] at hrun
    refine ⟨_, hrun, ⟨by rw [hl]; omega, .inr ⟨g, m, _, rfl, hb, setRow_heap w1 g cur _ 5 _ hg, Nat.le_refl _, hcm, by simp [hl], ?_⟩⟩, ⟨rfl, rfl, rfl, by simp, fun k _ hk => setRow_other w1 g k _ (fun e => hk (by rw [e]))⟩⟩
    simp only [List.take_of_length_le (show (vals .u8 ds).length ≤ m * 1 by omega)]

/-- a row that is being filled: one cell more -/
theorem fill_step {base g N t : Nat} {zs : List Int} {w2 wr : World} (ho : wr.ownsRow base 5 1 (.slice (some ⟨g, 0, none⟩) N N) N (mix .u8 zs N t)) (hg : w2.grownBy wr none) (hl : zs.length = N) (ht : t < N) (hgb : w2.heap.size ≤ g) (y : Int) (hy : y = zs.getD t 0) :
    (∃ u, wr.cell? ⟨g, t, none⟩ = some u) ∧ wr.frozen? ⟨g, t, none⟩ = false ∧ (wr.setCell ⟨g, t, none⟩ (.int .u8 y)).ownsRow base 5 1 (.slice (some ⟨g, 0, none⟩) N N) N (mix .u8 zs N (t + 1)) ∧ w2.grownBy (wr.setCell ⟨g, t, none⟩ (.int .u8 y)) none := by
  have HO := ho.stored t (.int .u8 y)
  rw [hy, mix_set .u8 zs N t hl ht, ← hy] at HO
  refine ⟨?_, ho.frozenAt t, HO.1, grown_fresh hg HO.2 (by intro g' e; simp at e; omega)⟩
  rw [ho.cellAt t (by omega)]
  exact ⟨_, List.getElem?_eq_getElem (by rw [mix_length _ _ _ _ hl (by omega)]; exact ht)⟩

/-- ZZStringEnd at numbers that the walk spells as sums -/
theorem zz_end_at (b off n c s r : Nat) (S T : Int) (hS : S = (s : Int)) (hT : T = (r : Int)) (xs : List Int) (w : World) (hr : Rd .u8 w (some ⟨b, off, none⟩) n xs) (hn : n ≤ 2097152) (hf : First (at_ xs) s n r) :
    Calls Try.prog 6 #[.slice (some ⟨b, off, none⟩) n c, .int .i64 S] w fun e w' => e = .returned (.int .i64 T) ∧ w' = w := by
  subst hS hT
  exact zz_end b off n c s r xs w hr hn hf
theorem get_pre (ps ds qs : List Int) (k : Nat) (h : k < ps.length) : ps.getD k 0 = (ps ++ ds ++ qs).getD k 0 := by
  simp [List.getD, List.append_assoc, List.getElem?_append_left h]
theorem get_data (ps ds qs : List Int) (k : Nat) (h : k < ds.length) : ds.getD k 0 = (ps ++ ds ++ qs).getD (ps.length + k) 0 := by
  simp [List.getD, List.append_assoc, List.getElem?_append_right, List.getElem?_append_left h]
theorem get_post (ps ds qs : List Int) (k : Nat) : qs.getD k 0 = (ps ++ ds ++ qs).getD (ps.length + ds.length + k) 0 := by
  have e : ps.length + ds.length + k = (ps ++ ds).length + k := by simp
  rw [e]
  simp only [List.getD]
  rw [List.getElem?_append_right (Nat.le_add_right _ _), Nat.add_sub_cancel_left]

/-! ### the law -/
set_option maxRecDepth 20000 in
set_option maxHeartbeats 2000000 in
theorem law_main (a0 a3 : Option Addr) (b1 off1 p c0 m c1 q c3 s : Nat) (ps ds qs : List Int) (w : World) (h1 : p ≤ 262144) (h2 : m ≤ 524288) (h3 : q ≤ 262144) (hs : s < m)
    (r0 : Rd .u8 w a0 p ps) (r1 : Rd .u8 w (some ⟨b1, off1, none⟩) m ds) (r3 : Rd .u8 w a3 q qs) :
    Calls Try.prog 3 #[.slice a0 p c0, .slice (some ⟨b1, off1, none⟩) m c1, .int .i64 s, .slice a3 q c3] w fun e w' => e = .returned (.bool true) ∧ w.grownBy w' none := by
  have hq := fun (w : World) => run_neq_slice_nil_any (P := Try.prog) w 22 5 (some ⟨b1, off1, none⟩) m c1 0 0 Try.underlying22
  obtain ⟨i0, hi, hz0, hz1, hz2⟩ := info_parts info5
  have R : Hid (Rd .u8 w a0 p ps ∧ Rd .u8 w (some ⟨b1, off1, none⟩) m ds ∧ Rd .u8 w a3 q qs) := ⟨r0, r1, r3⟩
  clear r0 r1 r3
  go_enter Try.func3, Try.ntmps3
  go_wp2_with (first | (go_at_call 4; refine (bytes_yes _ _ _ _ _ _ _ _ _ _ _ (by omega)).mono ?_; rintro e w ⟨rfl, rfl⟩) | (at_make; refine wpList_make_full _ rfl (.tmp 44) (.tmp 44) 22 rfl w.heap.size 5 i0 (.int .u8 0) 1 Try.underlying22 hi hz0 hz1 .i64 .i64 _ _ m rfl rfl rfl rfl (by rw [hz2]; omega) (by unfold maxLen; omega) (Nat.le_refl _) ?_; intro w1 ho hg; obtain ⟨w2, hcp, o2, g2⟩ := copy_run w.heap.size w.heap.size m b1 off1 c1 _ ds w1 ho (R.out.2.1.below (grown_below hg))))
  have g12 : w.grownBy w2 none := grown_fresh hg g2 (by intro g e; simp at e; omega)
  have G2 : Hid (w.grownBy w2 none) := g12
  have O2 : Hid (w2.ownsRow w.heap.size 5 1 (.slice (some ⟨w.heap.size, 0, none⟩) m m) m (vals .u8 ds)) := o2
  clear hcp ho hg o2 g2 g12 hq
  have rd2 : Hid (Rd .u8 w2 (some ⟨w.heap.size, 0, none⟩) m ds) := by
    obtain ⟨a, c, e, hr, _⟩ := Rd.of_owns O2.out
    simp only [Value.slice.injEq, true_and] at e
    obtain ⟨rfl, rfl⟩ := e
    exact hr
  refine (close_any w.heap.size 0 m m s ds w2 rd2.out (by omega) hs).mono ?_
  rintro e w2 ⟨⟨rfl, _⟩ | ⟨r, rfl, hf⟩, rfl⟩
  · go_wp2
    go_ret
    exact ⟨rfl, G2.out⟩
  have HF : Hid (First (at_ ds) s m r) := hf
  have hrm : r < m := hf.1
  clear hf
  go_wp2_with fail
  refine (zz_end_at w.heap.size 0 m m s r s r rfl rfl ds w2 rd2.out (by omega) HF.out).mono ?_
  rintro e w2 ⟨rfl, rfl⟩
  obtain ⟨zs, hzs⟩ : ∃ zs, zs = ps ++ ds ++ qs := ⟨_, rfl⟩
  have HL : Hid (ps.length = p ∧ ds.length = m ∧ qs.length = q ∧ zs = ps ++ ds ++ qs ∧ zs.length = p + m + q) :=
    ⟨R.out.1.1, R.out.2.1.1, R.out.2.2.1, hzs, by rw [hzs]; simp [R.out.1.1, R.out.2.1.1, R.out.2.2.1]; omega⟩
  clear hzs
  go_wp2_with (at_make; refine wpList_make_full _ rfl (.tmp 66) (.tmp 66) 22 rfl w2.heap.size 5 i0 (.int .u8 0) 1 Try.underlying22 hi hz0 hz1 .i64 .i64 _ _ (p + m + q) rfl rfl (by omega) (by omega) (by rw [hz2]; omega) (by unfold maxLen; omega) (Nat.le_refl _) ?_; intro w3 ho hg)
  rw [made_mix .u8 zs (p + m + q)] at ho
  have HI : Hid (w3.ownsRow w2.heap.size 5 1 (.slice (some ⟨w2.heap.size, 0, none⟩) (p + m + q) (p + m + q)) (p + m + q) (mix .u8 zs (p + m + q) 0) ∧ w2.grownBy w3 none) := ⟨ho, hg⟩
  clear ho hg hi hz0 hz1 hz2
  -- framed[i] = pre[i]
  go_loopw [14] (fun t wr => ∃ k : Nat, k ≤ p ∧ t = .int .i64 k ∧ Hid (wr.ownsRow w2.heap.size 5 1 (.slice (some ⟨w2.heap.size, 0, none⟩) (p + m + q) (p + m + q)) (p + m + q) (mix .u8 zs (p + m + q) (k)) ∧ w2.grownBy wr none)) (fun t _ => p - (intOf t).toNat)
  case atStart => exact ⟨0, Nat.zero_le _, rfl, HI.out⟩
  case round =>
    clear HI
    obtain ⟨k, hk, rfl, HO⟩ := hrel
    by_cases hlt : k < p
    · obtain ⟨y, hy⟩ : ∃ y, y = ps.getD k 0 := ⟨_, rfl⟩
      obtain ⟨b0, off0, rfl, _, hc⟩ := (R.out.1.below (grown_below (grown_trans G2.out HO.out.2))).block (by omega)
      have k1 : wr.cell? ⟨b0, off0 + k, none⟩ = some (.int .u8 y) := by rw [hc k hlt, hy]
      obtain ⟨⟨u, k2⟩, k3, HS⟩ := fill_step HO.out.1 HO.out.2 HL.out.2.2.2.2 (by omega) (Nat.le_refl _) y (by rw [hy, HL.out.2.2.2.1]; exact get_pre ps ds qs k (by have := HL.out.1; omega))
      have HS' : Hid ((wr.setCell ⟨w2.heap.size, k, none⟩ (.int .u8 y)).ownsRow w2.heap.size 5 1 (.slice (some ⟨w2.heap.size, 0, none⟩) (p + m + q) (p + m + q)) (p + m + q) (mix .u8 zs (p + m + q) (k + 1)) ∧ w2.grownBy (wr.setCell ⟨w2.heap.size, k, none⟩ (.int .u8 y)) none) := HS
      have hk4 : k < p + m + q := by omega
      clear HS hy hc
      go_wp2
      go_roundw
      case rel => exact ⟨k + 1, by omega, by go_num, HS'⟩
      case measure => simp [intOf]; omega
    · obtain rfl : p = k := by omega
      go_wp2
      -- framed[len(pre)+i] = data[i]
      go_loopw [15] (fun t wr => ∃ j : Nat, j ≤ m ∧ t = .int .i64 j ∧ Hid (wr.ownsRow w2.heap.size 5 1 (.slice (some ⟨w2.heap.size, 0, none⟩) (p + m + q) (p + m + q)) (p + m + q) (mix .u8 zs (p + m + q) (p + j)) ∧ w2.grownBy wr none)) (fun t _ => m - (intOf t).toNat)
      case atStart => exact ⟨0, Nat.zero_le _, rfl, HO⟩
      case round =>
        clear HO
        obtain ⟨j, hj, rfl, HO⟩ := hrel
        by_cases hlt2 : j < m
        · obtain ⟨y, hy⟩ : ∃ y, y = ds.getD j 0 := ⟨_, rfl⟩
          obtain ⟨_, _, e, _, hc⟩ := (rd2.out.below (grown_below HO.out.2)).block (by omega)
          simp only [Option.some.injEq, Addr.mk.injEq, and_true] at e
          obtain ⟨rfl, rfl⟩ := e
          have k1 : wr.cell? ⟨w.heap.size, j, none⟩ = some (.int .u8 y) := by have := hc j hlt2; rw [Nat.zero_add] at this; rw [this, hy]
          obtain ⟨⟨u, k2⟩, k3, HS⟩ := fill_step HO.out.1 HO.out.2 HL.out.2.2.2.2 (by omega) (Nat.le_refl _) y (by rw [hy, HL.out.2.2.2.1, ← HL.out.1]; exact get_data ps ds qs j (by have := HL.out.2.1; omega))
          have HS' : Hid ((wr.setCell ⟨w2.heap.size, p + j, none⟩ (.int .u8 y)).ownsRow w2.heap.size 5 1 (.slice (some ⟨w2.heap.size, 0, none⟩) (p + m + q) (p + m + q)) (p + m + q) (mix .u8 zs (p + m + q) (p + (j + 1))) ∧ w2.grownBy (wr.setCell ⟨w2.heap.size, p + j, none⟩ (.int .u8 y)) none) := HS
          have hk4 : p + j < p + m + q := by omega
          clear HS hy hc
          go_wp2
          go_roundw
          case rel => exact ⟨j + 1, by omega, by go_num, HS'⟩
          case measure => simp [intOf]; omega
        · obtain rfl : m = j := by omega
          go_wp2
          -- framed[len(pre)+len(data)+i] = post[i]
          go_loopw [16] (fun t wr => ∃ i : Nat, i ≤ q ∧ t = .int .i64 i ∧ Hid (wr.ownsRow w2.heap.size 5 1 (.slice (some ⟨w2.heap.size, 0, none⟩) (p + m + q) (p + m + q)) (p + m + q) (mix .u8 zs (p + m + q) (p + m + i)) ∧ w2.grownBy wr none)) (fun t _ => q - (intOf t).toNat)
          case atStart => exact ⟨0, Nat.zero_le _, rfl, HO⟩
          case round =>
            clear HO
            obtain ⟨i, hi3, rfl, HO⟩ := hrel
            by_cases hlt3 : i < q
            · obtain ⟨y, hy⟩ : ∃ y, y = qs.getD i 0 := ⟨_, rfl⟩
              obtain ⟨b3, off3, rfl, _, hc⟩ := (R.out.2.2.below (grown_below (grown_trans G2.out HO.out.2))).block (by omega)
              have k1 : wr.cell? ⟨b3, off3 + i, none⟩ = some (.int .u8 y) := by rw [hc i hlt3, hy]
              obtain ⟨⟨u, k2⟩, k3, HS⟩ := fill_step HO.out.1 HO.out.2 HL.out.2.2.2.2 (by omega) (Nat.le_refl _) y (by rw [hy, HL.out.2.2.2.1, ← HL.out.1, ← HL.out.2.1]; exact get_post ps ds qs i)
              have HS' : Hid ((wr.setCell ⟨w2.heap.size, p + m + i, none⟩ (.int .u8 y)).ownsRow w2.heap.size 5 1 (.slice (some ⟨w2.heap.size, 0, none⟩) (p + m + q) (p + m + q)) (p + m + q) (mix .u8 zs (p + m + q) (p + m + (i + 1))) ∧ w2.grownBy (wr.setCell ⟨w2.heap.size, p + m + i, none⟩ (.int .u8 y)) none) := HS
              have hk4 : p + m + i < p + m + q := by omega
              clear HS hy hc
              go_wp2
              go_roundw
              case rel => exact ⟨i + 1, by omega, by go_num, HS'⟩
              case measure => simp [intOf]; omega
            · obtain rfl : q = i := by omega
              have o5 := HO.out.1
              rw [mix_full .u8 zs (p + m + q) HL.out.2.2.2.2] at o5
              obtain ⟨_, _, e, r5, _⟩ := Rd.of_owns o5
              simp only [Value.slice.injEq, true_and] at e
              obtain ⟨rfl, rfl⟩ := e
              have F5 : First (at_ zs) (p + s) (p + m + q) (p + r) := by
                refine first_shift (d := at_ ds) (n := m) ?_ (by omega) HF.out
                intro t ht
                show zs.getD (p + t) 0 = ds.getD t 0
                rw [HL.out.2.2.2.1, ← HL.out.1]
                exact (get_data ps ds qs t (by have := HL.out.2.1; omega)).symm
              have R5 : Hid (Rd .u8 wr (some ⟨w2.heap.size, 0, none⟩) (p + m + q) zs ∧ First (at_ zs) (p + s) (p + m + q) (p + r)) := ⟨r5, F5⟩
              have G5 : Hid (w.grownBy wr none) := grown_trans G2.out HO.out.2
              clear o5 r5 F5
              go_wp2_with fail
              refine (zz_end_at w2.heap.size 0 (p + m + q) (p + m + q) (p + s) (p + r) ((p : Int) + (s : Int)) ((p : Int) + (r : Int)) (by omega) (by omega) zs wr R5.out.1 (by omega) R5.out.2).mono ?_
              rintro e5 w5 ⟨rfl, rfl⟩
              go_wp2
              go_ret
              exact ⟨rfl, G5.out⟩

/-- The law, whatever the input. -/
theorem law_any (a0 a1 a3 : Option Addr) (p c0 m c1 q c3 : Nat) (s : Int) (ps ds qs : List Int) (w : World) (r0 : Rd .u8 w a0 p ps) (r1 : Rd .u8 w a1 m ds) (r3 : Rd .u8 w a3 q qs) :
    Calls Try.prog 3 #[.slice a0 p c0, .slice a1 m c1, .int .i64 s, .slice a3 q c3] w fun e w' => e = .returned (.bool true) ∧ w.grownBy w' none := by
  have fin : ∀ (x : Ending) (w' : World), (x = .returned (.bool true) ∧ w' = w) → (x = .returned (.bool true) ∧ w.grownBy w' none) := by
    rintro x w' ⟨rfl, rfl⟩
    exact ⟨rfl, grown_refl _ _⟩
  by_cases h : 1048576 < p + m + q
  · exact (law_long a0 a1 a3 p c0 m c1 q c3 s w h).mono fin
  by_cases h' : 262144 < p ∨ 524288 < m ∨ 262144 < q
  · exact (law_big a0 a1 a3 p c0 m c1 q c3 s w (by omega) h').mono fin
  by_cases h2 : s < 0 ∨ (m : Int) ≤ s
  · exact (law_out a0 a1 a3 p c0 m c1 q c3 s w (by omega) (by omega) (by omega) h2).mono fin
  obtain ⟨t, rfl⟩ := Int.eq_ofNat_of_zero_le (show 0 ≤ s by omega)
  obtain ⟨b1, off1, rfl, _⟩ := r1.block (by omega)
  exact law_main a0 a3 b1 off1 p c0 m c1 q c3 t ps ds qs w (by omega) (by omega) (by omega) (by omega) r0 r1 r3
end Go.Proofs.Qxb6623301a.Str
