import Derived.Test.Qxb6623301aRows
import Derived.Test.Qxb6623301aKit
import Derived.Test.Qxb6623301aScan
import Derived.WalkLawsBesides
namespace Go.Proofs.Qxb6623301a.Str
open Go.RowKit Go.Proofs.Qxb6623301a.Kit Go.Proofs.Qxb6623301a.Scan

/-- the places of a list -/
def at_ (xs : List Int) (i : Nat) : Int := xs.getD i 0

/-! ### stringEnd -/
set_option maxHeartbeats 400000 in
theorem end_any (b off n c s r : Nat) (xs : List Int) (w : World) (hr : Rd .u8 w (some ⟨b, off, none⟩) n xs) (hn : n ≤ 2097152) (hf : First (at_ xs) s n r) :
    Calls Try.prog 7 #[.slice (some ⟨b, off, none⟩) n c, .int .i64 s] w fun e w' => e = .returned (.int .i64 r) ∧ w' = w := by
  have hs : s < n := by have := hf.1; have := hf.2.1.1; omega
  obtain ⟨_, _, e, _, hc⟩ := hr.block (by omega)
  simp only [Option.some.injEq, Addr.mk.injEq, and_true] at e
  obtain ⟨rfl, rfl⟩ := e
  have HC : Hid (∀ i, i < n → w.cell? ⟨b, off + i, none⟩ = some (.int .u8 (at_ xs i))) := hc
  have HF : Hid (First (at_ xs) s n r) := hf
  clear hc hr hf
  go_enter Try.func7, Try.ntmps7
  go_wp2
  go_loop [5] (fun t => ∃ i : Nat, s < i ∧ i ≤ r ∧ t = .int .i64 i ∧ run (at_ xs) s i % 2 = 0) (fun t => r - (intOf t).toNat)
  case atStart => exact ⟨s + 1, by omega, by have := HF.out.2.1.1; omega, by go_num, by rw [run_start]⟩
  case round =>
    obtain ⟨i, h1, h2, rfl, h3⟩ := hrel
    have hrn := HF.out.1
    obtain ⟨y, hy⟩ : ∃ y, y = at_ xs i := ⟨_, rfl⟩
    have k1 : w.cell? ⟨b, off + i, none⟩ = some (.int .u8 y) := by rw [hy]; exact HC.out i (by omega)
    have H3 : Hid (run (at_ xs) s i % 2 = 0 ∧ y = at_ xs i) := ⟨h3, hy⟩
    have hin : i < n := by omega
    clear h3 hy
    by_cases d1 : y = 34
    · subst d1
      have E : Hid (i = r) := scan_done HF.out h1 h2 H3.out.1 H3.out.2.symm
      go_wp2
      go_ret
      exact ⟨by rw [← E.out]; rfl, rfl⟩
    · have d1' : (y != 34) = true := by simpa using d1
      by_cases d2 : y = 92
      · have d2' : (y == 92) = true := by simpa using d2
        have e := scan_skip HF.out h1 h2 H3.out.1 (H3.out.2.symm.trans d2)
        have e1 := e.1
        have E2 : Hid (run (at_ xs) s (i + 2) % 2 = 0) := e.2
        clear e d1 d2
        go_wp2
        go_round
        case rel => exact ⟨i + 2, by omega, e1, by go_num, E2.out⟩
        case measure => simp [intOf]; omega
      · have d2' : (y == 92) = false := by simpa using d2
        have e := scan_step HF.out h2 (fun k => d1 (H3.out.2.trans k)) (fun k => d2 (H3.out.2.trans k))
        have e1 := e.1
        have E2 : Hid (run (at_ xs) s (i + 1) % 2 = 0) := e.2
        clear e d1 d2
        go_wp2
        go_round
        case rel => exact ⟨i + 1, by omega, e1, by go_num, E2.out⟩
        case measure => simp [intOf]; omega

set_option maxHeartbeats 400000 in
theorem zz_end (b off n c s r : Nat) (xs : List Int) (w : World) (hr : Rd .u8 w (some ⟨b, off, none⟩) n xs) (hn : n ≤ 2097152) (hf : First (at_ xs) s n r) :
    Calls Try.prog 6 #[.slice (some ⟨b, off, none⟩) n c, .int .i64 s] w fun e w' => e = .returned (.int .i64 r) ∧ w' = w := by
  have hm := end_any b off n c s r xs w hr hn hf
  clear hr hf
  go_enter Try.func6, Try.ntmps6
  go_wp2_with (go_at_call 7; refine hm.mono ?_; rintro e' w' ⟨rfl, rfl⟩)
  go_ret
  exact ⟨rfl, rfl⟩

/-! ### zzCloseAt -/
theorem no_first {d : Nat → Int} {s n r : Nat} (h : ∀ t, t < r → ¬ Q d s t) (hr : n ≤ r) : ∀ t, ¬ First d s n t :=
  fun t ht => h t (by have := ht.1; omega) ht.2.1
set_option maxHeartbeats 1000000 in
theorem close_any (b off n c s : Nat) (xs : List Int) (w : World) (hr : Rd .u8 w (some ⟨b, off, none⟩) n xs) (hn : n ≤ 2097152) (hs : s < n) :
    Calls Try.prog 5 #[.slice (some ⟨b, off, none⟩) n c, .int .i64 s] w fun e w' => ((e = .returned (.int .i64 (-1)) ∧ ∀ r, ¬ First (at_ xs) s n r) ∨ ∃ r : Nat, e = .returned (.int .i64 r) ∧ First (at_ xs) s n r) ∧ w' = w := by
  obtain ⟨_, _, e, _, hc⟩ := hr.block (by omega)
  simp only [Option.some.injEq, Addr.mk.injEq, and_true] at e
  obtain ⟨rfl, rfl⟩ := e
  have HC : Hid (∀ i, i < n → w.cell? ⟨b, off + i, none⟩ = some (.int .u8 (at_ xs i))) := hc
  clear hc hr
  go_enter Try.func5, Try.ntmps5
  go_wp2
  go_loop [5] (fun t => ∃ r : Nat, s < r ∧ r ≤ n ∧ t = .int .i64 r ∧ ∀ u, u < r → ¬ Q (at_ xs) s u) (fun t => n - (intOf t).toNat)
  case atStart => exact ⟨s + 1, by omega, by omega, by go_num, fun u hu hq => by have := hq.1; omega⟩
  case round =>
    obtain ⟨r, h1, h2, rfl, h3⟩ := hrel
    have H3 : Hid (∀ u, u < r → ¬ Q (at_ xs) s u) := h3
    clear h3
    by_cases hlt : r < n
    · obtain ⟨y, hy⟩ : ∃ y, y = at_ xs r := ⟨_, rfl⟩
      have k1 : w.cell? ⟨b, off + r, none⟩ = some (.int .u8 y) := by rw [hy]; exact HC.out r hlt
      have HY : Hid (y = at_ xs r) := hy
      clear hy
      by_cases d1 : y = 34
      · subst d1
        go_wp2
        go_loop [6, 7] (fun tk tj => ∃ k j : Nat, s ≤ j ∧ j < r ∧ k ≤ n ∧ tk = .int .i64 k ∧ tj = .int .i64 j ∧ Hid (j + 1 + k = r ∧ run (at_ xs) s r = k + run (at_ xs) s (j + 1))) (fun _ tj => (intOf tj).toNat)
        case atStart =>
          refine ⟨0, r - 1, by omega, by omega, by omega, rfl, by go_num, ?_⟩
          have e : r - 1 + 1 = r := by omega
          exact ⟨by omega, by rw [e]; omega⟩
        case round =>
          obtain ⟨k, j, h4, h5, h6, rfl, rfl, HJ⟩ := hrel
          have hjn : j < n := by omega
          obtain ⟨z, hz⟩ : ∃ z, z = at_ xs j := ⟨_, rfl⟩
          have k2 : w.cell? ⟨b, off + j, none⟩ = some (.int .u8 z) := by rw [hz]; exact HC.out j hjn
          have HZ : Hid (z = at_ xs j) := hz
          clear hz
          by_cases hgo : s < j ∧ z = 92
          · obtain ⟨hgo1, hgo2⟩ := hgo
            have g2 : (z == 92) = true := by simpa using hgo2
            have E : Hid (j - 1 + 1 + (k + 1) = r ∧ run (at_ xs) s r = k + 1 + run (at_ xs) s (j - 1 + 1) ∧ k + 1 ≤ n) := by
              have e1 := HJ.out.1
              have e2 := HJ.out.2
              rw [run_hit _ s j hgo1 (HZ.out.symm.trans hgo2)] at e2
              have e3 : j - 1 + 1 = j := by omega
              exact ⟨by omega, by rw [e3]; omega, by omega⟩
            clear hgo2
            go_wp2
            go_round
            case rel => exact ⟨k + 1, j - 1, by omega, by omega, E.out.2.2, by go_num, by go_num, ⟨E.out.1, E.out.2.1⟩⟩
            case measure => simp [intOf]; omega
          · have E : Hid (run (at_ xs) s r = k) := by
              have e2 := HJ.out.2
              rw [run_miss _ s j (fun h => hgo ⟨h.1, HZ.out.trans h.2⟩)] at e2
              exact e2
            by_cases hp : k % 2 = 0
            · have p1 : ((k : Int) % 2 == 0) = true := by simp; omega
              have F : Hid (First (at_ xs) s n r) := ⟨hlt, ⟨h1, HY.out.symm, by rw [E.out]; exact hp⟩, H3.out⟩
              clear hp
              by_cases hg1 : s < j
              · have g2 : (z == 92) = false := by simp; exact fun h => hgo ⟨hg1, h⟩
                clear hgo
                go_wp2
                go_ret
                exact ⟨.inr ⟨r, rfl, F.out⟩, rfl⟩
              · clear hgo
                go_wp2
                go_ret
                exact ⟨.inr ⟨r, rfl, F.out⟩, rfl⟩
            · have p1 : ((k : Int) % 2 == 0) = false := by simp; omega
              have E2 : Hid (∀ u, u < r + 1 → ¬ Q (at_ xs) s u) := fun u hu hq => by
                rcases Nat.lt_succ_iff_lt_or_eq.1 hu with k | k
                · exact H3.out u k hq
                · subst k; have := hq.2.2; rw [E.out] at this; exact hp this
              clear hp
              by_cases hg1 : s < j
              · have g2 : (z == 92) = false := by simp; exact fun h => hgo ⟨hg1, h⟩
                clear hgo
                go_wp2
                go_round
                case rel => exact ⟨r + 1, by omega, by omega, by go_num, E2.out⟩
                case measure => simp [intOf]; omega
              · clear hgo
                go_wp2
                go_round
                case rel => exact ⟨r + 1, by omega, by omega, by go_num, E2.out⟩
                case measure => simp [intOf]; omega
      · have d1' : (y == 34) = false := by simpa using d1
        have E2 : Hid (∀ u, u < r + 1 → ¬ Q (at_ xs) s u) := fun u hu hq => by
          rcases Nat.lt_succ_iff_lt_or_eq.1 hu with k | k
          · exact H3.out u k hq
          · subst k; exact d1 (HY.out.trans hq.2.1)
        clear d1
        go_wp2
        go_round
        case rel => exact ⟨r + 1, by omega, by omega, by go_num, E2.out⟩
        case measure => simp [intOf]; omega
    · go_wp2
      go_ret
      exact ⟨.inl ⟨rfl, no_first H3.out (by omega)⟩, rfl⟩
end Go.Proofs.Qxb6623301a.Str
