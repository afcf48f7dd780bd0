/-
  THE FIRST QUOTE THAT NO ODD RUN OF BACKSLASHES STANDS BEFORE, found backwards (the run is counted at each quote) and forwards (each backslash skips what follows): plain functions on a text given as a function of places; no Go text in sight. By a prover.
-/
import Derived.WalkKit
namespace Go.Proofs.Qxb6623301a.Scan

/-- how many backslashes stand just before place r, at places after s -/
def run (d : Nat → Int) (s : Nat) : Nat → Nat
  | 0 => 0
  | r + 1 => if s < r ∧ d r = 92 then run d s r + 1 else 0

/-- a quote at r, after s, that is not escaped -/
def Q (d : Nat → Int) (s r : Nat) : Prop := s < r ∧ d r = 34 ∧ run d s r % 2 = 0

/-- the first of them, below n -/
def First (d : Nat → Int) (s n r : Nat) : Prop := r < n ∧ Q d s r ∧ ∀ t, t < r → ¬ Q d s t

theorem run_step (d : Nat → Int) (s r : Nat) : run d s (r + 1) = if s < r ∧ d r = 92 then run d s r + 1 else 0 := rfl
theorem run_hit (d : Nat → Int) (s r : Nat) (h : s < r) (h' : d r = 92) : run d s (r + 1) = run d s r + 1 := by rw [run_step, if_pos ⟨h, h'⟩]
theorem run_miss (d : Nat → Int) (s r : Nat) (h : ¬ (s < r ∧ d r = 92)) : run d s (r + 1) = 0 := by rw [run_step, if_neg h]
theorem run_start (d : Nat → Int) (s : Nat) : run d s (s + 1) = 0 := run_miss d s s (by omega)

/-- the places at which the forward scan stands: no odd run before them -/
theorem scan_step {d : Nat → Int} {s n r i : Nat} (hf : First d s n r) (hi : i ≤ r) (hne : d i ≠ 34) (h92 : d i ≠ 92) :
    i + 1 ≤ r ∧ run d s (i + 1) % 2 = 0 := by
  refine ⟨?_, by rw [run_miss d s i (fun h => h92 h.2)]⟩
  rcases Nat.lt_or_eq_of_le hi with h | h
  · omega
  · subst h; exact absurd hf.2.1.2.1 hne
theorem scan_skip {d : Nat → Int} {s n r i : Nat} (hf : First d s n r) (hs : s < i) (hi : i ≤ r) (he : run d s i % 2 = 0) (h92 : d i = 92) :
    i + 2 ≤ r ∧ run d s (i + 2) % 2 = 0 := by
  have e1 := run_hit d s i hs h92
  have hlt : i + 1 ≤ r := by
    rcases Nat.lt_or_eq_of_le hi with h | h
    · omega
    · subst h; have := hf.2.1.2.1; omega
  refine ⟨?_, ?_⟩
  · rcases Nat.lt_or_eq_of_le hlt with h | h
    · omega
    · have := hf.2.1.2.2
      rw [← h] at this
      omega
  · by_cases h : d (i + 1) = 92
    · rw [run_hit d s (i + 1) (by omega) h]; omega
    · rw [run_miss d s (i + 1) (fun k => h k.2)]
theorem scan_done {d : Nat → Int} {s n r i : Nat} (hf : First d s n r) (hs : s < i) (hi : i ≤ r) (he : run d s i % 2 = 0) (h34 : d i = 34) : i = r := by
  rcases Nat.lt_or_eq_of_le hi with h | h
  · exact absurd ⟨hs, h34, he⟩ (hf.2.2 i h)
  · exact h

/-- the text framed: p places before it -/
theorem run_shift (d d' : Nat → Int) (s p n : Nat) (h : ∀ t, t < n → d' (p + t) = d t) : ∀ r, r ≤ n → run d' (p + s) (p + r) = run d s r
  | 0, _ => by
    cases p with
    | zero => rfl
    | succ p => exact run_miss d' (p + 1 + s) p (by omega)
  | r + 1, hr => by
    have ih := run_shift d d' s p n h r (by omega)
    show run d' (p + s) (p + r + 1) = run d s (r + 1)
    rw [run_step, run_step, ih, h r (by omega)]
    by_cases c : s < r
    · simp [c]
    · simp [c]
theorem first_shift {d d' : Nat → Int} {s p n n' r : Nat} (h : ∀ t, t < n → d' (p + t) = d t) (hn : p + n ≤ n') (hf : First d s n r) : First d' (p + s) n' (p + r) := by
  have hr := hf.1
  refine ⟨by omega, ⟨by have := hf.2.1.1; omega, by rw [h r hr]; exact hf.2.1.2.1, by rw [run_shift d d' s p n h r (by omega)]; exact hf.2.1.2.2⟩, ?_⟩
  intro t ht hq
  obtain ⟨q1, q2, q3⟩ := hq
  obtain ⟨u, rfl⟩ : ∃ u, t = p + u := ⟨t - p, by omega⟩
  exact hf.2.2 u (by omega) ⟨by omega, by rw [← h u (by omega)]; exact q2, by rw [← run_shift d d' s p n h u (by omega)]; exact q3⟩
/-- one alone is the first -/
theorem first_one {d : Nat → Int} {s n r r' : Nat} (h : First d s n r) (h' : First d s n r') : r = r' := by
  rcases Nat.lt_trichotomy r r' with k | k | k
  · exact absurd h.2.1 (h'.2.2 r k)
  · exact k
  · exact absurd h'.2.1 (h.2.2 r' k)
end Go.Proofs.Qxb6623301a.Scan
