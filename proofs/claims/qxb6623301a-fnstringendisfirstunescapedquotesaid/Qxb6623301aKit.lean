/-
  SLICES OF INTEGERS AS LISTS: what a slice that is read reads as (Rd), what a slice that the call made owns (the library's ownsRow), and how both outlive later calls (grownBy). No Go text in sight. By a prover.
-/
import Derived.WalkKit
import Derived.ProofKit
import Derived.OpenShut
import Derived.WalkSpells
import Derived.Deep.Draws
namespace Go.Proofs.Qxb6623301a.Kit
open Go.RowKit

def vals (k : IntKind) (xs : List Int) : List Value := xs.map (Value.int k)
theorem vals_length (k : IntKind) (xs : List Int) : (vals k xs).length = xs.length := by simp [vals]
theorem vals_get (k : IntKind) (xs : List Int) (i : Nat) (h : i < xs.length) : (vals k xs)[i]? = some (.int k (xs.getD i 0)) := by
  simp [vals, List.getD, h]

/-- the slice at a, of n elements, reads xs -/
def Rd (k : IntKind) (w : World) (a : Option Addr) (n : Nat) (xs : List Int) : Prop :=
  xs.length = n ∧ (n = 0 ∨ ∃ b off, a = some ⟨b, off, none⟩ ∧ ∀ i, i < n → w.cell? ⟨b, off + i, none⟩ = some (.int k (xs.getD i 0)))

variable {k : IntKind} {w w' : World} {a : Option Addr} {n : Nat} {xs : List Int}

theorem Rd.block (h : Rd k w a n xs) (hn : 0 < n) : ∃ b off, a = some ⟨b, off, none⟩ ∧ b < w.heap.size ∧ ∀ i, i < n → w.cell? ⟨b, off + i, none⟩ = some (.int k (xs.getD i 0)) := by
  rcases h.2 with h0 | ⟨b, off, e, hc⟩
  · omega
  · exact ⟨b, off, e, World.block_lt_of_cell? w _ (hc 0 hn), hc⟩

theorem Rd.grown {row : Option Nat} (h : Rd k w a n xs) (hg : w.grownBy w' row) (hne : ∀ b off, a = some ⟨b, off, none⟩ → some b ≠ row) : Rd k w' a n xs := by
  refine ⟨h.1, ?_⟩
  rcases h.2 with h0 | ⟨b, off, e, hc⟩
  · exact .inl h0
  · refine .inr ⟨b, off, e, fun i hi => hg.cell (hc i hi) (hne b off e)⟩

theorem Rd.below (h : Rd k w a n xs) (hb : Below w.heap.size w w') : Rd k w' a n xs := by
  refine ⟨h.1, ?_⟩
  rcases h.2 with h0 | ⟨b, off, e, hc⟩
  · exact .inl h0
  · refine .inr ⟨b, off, e, fun i hi => ?_⟩
    have hlt := World.block_lt_of_cell? w _ (hc i hi)
    exact (hb.cell (p := ⟨b, off + i, none⟩) hlt).trans (hc i hi)

/-- what the row's step hands over, as a reading -/
theorem Rd.of_cells {x : Addr} {zs : List Int} {len : Nat} (hl : len ≤ zs.length) (hc : ∀ i, i < zs.length → w.cell? (x.add i) = some (.int k (zs.getD i 0))) :
    Rd k w (some x) len (zs.take len) := by
  refine ⟨by simp; omega, ?_⟩
  by_cases h0 : len = 0
  · exact .inl h0
  · obtain ⟨b, off, rfl, hc'⟩ := ints_at hc (by omega)
    refine .inr ⟨b, off, rfl, fun i hi => ?_⟩
    rw [hc' i (by omega)]
    simp [List.getD, hi]

theorem Rd.nil (k : IntKind) (w : World) : Rd k w none 0 [] := ⟨rfl, .inl rfl⟩

/-- a part of what is read -/
theorem Rd.take (h : Rd k w a n xs) {m : Nat} (hm : m ≤ n) : Rd k w a m (xs.take m) := by
  refine ⟨by have := h.1; simp; omega, ?_⟩
  rcases h.2 with h0 | ⟨b, off, e, hc⟩
  · exact .inl (by omega)
  · refine .inr ⟨b, off, e, fun i hi => ?_⟩
    rw [hc i (by omega)]
    simp [List.getD, hi]
theorem Rd.drop {b off : Nat} (h : Rd k w (some ⟨b, off, none⟩) n xs) {m : Nat} (hm : m ≤ n) : Rd k w (some ⟨b, off + m, none⟩) (n - m) (xs.drop m) := by
  refine ⟨by have := h.1; simp; omega, ?_⟩
  rcases h.2 with h0 | ⟨b', off', e, hc⟩
  · exact .inl (by omega)
  · simp only [Option.some.injEq, Addr.mk.injEq, and_true] at e
    obtain ⟨rfl, rfl⟩ := e
    refine .inr ⟨b, off + m, rfl, fun i hi => ?_⟩
    rw [Nat.add_assoc, hc (m + i) (by omega)]
    simp [List.getD]
theorem Rd.zero (h : xs = []) : Rd k w a 0 xs := by subst h; exact ⟨rfl, .inl rfl⟩

/-- what is owned is read -/
theorem Rd.of_owns {base : Nat} {e : TypeId} {v : Value} (h : w.ownsRow base e 1 v n (vals k xs)) :
    ∃ a c, v = .slice a n c ∧ Rd k w a n xs ∧ (a = none → n = 0 ∧ c = 0) ∧ (∀ b off, a = some ⟨b, off, none⟩ → v.ownBlock = some b ∧ base ≤ b ∧ b < w.heap.size) ∧ n ≤ c := by
  have hl : xs.length = n := by have := h.1; simpa [vals] using this
  rcases h.2 with ⟨rfl, rfl⟩ | ⟨g, cap, cur, rfl, hb, hg, hnc, hcm, hcs, htake⟩
  · exact ⟨none, 0, rfl, ⟨hl, .inl rfl⟩, fun _ => ⟨rfl, rfl⟩, fun b off e => by simp at e, Nat.le_refl _⟩
  · refine ⟨some ⟨g, 0, none⟩, cap, rfl, ⟨hl, .inr ⟨g, 0, rfl, fun i hi => ?_⟩⟩, fun e => by simp at e, fun b off e => ?_, hnc⟩
    · have hown : w.ownsRow base _ 1 (.slice (some ⟨g, 0, none⟩) n cap) n (vals k xs) := h
      rw [Nat.zero_add, hown.cellAt i (by omega)]
      exact vals_get k xs i (by omega)
    · simp only [Option.some.injEq, Addr.mk.injEq, and_true] at e
      obtain ⟨rfl, rfl⟩ := e
      exact ⟨rfl, hb, (Array.getElem?_eq_some_iff.1 hg).1⟩

theorem vals_append (k : IntKind) (xs ys : List Int) : vals k xs ++ vals k ys = vals k (xs ++ ys) := by simp [vals]
theorem vals_one (k : IntKind) (xs : List Int) : ∀ u ∈ vals k xs, u.oneCell' = true := ints_oneCell k xs
theorem Rd.cells {ad : Addr} (h : Rd k w (some ad) n xs) : ∀ j u, (vals k xs)[j]? = some u → w.cell? (ad.add j) = some u := by
  intro j u hu
  have hj : j < xs.length := by have := (List.getElem?_eq_some_iff.1 hu).1; simpa [vals] using this
  obtain ⟨b, off, e, _, hc⟩ := h.block (by have := h.1; omega)
  obtain rfl := Option.some.inj e
  rw [vals_get k xs j hj] at hu
  rw [Addr.add_lit, hc j (by have := h.1; omega)]
  exact hu

/-! ### worlds -/
theorem grown_refl (w : World) (row : Option Nat) : w.grownBy w row := ⟨rfl, rfl, rfl, Nat.le_refl _, fun _ _ _ => rfl⟩
theorem grown_drewN (w : World) (n : Nat) (row : Option Nat) : w.grownBy (w.drewN n) row := ⟨rfl, rfl, rfl, Nat.le_refl _, fun _ _ _ => rfl⟩
theorem grown_trans {u v w : World} {row : Option Nat} (h : u.grownBy v row) (j : v.grownBy w row) : u.grownBy w row :=
  ⟨j.os.trans h.os, j.tape.trans h.tape, j.output.trans h.output, Nat.le_trans h.size j.size, fun k hk hr => (j.block k (Nat.lt_of_lt_of_le hk h.size) hr).trans (h.block k hk hr)⟩
/-- a write to a block that did not lie there is no change of what lay there -/
theorem grown_fresh {u v w : World} {row : Option Nat} (h : u.grownBy v none) (j : v.grownBy w row) (hr : ∀ g, row = some g → u.heap.size ≤ g) : u.grownBy w none :=
  ⟨j.os.trans h.os, j.tape.trans h.tape, j.output.trans h.output, Nat.le_trans h.size j.size, fun k hk _ => (j.block k (Nat.lt_of_lt_of_le hk h.size) (fun e => by have := hr k e.symm; omega)).trans (h.block k hk (by simp))⟩
theorem grown_more {u v : World} (h : u.grownBy v none) (row : Option Nat) : u.grownBy v row :=
  ⟨h.os, h.tape, h.output, h.size, fun k hk _ => h.block k hk (by simp)⟩
theorem grown_below {u v : World} (h : u.grownBy v none) : Below u.heap.size u v := ⟨h.os, h.tape, h.output, h.size, fun k hk => h.block k hk (by simp)⟩
theorem grown_of_below {u v : World} (h : Below u.heap.size u v) : u.grownBy v none := ⟨h.os, h.tape, h.output, h.size, fun k hk _ => h.block k hk⟩

/-! ### a row that is being filled: the first i cells are written, the rest are as they were made -/
def mix (k : IntKind) (xs : List Int) (n i : Nat) : List Value := vals k (xs.take i) ++ List.replicate (n - i) (.int k 0)
theorem mix_zero (k : IntKind) (xs : List Int) (n : Nat) : mix k xs n 0 = List.replicate n (.int k 0) := by simp [mix, vals]
theorem mix_full (k : IntKind) (xs : List Int) (n : Nat) (h : xs.length = n) : mix k xs n n = vals k xs := by simp [mix, ← h]
theorem mix_length (k : IntKind) (xs : List Int) (n i : Nat) (h : xs.length = n) (hi : i ≤ n) : (mix k xs n i).length = n := by
  simp [mix, vals]; omega
theorem mix_set (k : IntKind) (xs : List Int) (n i : Nat) (h : xs.length = n) (hi : i < n) : (mix k xs n i).set i (.int k (xs.getD i 0)) = mix k xs n (i + 1) := by
  have e : (vals k (xs.take i)).length = i := by simp [vals]; omega
  have e2 : n - i = (n - (i + 1)) + 1 := by omega
  unfold mix
  have e3 : xs.getD i 0 = xs[i] := by simp [List.getD, show i < xs.length by omega]
  rw [List.set_append_right _ _ (by omega), e, Nat.sub_self, e2, List.replicate_succ, List.set_cons_zero, List.take_succ_eq_append_getElem (by omega), e3]
  simp only [vals, List.map_append, List.map_cons, List.map_nil, List.append_assoc, List.cons_append, List.nil_append]
theorem made_mix (k : IntKind) (xs : List Int) (n : Nat) : (madeCells (Value.int k 0).cells (n * 1)).toList = mix k xs n 0 := by
  rw [mix_zero, Nat.mul_one]
  exact toList_madeCells_one (.int k 0) n
end Go.Proofs.Qxb6623301a.Kit
