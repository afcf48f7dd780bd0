/-
  ONE BIT OF A 64-BIT WORD, set or cleared: plain numbers, no Go text in sight. By a prover.
-/
import Derived.WalkKit
import Derived.Laws.BitsAllLaws
namespace Go.Proofs.Qxb6623273a.Bits

/-- a 64-bit word -/
def Wd (x : Int) : Prop := 0 ≤ x ∧ x < 18446744073709551616

/-- the word with bit r alone -/
def one (r : Nat) : Int := ((2 ^ r : Nat) : Int)

/-- the word x with the bit b set (e) or cleared -/
def mk (e : Bool) (x b : Int) : Int := if e then bits .or .u64 x b else bits .andNot .u64 x b

/-! ### on natural numbers -/
def mkN (e : Bool) (x b : Nat) : Nat := if e then x ||| b else x &&& (18446744073709551615 - b)

theorem pow_lt {r : Nat} (h : r < 64) : 2 ^ r < 18446744073709551616 := by
  have := Nat.pow_lt_pow_right (a := 2) (by omega) h
  exact this

theorem tb_not (b t : Nat) (hb : b < 18446744073709551616) : (18446744073709551615 - b).testBit t = (decide (t < 64) && !b.testBit t) := by
  have h := Nat.testBit_two_pow_sub_succ (x := b) (n := 64) (by omega) t
  have e : 2 ^ 64 - (b + 1) = 18446744073709551615 - b := by omega
  rw [e] at h
  exact h
theorem tb_top (x t : Nat) (hx : x < 18446744073709551616) (ht : ¬ t < 64) : x.testBit t = false := by
  apply Nat.testBit_lt_two_pow
  have : 2 ^ 64 ≤ 2 ^ t := Nat.pow_le_pow_right (by omega) (by omega)
  omega

theorem tb_mk (e : Bool) (x r t : Nat) (hx : x < 18446744073709551616) (hr : r < 64) : (mkN e x (2 ^ r)).testBit t = if r = t then e else x.testBit t := by
  unfold mkN
  cases e
  · simp only [Bool.false_eq_true, if_false]
    rw [Nat.testBit_and, tb_not _ _ (pow_lt hr), Nat.testBit_two_pow]
    by_cases h : r = t
    · simp [h]
    · by_cases h6 : t < 64
      · simp [h, h6]
      · simp [h, tb_top x t hx h6]
  · simp only [if_true]
    rw [Nat.testBit_or, Nat.testBit_two_pow]
    by_cases h : r = t
    · simp [h]
    · simp [h]

theorem mkN_lt (e : Bool) (x r : Nat) (hx : x < 18446744073709551616) (hr : r < 64) : mkN e x (2 ^ r) < 18446744073709551616 := by
  unfold mkN
  cases e
  · exact Nat.and_lt_two_pow (n := 64) _ (Nat.lt_of_le_of_lt (Nat.sub_le _ _) (by omega))
  · exact Nat.or_lt_two_pow (n := 64) hx (pow_lt hr)

/-! ### from Go's operations to natural numbers -/
theorem one_wd {r : Nat} (h : r < 64) : Wd (one r) := ⟨Int.natCast_nonneg _, by unfold one; have := pow_lt h; omega⟩
theorem wrap_one {r : Nat} (h : r < 64) : IntKind.u64.wrap (2 ^ r) = one r := by
  have e : ((2 : Int) ^ r) = one r := by unfold one; simp
  rw [e, IntKind.wrap_u64]
  obtain ⟨a, b⟩ := one_wd h
  exact Int.emod_eq_of_lt a b
theorem mk_nat (e : Bool) (x r : Nat) (hx : x < 18446744073709551616) (hr : r < 64) : mk e (x : Int) (one r) = ((mkN e x (2 ^ r) : Nat) : Int) := by
  unfold mk mkN one
  cases e
  · simp only [Bool.false_eq_true, if_false]; exact u64_andNot_nat x (2 ^ r) hx (pow_lt hr)
  · simp only [if_true]; exact u64_or_nat x (2 ^ r) hx (pow_lt hr)
theorem mk_wd (e : Bool) (x : Int) (r : Nat) (hx : Wd x) (hr : r < 64) : Wd (mk e x (one r)) := by
  obtain ⟨h1, h2⟩ := hx
  obtain ⟨x, rfl⟩ := Int.eq_ofNat_of_zero_le h1
  rw [mk_nat e x r (by omega) hr]
  have := mkN_lt e x r (by omega) hr
  exact ⟨by omega, by omega⟩

/-- the bit reads as it was marked -/
theorem and_mk (e : Bool) (x : Int) (r : Nat) (hx : Wd x) (hr : r < 64) : bits .and .u64 (mk e x (one r)) (one r) = if e then one r else 0 := by
  obtain ⟨h1, h2⟩ := hx
  obtain ⟨x, rfl⟩ := Int.eq_ofNat_of_zero_le h1
  rw [mk_nat e x r (by omega) hr]
  unfold one
  rw [u64_and_nat _ _ (mkN_lt e x r (by omega) hr) (pow_lt hr)]
  have key : mkN e x (2 ^ r) &&& 2 ^ r = if e then 2 ^ r else 0 := by
    apply Nat.eq_of_testBit_eq
    intro t
    rw [Nat.testBit_and, tb_mk e x r t (by omega) hr, Nat.testBit_two_pow]
    cases e <;> by_cases h : r = t <;> simp [h]
  rw [key]
  cases e <;> simp
/-- the other bits are as they were -/
theorem not_mk (e : Bool) (x : Int) (r : Nat) (hx : Wd x) (hr : r < 64) : bits .andNot .u64 (mk e x (one r)) (one r) = bits .andNot .u64 x (one r) := by
  obtain ⟨h1, h2⟩ := hx
  obtain ⟨x, rfl⟩ := Int.eq_ofNat_of_zero_le h1
  rw [mk_nat e x r (by omega) hr]
  unfold one
  rw [u64_andNot_nat _ _ (mkN_lt e x r (by omega) hr) (pow_lt hr), u64_andNot_nat _ _ (by omega) (pow_lt hr)]
  have key : mkN e x (2 ^ r) &&& (18446744073709551615 - 2 ^ r) = x &&& (18446744073709551615 - 2 ^ r) := by
    apply Nat.eq_of_testBit_eq
    intro t
    rw [Nat.testBit_and, Nat.testBit_and, tb_mk e x r t (by omega) hr, tb_not _ _ (pow_lt hr), Nat.testBit_two_pow]
    by_cases h : r = t <;> simp [h]
  rw [key]
/-- the bit of a word -/
theorem and_bit (x r : Nat) (hr : r < 64) (hx : x < 18446744073709551616) : (bits .and .u64 (x : Int) (one r) != 0) = x.testBit r := by
  unfold one
  rw [u64_and_nat _ _ hx (pow_lt hr), Bool.eq_iff_iff]
  have e : x &&& 2 ^ r = if x.testBit r then 2 ^ r else 0 := by
    apply Nat.eq_of_testBit_eq
    intro t
    rw [Nat.testBit_and, Nat.testBit_two_pow]
    by_cases h : r = t
    · subst h; cases x.testBit r <;> simp
    · cases x.testBit r <;> simp [h]
  rw [e]
  cases hb : x.testBit r
  · simp
  · have := Nat.pow_pos (n := r) (a := 2) (by omega)
    simp only [if_true, bne_iff_ne, ne_eq, iff_true]
    omega
/-- marking back with the bit that stood there -/
theorem mk_back (e : Bool) (x : Int) (r : Nat) (hx : Wd x) (hr : r < 64) : mk (bits .and .u64 x (one r) != 0) (mk e x (one r)) (one r) = x := by
  obtain ⟨h1, h2⟩ := hx
  obtain ⟨x, rfl⟩ := Int.eq_ofNat_of_zero_le h1
  rw [and_bit x r hr (by omega), mk_nat e x r (by omega) hr, mk_nat _ _ r (mkN_lt e x r (by omega) hr) hr]
  congr 1
  apply Nat.eq_of_testBit_eq
  intro t
  rw [tb_mk _ _ r t (mkN_lt e x r (by omega) hr) hr, tb_mk e x r t (by omega) hr]
  by_cases h : r = t
  · subst h; simp
  · simp [h]
/-- two bits: the order of marking is all one -/
theorem mk_comm (e f : Bool) (x : Int) (r s : Nat) (hx : Wd x) (hr : r < 64) (hs : s < 64) (hne : r ≠ s) : mk f (mk e x (one r)) (one s) = mk e (mk f x (one s)) (one r) := by
  obtain ⟨h1, h2⟩ := hx
  obtain ⟨x, rfl⟩ := Int.eq_ofNat_of_zero_le h1
  rw [mk_nat e x r (by omega) hr, mk_nat f x s (by omega) hs, mk_nat _ _ s (mkN_lt e x r (by omega) hr) hs, mk_nat _ _ r (mkN_lt f x s (by omega) hs) hr]
  congr 1
  apply Nat.eq_of_testBit_eq
  intro t
  rw [tb_mk _ _ s t (mkN_lt e x r (by omega) hr) hs, tb_mk _ _ r t (by omega) hr, tb_mk _ _ r t (mkN_lt f x s (by omega) hs) hr, tb_mk _ _ s t (by omega) hs]
  by_cases h : r = t
  · by_cases h' : s = t
    · omega
    · simp [h, h']
  · simp [h]

/-- both bits of one word -/
def two (r s : Nat) : Int := ((2 ^ r ||| 2 ^ s : Nat) : Int)
theorem two_lt {r s : Nat} (hr : r < 64) (hs : s < 64) : 2 ^ r ||| 2 ^ s < 18446744073709551616 := Nat.or_lt_two_pow (n := 64) (pow_lt hr) (pow_lt hs)
theorem or_two {r s : Nat} (hr : r < 64) (hs : s < 64) : bits .or .u64 (one r) (one s) = two r s := by
  unfold one two
  exact u64_or_nat _ _ (pow_lt hr) (pow_lt hs)
theorem or_zero {r : Nat} (hr : r < 64) : bits .or .u64 0 (one r) = one r := by
  unfold one
  have := u64_or_nat 0 (2 ^ r) (by omega) (pow_lt hr)
  simpa using this
/-- the bits of a mark, as a number -/
def pick (e : Bool) (r : Nat) : Int := if e then one r else 0
def pick2 (e f : Bool) (r s : Nat) : Int := if e then (if f then two r s else one r) else (if f then one s else 0)
theorem and_two (e f : Bool) (x : Int) (r s : Nat) (hx : Wd x) (hr : r < 64) (hs : s < 64) (hne : r ≠ s) : bits .and .u64 (mk f (mk e x (one r)) (one s)) (two r s) = pick2 e f r s := by
  obtain ⟨h1, h2⟩ := hx
  obtain ⟨x, rfl⟩ := Int.eq_ofNat_of_zero_le h1
  rw [mk_nat e x r (by omega) hr, mk_nat _ _ s (mkN_lt e x r (by omega) hr) hs]
  unfold two
  rw [u64_and_nat _ _ (mkN_lt _ _ s (mkN_lt e x r (by omega) hr) hs) (two_lt hr hs)]
  have key : mkN f (mkN e x (2 ^ r)) (2 ^ s) &&& (2 ^ r ||| 2 ^ s) = if e then (if f then 2 ^ r ||| 2 ^ s else 2 ^ r) else (if f then 2 ^ s else 0) := by
    apply Nat.eq_of_testBit_eq
    intro t
    rw [Nat.testBit_and, tb_mk _ _ s t (mkN_lt e x r (by omega) hr) hs, tb_mk _ _ r t (by omega) hr, Nat.testBit_or, Nat.testBit_two_pow, Nat.testBit_two_pow]
    by_cases h : r = t
    · by_cases h' : s = t
      · omega
      · cases e <;> cases f <;> simp [h, h']
    · by_cases h' : s = t
      · cases e <;> cases f <;> simp [h, h']
      · cases e <;> cases f <;> simp [h, h']
  rw [key]
  unfold pick2 two one
  cases e <;> cases f <;> simp
theorem not_two (e f : Bool) (x : Int) (r s : Nat) (hx : Wd x) (hr : r < 64) (hs : s < 64) : bits .andNot .u64 (mk f (mk e x (one r)) (one s)) (two r s) = bits .andNot .u64 x (two r s) := by
  obtain ⟨h1, h2⟩ := hx
  obtain ⟨x, rfl⟩ := Int.eq_ofNat_of_zero_le h1
  rw [mk_nat e x r (by omega) hr, mk_nat _ _ s (mkN_lt e x r (by omega) hr) hs]
  unfold two
  rw [u64_andNot_nat _ _ (mkN_lt _ _ s (mkN_lt e x r (by omega) hr) hs) (two_lt hr hs), u64_andNot_nat _ _ (by omega) (two_lt hr hs)]
  congr 1
  apply Nat.eq_of_testBit_eq
  intro t
  rw [Nat.testBit_and, Nat.testBit_and, tb_mk _ _ s t (mkN_lt e x r (by omega) hr) hs, tb_mk _ _ r t (by omega) hr, tb_not _ _ (two_lt hr hs), Nat.testBit_or, Nat.testBit_two_pow, Nat.testBit_two_pow]
  by_cases h : r = t <;> by_cases h' : s = t <;> simp [h, h']
theorem and_none (x : Int) (hx : Wd x) : bits .and .u64 x 0 = 0 := by
  obtain ⟨h1, h2⟩ := hx
  rw [u64_and x 0 h1 h2 (by omega) (by omega)]; simp
/-- 'i & 63' on an int -/
theorem and63 (i : Int) : bits .and .i64 i 63 = i % 64 := by
  have h63 : (BitVec.ofInt 64 63).toNat = 2 ^ 6 - 1 := by decide
  have key : (BitVec.ofInt 64 i &&& BitVec.ofInt 64 63).toNat = (i % ((2 ^ 64 : Nat) : Int)).toNat % 2 ^ 6 := by
    rw [BitVec.toNat_and, BitVec.toNat_ofInt, h63, Nat.and_two_pow_sub_one_eq_mod]
  show IntKind.i64.wrap ((BitVec.ofInt 64 i &&& BitVec.ofInt 64 63).toNat : Nat) = i % 64
  rw [key, IntKind.wrap_i64]
  omega
end Go.Proofs.Qxb6623273a.Bits
