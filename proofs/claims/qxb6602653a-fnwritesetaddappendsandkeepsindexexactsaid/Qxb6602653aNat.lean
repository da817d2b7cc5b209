/-
  Plain laws on numbers for the probe: no Go in sight.
-/
import Derived.Laws.BitsAllLaws
import Derived.Laws.Bits64
namespace Go.Proofs.Qxb6602653a

theorem andNot_nat (s : Nat) (h : s < 18446744073709551616) : s &&& (18446744073709551615 - 4294967295) = s / 4294967296 * 4294967296 := by
  have hm : (18446744073709551615 - 4294967295 : Nat) = (2 ^ 32 - 1) <<< 32 := by decide
  have hs : s / 4294967296 * 4294967296 = (s >>> 32) <<< 32 := by
    rw [Nat.shiftRight_eq_div_pow, Nat.shiftLeft_eq]
  rw [hm, hs]
  apply Nat.eq_of_testBit_eq
  intro i
  simp only [Nat.testBit_and, Nat.testBit_shiftLeft, Nat.testBit_shiftRight, Nat.testBit_two_pow_sub_one]
  by_cases h1 : 32 ≤ i
  · rw [show 32 + (i - 32) = i by omega]
    by_cases h2 : i - 32 < 32
    · simp [h1, h2]
    · have : s.testBit i = false := by
        apply Nat.testBit_lt_two_pow
        refine Nat.lt_of_lt_of_le h ?_
        rw [show (18446744073709551616 : Nat) = 2 ^ 64 by decide]
        exact Nat.pow_le_pow_right (by omega) (by omega)
      simp [this]
  · simp [h1]

theorem bits_andNot (s : Nat) (h : s < 18446744073709551616) : bits .andNot .u64 (s : Int) 4294967295 = ((s / 4294967296 * 4294967296 : Nat) : Int) := by
  have := u64_andNot_nat s 4294967295 h (by omega)
  rw [andNot_nat s h] at this
  exact this

theorem bits_low (s : Nat) (h : s < 18446744073709551616) : bits .and .u64 (s : Int) 4294967295 = ((s % 4294967296 : Nat) : Int) := by
  have := u64_and_nat s 4294967295 h (by omega)
  rw [nat_mask32 s] at this
  exact this

/-- The mask of a table of 2^L slots. -/
theorem bits_mask (s n L : Nat) (h : s < 18446744073709551616) (hn : n = 2 ^ L) (hb : n ≤ 18446744073709551616) : bits .and .u64 (s : Int) ((n : Int) - 1) = ((s % n : Nat) : Int) := by
  have hp : 0 < n := by rw [hn]; exact Nat.two_pow_pos L
  have := u64_and_nat s (n - 1) h (by omega)
  rw [show ((n - 1 : Nat) : Int) = (n : Int) - 1 by omega] at this
  rw [this]
  subst hn
  rw [Nat.and_two_pow_sub_one_eq_mod]


/-- The word that a slot is given. -/
theorem slot_word (H k : Nat) (hH : H < 18446744073709551616) (hk : k < 1048576) :
    ∃ v : Nat, bits .or .u64 (bits .andNot .u64 (H : Int) 4294967295) ((k : Int) + 1) = (v : Int) ∧ v < 18446744073709551616 ∧ v / 4294967296 = H / 4294967296 ∧ v % 4294967296 = k + 1 := by
  refine ⟨H / 4294967296 * 4294967296 + (k + 1), ?_, by omega, by omega, by omega⟩
  rw [bits_andNot H hH]
  have := u64_or_nat (H / 4294967296 * 4294967296) (k + 1) (by omega) (by omega)
  rw [nat_join 32 (H / 4294967296 * 4294967296) (k + 1) (by rw [show (2 : Nat) ^ 32 = 4294967296 by decide]; omega) (by rw [show (2 : Nat) ^ 32 = 4294967296 by decide]; omega)] at this
  exact this

/-! ### A walk round a ring of n places -/
theorem ring_next (H e n : Nat) : ((H + e) % n + 1) % n = (H + (e + 1)) % n := by
  rw [← Nat.add_assoc, Nat.mod_add_mod]

/-- The way still to go. -/
theorem ring_left (H d e n : Nat) (he : e ≤ d) (hd : d < n) : ((H + d) % n + n - (H + e) % n) % n = d - e := by
  have h1 : (H + d) % n = ((H + e) % n + (d - e)) % n := by
    rw [Nat.mod_add_mod, show H + e + (d - e) = H + d by omega]
  have hlt : (H + e) % n < n := Nat.mod_lt _ (by omega)
  generalize (H + e) % n = a at h1 hlt
  rw [h1]
  by_cases hc : a + (d - e) < n
  · rw [Nat.mod_eq_of_lt hc, show a + (d - e) + n - a = (d - e) + n by omega, Nat.add_mod_right, Nat.mod_eq_of_lt (by omega)]
  · have : (a + (d - e)) % n = a + (d - e) - n := by
      rw [Nat.mod_eq_sub_mod (by omega), Nat.mod_eq_of_lt (by omega)]
    rw [this, show a + (d - e) - n + n - a = d - e by omega, Nat.mod_eq_of_lt (by omega)]

/-- Where a probe stops. -/
def Stop (sf : Nat → Nat) (kf : Nat → ByteArray) (H : Nat) (K : ByteArray) (j : Nat) : Prop :=
  sf j = 0 ∨ (sf j / 4294967296 = H / 4294967296 ∧ kf (sf j % 4294967296 - 1) = K)

end Go.Proofs.Qxb6602653a
