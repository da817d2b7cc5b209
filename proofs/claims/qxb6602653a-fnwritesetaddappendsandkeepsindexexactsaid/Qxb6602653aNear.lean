/-
  Plain laws for the nearest stop: no Go in sight.
-/
import Derived.Test.Qxb6602653aPlace
namespace Go.Proofs.Qxb6602653a

theorem i64_and_nat (a b : Nat) (ha : a ≤ 1048576) (hb : b ≤ 1048576) : bits .and .i64 (a : Int) (b : Int) = ((a &&& b : Nat) : Int) := by
  have h1 : (BitVec.ofInt 64 (a : Int)).toNat = a := ofInt_u64 a (by omega)
  have h2 : (BitVec.ofInt 64 (b : Int)).toNat = b := ofInt_u64 b (by omega)
  have h3 : a &&& b ≤ a := Nat.and_le_left
  have h4 : ((BitVec.ofInt 64 (a : Int)) &&& (BitVec.ofInt 64 (b : Int))).toNat = a &&& b := by rw [BitVec.toNat_and, h1, h2]
  have h5 : bits .and .i64 (a : Int) (b : Int) = IntKind.i64.wrap ((((BitVec.ofInt 64 (a : Int)) &&& (BitVec.ofInt 64 (b : Int))).toNat : Nat) : Int) := rfl
  rw [h5, h4]
  generalize a &&& b = x at h3
  simp [IntKind.wrap, IntKind.bits, IntKind.signed]
  omega

/-- A number that shares no bit with the one before it is a power of two. -/
theorem pow_of_and (n : Nat) (h0 : 0 < n) (h : n &&& (n - 1) = 0) : ∃ L, n = 2 ^ L := by
  induction n using Nat.strongRecOn with
  | _ n ih =>
    by_cases h1 : n = 1
    · exact ⟨0, h1⟩
    · have hd : (n &&& (n - 1)) / 2 = n / 2 &&& (n - 1) / 2 := by
        have := Nat.shiftRight_and_distrib (a := n) (b := n - 1) (i := 1)
        simpa [Nat.shiftRight_eq_div_pow] using this
      rw [h] at hd
      by_cases hp : n % 2 = 0
      · have e : (n - 1) / 2 = n / 2 - 1 := by omega
        rw [e] at hd
        obtain ⟨L, hL⟩ := ih (n / 2) (by omega) (by omega) (by simpa using hd.symm)
        refine ⟨L + 1, ?_⟩
        rw [Nat.pow_succ]; omega
      · have e : (n - 1) / 2 = n / 2 := by omega
        rw [e, Nat.and_self] at hd
        omega

/-- How many steps forward j lies from H's home. -/
def dist (H n j : Nat) : Nat := (j + n - H % n) % n
theorem dist_lt (H n j : Nat) (h : 0 < n) : dist H n j < n := Nat.mod_lt _ h
theorem dist_at (H n j : Nat) (hj : j < n) : (H + dist H n j) % n = j := by
  unfold dist
  have hlt : H % n < n := Nat.mod_lt _ (by omega)
  rw [Nat.add_mod, Nat.mod_mod, ← Nat.add_mod]
  rw [← Nat.mod_add_mod, show H % n + (j + n - H % n) = j + n by omega, Nat.add_mod_right, Nat.mod_eq_of_lt hj]
theorem dist_of (H n e : Nat) (he : e < n) : dist H n ((H + e) % n) = e := by
  have := ring_left H e 0 n (Nat.zero_le _) he
  simpa [dist] using this

theorem dist_bits (H k n L hm : Nat) (hk : k < n) (hn : n = 2 ^ L) (hb : n ≤ 1048576) (hh : H % n = hm) :
    bits .and .u64 (IntKind.u64.wrap ((k : Int) - (hm : Int))) ((n : Int) - 1) = ((dist H n k : Nat) : Int) := by
  have hmn : hm < n := by rw [← hh]; exact Nat.mod_lt _ (by omega)
  have hL : L ≤ 20 := by
    rcases Nat.lt_or_ge 20 L with h | h
    · have : 2 ^ 21 ≤ 2 ^ L := Nat.pow_le_pow_right (by omega) h
      rw [← hn] at this
      have e : (2 : Nat) ^ 21 = 2097152 := by decide
      omega
    · exact h
  have hq : 18446744073709551616 = n * 2 ^ (64 - L) := by
    rw [hn, ← Nat.pow_add, show L + (64 - L) = 64 by omega]
  unfold dist
  rw [hh, IntKind.wrap_u64]
  by_cases hc : hm ≤ k
  · have e1 : ((k : Int) - (hm : Int)) % 18446744073709551616 = ((k - hm : Nat) : Int) := by omega
    rw [e1, bits_mask (k - hm) n L (by omega) hn (by omega), show k + n - hm = (k - hm) + n by omega, Nat.add_mod_right]
  · have e1 : ((k : Int) - (hm : Int)) % 18446744073709551616 = ((18446744073709551616 - (hm - k) : Nat) : Int) := by omega
    rw [e1, bits_mask (18446744073709551616 - (hm - k)) n L (by omega) hn (by omega)]
    have hq1 : 1 ≤ 2 ^ (64 - L) := Nat.two_pow_pos _
    generalize 2 ^ (64 - L) = q at hq hq1
    have e2 : 18446744073709551616 - (hm - k) = (n - (hm - k)) + n * (q - 1) := by
      rw [hq]
      obtain ⟨q', rfl⟩ : ∃ q', q = q' + 1 := ⟨q - 1, by omega⟩
      rw [Nat.add_sub_cancel, Nat.mul_add, Nat.mul_one]
      omega
    rw [e2, Nat.add_mul_mod_self_left, show k + n - hm = n - (hm - k) by omega]

/-- What the loop knows of the nearest stop among the first k slots. -/
def Best (sf : Nat → Nat) (kf : Nat → ByteArray) (H : Nat) (K : ByteArray) (n k : Nat) (b : Nat) : Prop :=
  b < k ∧ Stop sf kf H K b ∧ ∀ j, j < k → Stop sf kf H K j → dist H n b ≤ dist H n j

theorem Best.first {sf : Nat → Nat} {kf : Nat → ByteArray} {H : Nat} {K : ByteArray} {n k : Nat} (hno : ∀ j, j < k → ¬ Stop sf kf H K j) (hs : Stop sf kf H K k) : Best sf kf H K n (k + 1) k := by
  refine ⟨by omega, hs, fun j hj h => ?_⟩
  by_cases e : j = k
  · subst e; exact Nat.le_refl _
  · exact absurd h (hno j (by omega))
theorem Best.next {sf : Nat → Nat} {kf : Nat → ByteArray} {H : Nat} {K : ByteArray} {n k b : Nat} (h : Best sf kf H K n k b) (hs : Stop sf kf H K k) (hd : dist H n k < dist H n b) : Best sf kf H K n (k + 1) k := by
  refine ⟨by omega, hs, fun j hj hj' => ?_⟩
  by_cases e : j = k
  · subst e; exact Nat.le_refl _
  · have := h.2.2 j (by omega) hj'
    omega
theorem Best.stay {sf : Nat → Nat} {kf : Nat → ByteArray} {H : Nat} {K : ByteArray} {n k b : Nat} (h : Best sf kf H K n k b) (hd : Stop sf kf H K k → dist H n b ≤ dist H n k) : Best sf kf H K n (k + 1) b := by
  refine ⟨by have := h.1; omega, h.2.1, fun j hj hj' => ?_⟩
  by_cases e : j = k
  · subst e; exact hd hj'
  · exact h.2.2 j (by omega) hj'

/-- The nearest stop is where the probe stops first. -/
theorem Best.probe {sf : Nat → Nat} {kf : Nat → ByteArray} {H : Nat} {K : ByteArray} {n b : Nat} (h : Best sf kf H K n n b) : dist H n b < n ∧ (H + dist H n b) % n = b ∧ ∀ e, e < dist H n b → ¬ Stop sf kf H K ((H + e) % n) := by
  have hb := h.1
  have hl := dist_lt H n b (by omega)
  refine ⟨hl, dist_at H n b hb, fun e he hs => ?_⟩
  have := h.2.2 _ (Nat.mod_lt _ (by omega)) hs
  rw [dist_of H n e (by omega)] at this
  omega

end Go.Proofs.Qxb6602653a
