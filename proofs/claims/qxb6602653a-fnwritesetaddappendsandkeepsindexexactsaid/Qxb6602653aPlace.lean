/-
  Plain laws on a table of slots: no Go in sight. What a probe finds once each key has been placed where a probe led.
-/
import Derived.Test.Qxb6602653aNat
namespace Go.Proofs.Qxb6602653a

/-- The least one, of those below n. -/
theorem least_lt {p : Nat → Prop} {n : Nat} (h : ∃ d, d < n ∧ p d) : ∃ d, d < n ∧ p d ∧ ∀ e, e < d → ¬ p e := by
  induction n with
  | zero => obtain ⟨d, hd, _⟩ := h; omega
  | succ n ih =>
    by_cases hn : ∃ d, d < n ∧ p d
    · obtain ⟨d, h1, h2, h3⟩ := ih hn
      exact ⟨d, by omega, h2, h3⟩
    · obtain ⟨d, hd, hp⟩ := h
      refine ⟨d, hd, hp, fun e he hpe => hn ⟨e, by omega, hpe⟩⟩

/-- Each place of the ring is met on the way round. -/
theorem ring_meets (H j n : Nat) (hj : j < n) : ∃ d, d < n ∧ (H + d) % n = j := by
  refine ⟨(j + n - H % n) % n, Nat.mod_lt _ (by omega), ?_⟩
  have hlt : H % n < n := Nat.mod_lt _ (by omega)
  rw [Nat.add_mod, Nat.mod_mod, ← Nat.add_mod]
  rw [← Nat.mod_add_mod, show H % n + (j + n - H % n) = j + n by omega, Nat.add_mod_right, Nat.mod_eq_of_lt hj]

/-- How many slots are taken. -/
def taken (sf : Nat → Nat) : Nat → Nat
  | 0 => 0
  | n + 1 => taken sf n + if sf n = 0 then 0 else 1

theorem taken_empty (sf : Nat → Nat) (n : Nat) (h : taken sf n < n) : ∃ j, j < n ∧ sf j = 0 := by
  induction n with
  | zero => omega
  | succ n ih =>
    by_cases h0 : sf n = 0
    · exact ⟨n, by omega, h0⟩
    · simp only [taken, h0, if_false] at h
      obtain ⟨j, h1, h2⟩ := ih (by omega)
      exact ⟨j, by omega, h2⟩

theorem taken_zero (n : Nat) : taken (fun _ => 0) n = 0 := by
  induction n with
  | zero => rfl
  | succ n ih => simp [taken, ih]

/-- One slot written. -/
def put (sf : Nat → Nat) (a v : Nat) : Nat → Nat := fun j => if j = a then v else sf j
theorem put_same (sf : Nat → Nat) (a v : Nat) : put sf a v a = v := by simp [put]
theorem put_other (sf : Nat → Nat) (a v j : Nat) (h : j ≠ a) : put sf a v j = sf j := by simp [put, h]

theorem taken_put (sf : Nat → Nat) (a v n : Nat) : taken (put sf a v) n ≤ taken sf n + (if a < n then 1 else 0) := by
  induction n with
  | zero => simp [taken]
  | succ n ih =>
    simp only [taken]
    by_cases h : n = a
    · subst h
      have ih' : taken (put sf n v) n ≤ taken sf n := by simpa using ih
      have e1 : (if n < n + 1 then 1 else 0) = 1 := if_pos (Nat.lt_succ_self n)
      rw [put_same, e1]
      generalize (if sf n = 0 then 0 else 1) = x
      have : (if v = 0 then 0 else 1) ≤ 1 := by split <;> omega
      omega
    · rw [put_other _ _ _ _ h]
      generalize (if sf n = 0 then 0 else 1) = x
      by_cases h1 : a < n
      · have e1 : (if a < n + 1 then 1 else 0) = 1 := if_pos (by omega)
        rw [if_pos h1] at ih
        rw [e1]; omega
      · have e1 : (if a < n + 1 then 1 else 0) = 0 := if_neg (by omega)
        rw [if_neg h1] at ih
        rw [e1]; omega

/-- The slot at 'j' holds the key K under H's high bits. -/
def Hit (sf : Nat → Nat) (kf : Nat → ByteArray) (H : Nat) (K : ByteArray) (j : Nat) : Prop :=
  sf j ≠ 0 ∧ sf j / 4294967296 = H / 4294967296 ∧ kf (sf j % 4294967296 - 1) = K

theorem Hit.stop {sf : Nat → Nat} {kf : Nat → ByteArray} {H : Nat} {K : ByteArray} {j : Nat} (h : Hit sf kf H K j) : Stop sf kf H K j := .inr h.2

/-- A probe for K under H comes to j, after d steps, and finds it there. -/
def Finds (sf : Nat → Nat) (kf : Nat → ByteArray) (n H : Nat) (K : ByteArray) (j d : Nat) : Prop :=
  d < n ∧ (H + d) % n = j ∧ Hit sf kf H K j ∧ ∀ e, e < d → ¬ Stop sf kf H K ((H + e) % n)

/-- What was found stays found while an empty slot is filled. -/
theorem Finds.put {sf : Nat → Nat} {kf : Nat → ByteArray} {n H : Nat} {K : ByteArray} {j d : Nat} (h : Finds sf kf n H K j d) (a v : Nat) (ha : sf a = 0) : Finds (put sf a v) kf n H K j d := by
  obtain ⟨h1, h2, ⟨h3, h4, h5⟩, h6⟩ := h
  have hja : j ≠ a := by intro e; rw [e] at h3; exact h3 ha
  refine ⟨h1, h2, ⟨?_, ?_, ?_⟩, fun e he hs => ?_⟩
  · rw [put_other _ _ _ _ hja]; exact h3
  · rw [put_other _ _ _ _ hja]; exact h4
  · rw [put_other _ _ _ _ hja]; exact h5
  · have hne : (H + e) % n ≠ a := fun e' => h6 e he (.inl (by rw [e']; exact ha))
    apply h6 e he
    unfold Stop at hs ⊢
    rwa [put_other _ _ _ _ hne] at hs

/-- The table after k keys have been placed. -/
structure Tab (n m : Nat) (kf : Nat → ByteArray) (hf : Nat → Nat) (k : Nat) (sf pl : Nat → Nat) : Prop where
  word : ∀ j, j < n → sf j < 18446744073709551616
  valid : ∀ j, j < n → sf j ≠ 0 → 1 ≤ sf j % 4294967296 ∧ sf j % 4294967296 ≤ m
  few : taken sf n ≤ k
  found : ∀ i, i < k → pl i < n ∧ ∃ d, Finds sf kf n (hf i) (kf i) (pl i) d

theorem Tab.start (n m : Nat) (kf : Nat → ByteArray) (hf : Nat → Nat) (pl : Nat → Nat) : Tab n m kf hf 0 (fun _ => 0) pl :=
  ⟨fun _ _ => by omega, fun _ _ h => absurd rfl h, by rw [taken_zero]; exact Nat.le_refl _, fun i hi => by omega⟩

/-- The probe for the next key: where it stops first. -/
theorem Tab.probe {n m : Nat} {kf : Nat → ByteArray} {hf : Nat → Nat} {k : Nat} {sf pl : Nat → Nat} (h : Tab n m kf hf k sf pl) (hk : k < n) (H : Nat) (K : ByteArray) :
    ∃ d, d < n ∧ Stop sf kf H K ((H + d) % n) ∧ ∀ e, e < d → ¬ Stop sf kf H K ((H + e) % n) := by
  obtain ⟨j, hj, h0⟩ := taken_empty sf n (by have := h.few; omega)
  obtain ⟨d, hd, hm⟩ := ring_meets H j n hj
  exact least_lt (p := fun d => Stop sf kf H K ((H + d) % n)) ⟨d, hd, .inl (by rw [hm]; exact h0)⟩

/-- The key was there. -/
theorem Tab.hit {n m : Nat} {kf : Nat → ByteArray} {hf : Nat → Nat} {k : Nat} {sf pl : Nat → Nat} (h : Tab n m kf hf k sf pl) (a d : Nat) (hd : d < n) (ha : (hf k + d) % n = a) (hs : Stop sf kf (hf k) (kf k) a) (hno : ∀ e, e < d → ¬ Stop sf kf (hf k) (kf k) ((hf k + e) % n)) (h0 : sf a ≠ 0) :
    Tab n m kf hf (k + 1) sf (put pl k a) := by
  refine ⟨h.word, h.valid, by have := h.few; omega, fun i hi => ?_⟩
  by_cases e : i = k
  · subst e
    rw [put_same]
    refine ⟨by rw [← ha]; exact Nat.mod_lt _ (by omega), d, hd, ha, ⟨h0, ?_⟩, hno⟩
    rcases hs with hs | hs
    · exact absurd hs h0
    · exact hs
  · rw [put_other _ _ _ _ e]
    exact h.found i (by omega)

/-- The key was not there, and goes into the empty slot. -/
theorem Tab.miss {n m : Nat} {kf : Nat → ByteArray} {hf : Nat → Nat} {k : Nat} {sf pl : Nat → Nat} (h : Tab n m kf hf k sf pl) (hk : k < m) (a d : Nat) (hd : d < n) (ha : (hf k + d) % n = a) (hno : ∀ e, e < d → ¬ Stop sf kf (hf k) (kf k) ((hf k + e) % n)) (h0 : sf a = 0)
    (v : Nat) (hv : v < 18446744073709551616) (hv1 : v / 4294967296 = hf k / 4294967296) (hv2 : v % 4294967296 = k + 1) :
    Tab n m kf hf (k + 1) (put sf a v) (put pl k a) := by
  have han : a < n := by rw [← ha]; exact Nat.mod_lt _ (by omega)
  have hv0 : v ≠ 0 := by intro e; rw [e] at hv2; omega
  refine ⟨fun j hj => ?_, fun j hj hne => ?_, ?_, fun i hi => ?_⟩
  · by_cases e : j = a
    · subst e; rw [put_same]; exact hv
    · rw [put_other _ _ _ _ e]; exact h.word j hj
  · by_cases e : j = a
    · subst e; rw [put_same, hv2]; omega
    · rw [put_other _ _ _ _ e] at hne ⊢; exact h.valid j hj hne
  · have := taken_put sf a v n
    rw [if_pos han] at this
    have := h.few
    omega
  · by_cases e : i = k
    · subst e
      rw [put_same]
      refine ⟨han, d, hd, ha, ⟨?_, ?_, ?_⟩, fun e he hs => ?_⟩
      · rw [put_same]; exact hv0
      · rw [put_same]; exact hv1
      · rw [put_same, hv2, Nat.add_sub_cancel]
      · have hne : (hf i + e) % n ≠ a := fun e' => hno e he (.inl (by rw [e']; exact h0))
        apply hno e he
        unfold Stop at hs ⊢
        rwa [put_other _ _ _ _ hne] at hs
    · rw [put_other _ _ _ _ e]
      obtain ⟨h1, d', h2⟩ := h.found i (by omega)
      exact ⟨h1, d', h2.put a v h0⟩

end Go.Proofs.Qxb6602653a
