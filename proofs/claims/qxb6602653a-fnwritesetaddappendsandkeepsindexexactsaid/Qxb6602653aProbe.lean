/-
  The walks of (*base).probe (function 27) and ZZProbe (15).
-/
import Derived.Test.Qxb6602653aBase
import Derived.Test.Qxb6602653aNat
namespace Go.Proofs.Qxb6602653a
open Go.RowKit
set_option linter.unusedVariables false

theorem ret2 {k : IntKind} {a a' : Int} {b b' : Bool} (ha : a = a') (hb : b = b') : Ending.returned (.tuple #[.int k a, .bool b]) = .returned (.tuple #[.int k a', .bool b']) := by rw [ha, hb]

set_option maxHeartbeats 1000000 in
theorem probe_walk (Bb : Nat) (m kc : Nat) (sb so n sc : Nat) (H : Nat) (K : ByteArray) (kf : Nat → ByteArray) (sf : Nat → Nat) (L d : Nat) (w : World)
    (c2 : w.cell? ⟨Bb, 2, none⟩ = some (.slice (some ⟨sb, so, none⟩) n sc))
    (hn : n = 2 ^ L) (hn1 : n ≤ 1048576) (hm : m ≤ 1048576) (hH : H < 18446744073709551616)
    (hk : ∀ t, t < m → ∃ kb ko, w.cell? ⟨Bb, 0, none⟩ = some (.slice (some ⟨kb, ko, none⟩) m kc) ∧ w.cell? ⟨kb, ko + t, none⟩ = some (.string (kf t)))
    (hs : ∀ i, i < n → w.cell? ⟨sb, so + i, none⟩ = some (.int .u64 (sf i : Int))) (hw : ∀ i, i < n → sf i < 18446744073709551616)
    (hv : ∀ j, j < n → sf j ≠ 0 → sf j / 4294967296 = H / 4294967296 → 1 ≤ sf j % 4294967296 ∧ sf j % 4294967296 ≤ m)
    (hd : d < n) (hst : Stop sf kf H K ((H + d) % n)) (hno : ∀ e, e < d → ¬ Stop sf kf H K ((H + e) % n)) (r : Bool) (hr : r = decide (sf ((H + d) % n) ≠ 0)) :
    Calls Try.prog 27 #[.pointer (some ⟨Bb, 0, none⟩), .int .u64 (H : Int), .string K] w fun e w' => e = .returned (.tuple #[.int .i64 (((H + d) % n : Nat) : Int), .bool r]) ∧ w' = w := by
  have hmask := bits_mask H n L hH hn (by omega)
  have hmask' : Hid (∀ q, q < n → bits .and .u64 ((q : Int) + 1) ((n : Int) - 1) = (((q + 1) % n : Nat) : Int)) := fun q hq => bits_mask (q + 1) n L (by omega) hn (by omega)
  have hp : 1 ≤ n := by rw [hn]; exact Nat.two_pow_pos L
  obtain ⟨y, hy⟩ : ∃ y : Int, bits .andNot .u64 (H : Int) 4294967295 = y := ⟨_, rfl⟩
  have HY : Hid (y = ((H / 4294967296 * 4294967296 : Nat) : Int)) := by rw [← hy]; exact bits_andNot H hH
  obtain ⟨qd, hqd⟩ : ∃ qd, (H + d) % n = qd := ⟨_, rfl⟩
  rw [hqd] at hst hr ⊢
  have HD : Hid ((H + d) % n = qd) := hqd
  have HK : Hid (∀ t, t < m → ∃ kb ko, w.cell? ⟨Bb, 0, none⟩ = some (.slice (some ⟨kb, ko, none⟩) m kc) ∧ w.cell? ⟨kb, ko + t, none⟩ = some (.string (kf t))) := hk
  have HS : Hid (∀ i, i < n → w.cell? ⟨sb, so + i, none⟩ = some (.int .u64 (sf i : Int))) := hs
  have HV : Hid (∀ j, j < n → sf j ≠ 0 → sf j / 4294967296 = H / 4294967296 → 1 ≤ sf j % 4294967296 ∧ sf j % 4294967296 ≤ m) := hv
  have HW : Hid (∀ i, i < n → sf i < 18446744073709551616) := hw
  have HST : Hid (Stop sf kf H K qd) := hst
  have HNO : Hid (∀ e, e < d → ¬ Stop sf kf H K ((H + e) % n)) := hno
  have HR : Hid (r = decide (sf qd ≠ 0)) := hr
  clear hn hqd hk hs hv hw hst hno hr
  go_enter Try.func27, Try.ntmps27
  go_wp2
  clear hmask
  go_loop [9] (fun at_ => ∃ q e : Nat, at_ = .int .u64 q ∧ q < n ∧ e ≤ d ∧ Hid ((H + e) % n = q)) (fun at_ => (qd + n - (intOf at_).toNat) % n)
  case atStart => exact ⟨H % n, 0, by simp, Nat.mod_lt _ (by omega), Nat.zero_le _, rfl⟩
  case round =>
    obtain ⟨q, e, rfl, hq, he, HQ⟩ := hrel
    obtain ⟨s, hs, HSF⟩ : ∃ s : Nat, w.cell? ⟨sb, so + q, none⟩ = some (.int .u64 (s : Int)) ∧ Hid (sf q = s) := ⟨_, HS.out q hq, rfl⟩
    have hsw : s < 18446744073709551616 := by rw [← HSF.out]; exact HW.out q hq
    have DONE : Hid (Stop sf kf H K q → q = qd ∧ e = d) := by
      intro hh
      have : e = d := by
        rcases Nat.lt_or_eq_of_le he with h | h
        · exact absurd (by rw [HQ.out]; exact hh) (HNO.out e h)
        · exact h
      exact ⟨by rw [← HQ.out, ← HD.out, this], this⟩
    have NEXT : Hid (¬ Stop sf kf H K q → e < d) := by
      intro hh
      rcases Nat.lt_or_eq_of_le he with h | h
      · exact h
      · exact absurd (by rw [← HQ.out, h, HD.out]; exact HST.out) hh
    obtain ⟨q', hmq, HQ'⟩ : ∃ q' : Nat, bits .and .u64 ((q : Int) + 1) ((n : Int) - 1) = (q' : Int) ∧ Hid ((q + 1) % n = q') := ⟨_, hmask'.out q hq, rfl⟩
    have GO : Hid (¬ Stop sf kf H K q → (∃ q1 e1 : Nat, Value.int .u64 (q' : Int) = .int .u64 q1 ∧ q1 < n ∧ e1 ≤ d ∧ Hid ((H + e1) % n = q1)) ∧ (qd + n - (intOf (.int .u64 (q' : Int))).toNat) % n < (qd + n - (intOf (.int .u64 (q : Int))).toNat) % n) := by
      intro hh
      have hlt := NEXT.out hh
      have hq' : (H + (e + 1)) % n = q' := by rw [← HQ'.out, ← HQ.out]; exact (ring_next H e n).symm
      refine ⟨⟨q', e + 1, rfl, by rw [← HQ'.out]; exact Nat.mod_lt _ (by omega), hlt, hq'⟩, ?_⟩
      have r1 := ring_left H d (e + 1) n hlt hd
      have r2 := ring_left H d e n he hd
      rw [hq', HD.out] at r1
      rw [HQ.out, HD.out] at r2
      simp only [intOf, Int.toNat_natCast]
      omega
    by_cases h0 : s = 0
    · have e0 : ((s : Int) == 0) = true := by simp [h0]
      have E : Hid (q = qd ∧ r = false) := by
        have h := DONE.out (.inl (by rw [HSF.out, h0]))
        exact ⟨h.1, by rw [HR.out, ← h.1, HSF.out, h0]; rfl⟩
      clear h0
      go_wp2
      go_ret2
      exact ⟨ret2 (by rw [E.out.1]) E.out.2.symm, rfl⟩
    · have e0 : ((s : Int) == 0) = false := by simp; exact h0
      obtain ⟨x, hx⟩ : ∃ x : Int, bits .andNot .u64 (s : Int) 4294967295 = x := ⟨_, rfl⟩
      have HX : Hid (x = ((s / 4294967296 * 4294967296 : Nat) : Int)) := by rw [← hx]; exact bits_andNot s hsw
      by_cases hhi : s / 4294967296 = H / 4294967296
      · have exy : x = y := by rw [HX.out, HY.out, hhi]
        subst exy
        have hl := HV.out q hq (by rw [HSF.out]; exact h0) (by rw [HSF.out]; exact hhi)
        rw [HSF.out] at hl
        obtain ⟨t, ht⟩ : ∃ t, s % 4294967296 = t + 1 := ⟨s % 4294967296 - 1, by omega⟩
        have htm : t < m := by omega
        obtain ⟨kb, ko, hc0, hck⟩ := HK.out t htm
        have hlow : bits .and .u64 (s : Int) 4294967295 = (t : Int) + 1 := by rw [bits_low s hsw, ht]; rfl
        obtain ⟨z, hz⟩ : ∃ z, kf t = z := ⟨_, rfl⟩
        rw [hz] at hck
        have HZ : Hid (kf t = z) := hz
        have HT : Hid (s % 4294967296 = t + 1) := ht
        have HH : Hid (s / 4294967296 = H / 4294967296) := hhi
        have H0 : Hid (¬ s = 0) := h0
        clear hz ht hhi hl h0
        by_cases hkey : z = K
        · have E : Hid (q = qd ∧ r = true) := by
            have h := DONE.out (.inr ⟨by rw [HSF.out]; exact HH.out, by rw [HSF.out, HT.out, Nat.add_sub_cancel, HZ.out, hkey]⟩)
            exact ⟨h.1, by rw [HR.out, ← h.1, HSF.out]; exact decide_eq_true H0.out⟩
          subst hkey
          go_wp2
          go_ret2
          exact ⟨ret2 (by rw [E.out.1]) E.out.2.symm, rfl⟩
        · have HG := GO.out (by
            rintro (h | ⟨_, h⟩)
            · exact H0.out (by rw [← HSF.out]; exact h)
            · rw [HSF.out, HT.out, Nat.add_sub_cancel, HZ.out] at h
              exact hkey h)
          have G : Hid _ := HG
          have hks := str_ne hkey
          clear HG hkey
          go_wp2
          exact G.out
      · have exy : (x == y) = false := by
          rw [beq_eq_false_iff_ne, HX.out, HY.out]
          intro h
          apply hhi
          omega
        have HG := GO.out (by
          rintro (h | ⟨h, _⟩)
          · exact h0 (by rw [← HSF.out]; exact h)
          · rw [HSF.out] at h
            exact hhi h)
        have G : Hid _ := HG
        clear HG hhi h0
        go_wp2
        exact G.out

/-- All that is asked of a table, its keys and what is sought; d: how many steps the probe takes. -/
structure Prb (w : World) (ka : Option Addr) (m kc : Nat) (sb so n : Nat) (H : Nat) (K : ByteArray) (kf : Nat → ByteArray) (sf : Nat → Nat) (d : Nat) : Prop where
  pow : ∃ L, n = 2 ^ L
  small : n ≤ 1048576
  few : m ≤ 1048576
  word : H < 18446744073709551616
  keys : Rd w ka m (fun i => .string (kf i))
  cells : ∀ i, i < n → w.cell? ⟨sb, so + i, none⟩ = some (.int .u64 (sf i : Int))
  words : ∀ i, i < n → sf i < 18446744073709551616
  valid : ∀ j, j < n → sf j ≠ 0 → sf j / 4294967296 = H / 4294967296 → 1 ≤ sf j % 4294967296 ∧ sf j % 4294967296 ≤ m
  near : d < n
  stop : Stop sf kf H K ((H + d) % n)
  first : ∀ e, e < d → ¬ Stop sf kf H K ((H + e) % n)

theorem zzprobe (ka : Option Addr) (m kc : Nat) (va : Option Addr) (vn vc : Nat) (sb so n sc H : Nat) (K : ByteArray) (kf : Nat → ByteArray) (sf : Nat → Nat) (d : Nat) (w : World) (h : Prb w ka m kc sb so n H K kf sf d) (r : Bool) (hr : r = decide (sf ((H + d) % n) ≠ 0)) :
    Calls Try.prog 15 #[.slice ka m kc, .slice va vn vc, .slice (some ⟨sb, so, none⟩) n sc, .int .u64 (H : Int), .string K] w fun e w' => e = .returned (.tuple #[.int .i64 (((H + d) % n : Nat) : Int), .bool r]) ∧ Below w.heap.size w w' := by
  obtain ⟨L, hL⟩ := h.pow
  have hb : ∀ o, Below w.heap.size w (w.alloc o) := fun o => (Below.refl _ w).alloc (Nat.le_refl _) o
  have HP : Hid (∀ o, (w.alloc o).cell? ⟨w.heap.size, 2, none⟩ = some (.slice (some ⟨sb, so, none⟩) n sc) → (w.alloc o).cell? ⟨w.heap.size, 0, none⟩ = some (.slice ka m kc) →
      Calls Try.prog 27 #[.pointer (some ⟨w.heap.size, 0, none⟩), .int .u64 (H : Int), .string K] (w.alloc o) fun e w' => e = .returned (.tuple #[.int .i64 (((H + d) % n : Nat) : Int), .bool r]) ∧ w' = w.alloc o) := by
    intro o c2 c0
    refine probe_walk w.heap.size m kc sb so n sc H K kf sf L d _ c2 hL h.small h.few h.word ?_ (fun i hi => cell_later (hb o) (h.cells i hi)) h.words h.valid h.near h.stop h.first r hr
    intro t ht
    obtain ⟨kb, ko, hka, _, hc⟩ := h.keys.at (by omega)
    exact ⟨kb, ko, by rw [← hka]; exact c0, cell_later (hb o) (hc t ht)⟩
  generalize (((H + d) % n : Nat) : Int) = res at HP ⊢
  clear h hr hL
  go_enter Try.func15, Try.ntmps15
  go_wp2_with fail
  refine (HP.out _ (by simp) (by simp)).mono ?_
  rintro e w1 ⟨rfl, rfl⟩
  go_wp2_with fail
  go_ret2
  exact ⟨rfl, hb _⟩
end Go.Proofs.Qxb6602653a
