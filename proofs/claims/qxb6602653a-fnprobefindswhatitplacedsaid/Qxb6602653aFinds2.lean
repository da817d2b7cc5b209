/-
  The walk of FnProbeFindsWhatItPlaced (function 4) at every input: the bounds that say no, no key at all, and the rest.
-/
import Derived.Test.Qxb6602653aFinds
namespace Go.Proofs.Qxb6602653a
open Go.RowKit
set_option linter.unusedVariables false

set_option maxRecDepth 100000 in
theorem finds_big (ka : Option Addr) (m kc : Nat) (ha : Option Addr) (hn hc : Nat) (lg : Int) (kf : Nat → ByteArray) (w : World) (hbig : 4096 < (m : Int) ∨ (¬ 4096 < (m : Int) ∧ 4096 < (hn : Int))) (rk : Rd w ka m (fun i => .string (kf i))) :
    Calls Try.prog 4 #[.slice ka m kc, .slice ha hn hc, .int .u8 lg] w (TrueEnd w) := by
  have HRK : Hid (Rd w ka m (fun i => .string (kf i))) := rk
  clear rk
  rcases hbig with h1 | ⟨h1, h2⟩
  all_goals
    go_enter Try.func4, Try.ntmps4
    go_wp2_with fail
    refine (zz16 _ m kc kf _ _ _ _ _ HRK.out).mono ?_
    rintro e w0 ⟨b, rfl, rfl⟩
    cases b
    all_goals
      go_wp2_with fail
      go_ret
      exact ⟨rfl, Below.refl _ _⟩

set_option maxHeartbeats 1000000 in
set_option maxRecDepth 100000 in
theorem finds_off (ka : Option Addr) (m kc : Nat) (ha : Option Addr) (hn hc : Nat) (lg : Int) (kf : Nat → ByteArray) (w : World) (h1 : ¬ 4096 < (m : Int)) (h2 : ¬ 4096 < (hn : Int)) (hoff : 16 < lg ∨ (¬ 16 < lg ∧ ((hn : Int) != (m : Int)) = true)) (rk : Rd w ka m (fun i => .string (kf i))) :
    Calls Try.prog 4 #[.slice ka m kc, .slice ha hn hc, .int .u8 lg] w (TrueEnd w) := by
  have HRK : Hid (Rd w ka m (fun i => .string (kf i))) := rk
  clear rk
  rcases hoff with h3 | ⟨h3, h4⟩
  all_goals
    go_enter Try.func4, Try.ntmps4
    go_wp2_with fail
    refine (zz16 _ m kc kf _ _ _ _ _ HRK.out).mono ?_
    rintro e w0 ⟨b, rfl, rfl⟩
    cases b
    · go_wp2_with fail
      go_ret
      exact ⟨rfl, Below.refl _ _⟩
    go_wp2_with fail
    refine (strFit _ _ m kc kf _ (by omega) (by omega) (by unfold maxLen; omega) HRK.out).mono ?_
    rintro e w1 ⟨t, b, rfl, rfl, ht0, ht1, -⟩
    cases b
    all_goals
      go_wp2_with fail
      go_ret
      exact ⟨rfl, Below.refl _ _⟩

set_option maxHeartbeats 1000000 in
set_option maxRecDepth 100000 in
theorem finds_full (ka : Option Addr) (m kc : Nat) (ha : Option Addr) (hc : Nat) (lg : Int) (n : Nat) (kf : Nat → ByteArray) (w : World) (h1 : ¬ 4096 < (m : Int)) (hl0 : 0 ≤ lg) (hl : ¬ 16 < lg) (hpow : wrap64 (2 ^ lg.toNat) = (n : Int)) (hmn : n ≤ m) (rk : Rd w ka m (fun i => .string (kf i))) :
    Calls Try.prog 4 #[.slice ka m kc, .slice ha m hc, .int .u8 lg] w (TrueEnd w) := by
  have HRK : Hid (Rd w ka m (fun i => .string (kf i))) := rk
  clear rk
  go_enter Try.func4, Try.ntmps4
  go_wp2_with fail
  refine (zz16 _ m kc kf _ _ _ _ _ HRK.out).mono ?_
  rintro e w0 ⟨b, rfl, rfl⟩
  cases b
  · go_wp2_with fail
    go_ret
    exact ⟨rfl, Below.refl _ _⟩
  go_wp2_with fail
  refine (strFit _ _ m kc kf _ (by omega) (by omega) (by unfold maxLen; omega) HRK.out).mono ?_
  rintro e w1 ⟨t, b, rfl, rfl, ht0, ht1, -⟩
  cases b
  all_goals
    go_wp2_with fail
    go_ret
    exact ⟨rfl, Below.refl _ _⟩

set_option maxHeartbeats 1000000 in
set_option maxRecDepth 100000 in
theorem finds_none (ka : Option Addr) (m kc : Nat) (ha : Option Addr) (hc : Nat) (lg : Int) (n : Nat) (kf : Nat → ByteArray) (hf : Nat → Int) (w : World) (hm0 : m ≤ 0) (hl0 : 0 ≤ lg) (hl : ¬ 16 < lg) (hpow : wrap64 (2 ^ lg.toNat) = (n : Int)) (hn : n ≤ 65536) (hmn : m < n)
    (rk : Rd w ka m (fun i => .string (kf i))) (rh : Rd w ha m (fun i => .int .u64 (hf i))) :
    Calls Try.prog 4 #[.slice ka m kc, .slice ha m hc, .int .u8 lg] w (TrueEnd w) := by
  have HRK : Hid (Rd w ka m (fun i => .string (kf i))) := rk
  have HRH : Hid (Rd w ha m (fun i => .int .u64 (hf i))) := rh
  clear rk rh
  have hmk1 := run_make_row' (P := Try.prog) 24 25 (.int .u64 0) 8 Try.underlying24 info25 rfl .i64 .i64 n (by omega) (by omega)
  have hmk2 := run_make_row' (P := Try.prog) 36 3 (.int .i64 0) 8 Try.underlying36 info3 rfl .i64 .i64 m (by omega) (by omega)
  go_enter Try.func4, Try.ntmps4
  go_wp2_with fail
  refine (zz16 _ m kc kf _ _ _ _ _ HRK.out).mono ?_
  rintro e w0 ⟨b, rfl, rfl⟩
  cases b
  · go_wp2_with fail
    go_ret
    exact ⟨rfl, Below.refl _ _⟩
  go_wp2_with fail
  refine (strFit _ _ m kc kf _ (by omega) (by omega) (by unfold maxLen; omega) HRK.out).mono ?_
  rintro e w1 ⟨t, b, rfl, rfl, ht0, ht1, -⟩
  cases b
  · go_wp2_with fail
    go_ret
    exact ⟨rfl, Below.refl _ _⟩
  go_wp2_with fail
  refine (cloneS_len ka m kc kf _ (by omega) HRK.out).mono ?_
  rintro e w2 ⟨sa, sc, rfl, b2⟩
  have RH2 : Hid (Rd w2 ha m (fun i => .int .u64 (hf i))) := HRH.out.later b2
  have B2 : Hid (Below w1.heap.size w1 w2) := b2
  clear b2 HRK HRH
  go_wp2_with fail
  refine (cloneW_len ha m hc hf _ (by omega) RH2.out).mono ?_
  rintro e w3 ⟨sa3, sc3, rfl, b3⟩
  have B3 : Hid (Below w1.heap.size w1 w3) := B2.out.trans (b3.mono B2.out.size)
  have sz3 : w1.heap.size ≤ w3.heap.size := B3.out.size
  clear b3 B2 RH2
  go_wp2_with fail
  go_loop [12] (fun i => i = .int .i64 0) (fun _ => 0)
  case atStart => rfl
  case round =>
    subst hrel
    go_wp2_with fail
    go_loop [16] (fun i => i = .int .i64 0) (fun _ => 0)
    case atStart => rfl
    case round =>
      subst hrel
      go_wp2_with fail
      go_ret
      exact ⟨rfl, (B3.out.alloc sz3 _).alloc (by simp; omega) _⟩

theorem finds (ka : Option Addr) (m kc : Nat) (ha : Option Addr) (hn hc : Nat) (lg : Int) (kf : Nat → ByteArray) (hf : Nat → Nat) (w : World) (hl0 : 0 ≤ lg) (hwf : ∀ i, i < hn → hf i < 18446744073709551616) (rk : Rd w ka m (fun i => .string (kf i))) (rh : Rd w ha hn (fun i => .int .u64 (hf i : Int))) :
    Calls Try.prog 4 #[.slice ka m kc, .slice ha hn hc, .int .u8 lg] w (TrueEnd w) := by
  by_cases h1 : 4096 < (m : Int)
  · exact finds_big ka m kc ha hn hc lg kf w (.inl h1) rk
  by_cases h2 : 4096 < (hn : Int)
  · exact finds_big ka m kc ha hn hc lg kf w (.inr ⟨h1, h2⟩) rk
  by_cases h3 : 16 < lg
  · exact finds_off ka m kc ha hn hc lg kf w h1 h2 (.inl h3) rk
  by_cases h4 : ¬ hn = m
  · exact finds_off ka m kc ha hn hc lg kf w h1 h2 (.inr ⟨h3, by rw [bne_iff_ne]; omega⟩) rk
  obtain rfl : hn = m := by omega
  obtain ⟨n, hpow, hL, hn'⟩ := wrap_pow lg hl0 (by omega)
  by_cases h5 : n ≤ hn
  · exact finds_full ka hn kc ha hc lg n kf w h1 hl0 h3 hpow h5 rk
  by_cases h6 : 0 < hn
  · obtain ⟨b1, o1, rfl, _, _⟩ := rk.at h6
    obtain ⟨b2, o2, rfl, _, _⟩ := rh.at h6
    exact finds_main _ hn kc _ hc lg n kf hf w h6 h1 hl0 h3 hpow hL hn' (by omega) hwf rk rh
  · exact finds_none ka hn kc ha hc lg n kf _ w (by omega) hl0 h3 hpow hn' (by omega) rk rh
end Go.Proofs.Qxb6602653a
