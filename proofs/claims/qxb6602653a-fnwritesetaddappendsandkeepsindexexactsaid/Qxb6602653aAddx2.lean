/-
  The walk of FnWriteSetAddAppendsAndKeepsIndexExact (function 5) at every input.
-/
import Derived.Test.Qxb6602653aAddx
namespace Go.Proofs.Qxb6602653a
open Go.RowKit Go.Maps
set_option linter.unusedVariables false

set_option maxHeartbeats 2000000 in
set_option maxRecDepth 100000 in
theorem addx_big (ka : Option Addr) (m kc : Nat) (va : Option Addr) (vn vc : Nat) (ix : Bool) (K : ByteArray) (xa : Option Addr) (xl xc : Nat) (kf : Nat → ByteArray) (vf : Nat → Sl) (w : World)
    (hbig : 65536 < (m : Int) ∨ (¬ 65536 < (m : Int) ∧ 65536 < (vn : Int)) ∨ (¬ 65536 < (m : Int) ∧ ¬ 65536 < (vn : Int) ∧ 1048576 < (K.size : Int)) ∨ (¬ 65536 < (m : Int) ∧ ¬ 65536 < (vn : Int) ∧ ¬ 1048576 < (K.size : Int) ∧ 1048576 < (xl : Int)))
    (rk : Rd w ka m (fun i => .string (kf i))) (rv : Rd w va vn (fun i => (vf i).val)) :
    Calls Try.prog 5 #[.slice ka m kc, .slice va vn vc, .bool ix, .string K, .slice xa xl xc] w (TrueEnd w) := by
  have RK : Hid (Rd w ka m (fun i => .string (kf i))) := rk
  have RV : Hid (Rd w va vn (fun i => (vf i).val)) := rv
  clear rk rv
  rcases hbig with h1 | ⟨h1, h2⟩ | ⟨h1, h2, h3⟩ | ⟨h1, h2, h3, h4⟩
  all_goals
    go_enter Try.func5, Try.ntmps5
    go_wp2_with fail
    refine (zz17 _ m kc kf _ vn vc vf ix K _ xl xc _ RK.out RV.out).mono ?_
    rintro e w0 ⟨b, rfl, rfl⟩
    cases b
    all_goals
      go_wp2_with fail
      go_ret
      exact ⟨rfl, Below.refl _ _⟩

set_option maxHeartbeats 2000000 in
set_option maxRecDepth 100000 in
theorem addx_off (ka : Option Addr) (m kc : Nat) (va : Option Addr) (vn vc : Nat) (ix : Bool) (K : ByteArray) (xa : Option Addr) (xl xc : Nat) (kf : Nat → ByteArray) (vf : Nat → Sl) (w : World)
    (h1 : ¬ 65536 < (m : Int)) (h2 : ¬ 65536 < (vn : Int)) (h3 : ¬ 1048576 < (K.size : Int)) (h4 : ¬ 1048576 < (xl : Int)) (hoff : ((vn : Int) != (m : Int)) = true)
    (rk : Rd w ka m (fun i => .string (kf i))) (rv : Rd w va vn (fun i => (vf i).val)) :
    Calls Try.prog 5 #[.slice ka m kc, .slice va vn vc, .bool ix, .string K, .slice xa xl xc] w (TrueEnd w) := by
  have RK : Hid (Rd w ka m (fun i => .string (kf i))) := rk
  have RV : Hid (Rd w va vn (fun i => (vf i).val)) := rv
  clear rk rv
  go_enter Try.func5, Try.ntmps5
  go_wp2_with fail
  refine (zz17 _ m kc kf _ vn vc vf ix K _ xl xc _ RK.out RV.out).mono ?_
  rintro e w0 ⟨b, rfl, rfl⟩
  cases b
  · go_wp2_with fail
    go_ret
    exact ⟨rfl, Below.refl _ _⟩
  go_wp2_with fail
  refine (strFit _ _ m kc kf _ (by omega) (by omega) (by unfold maxLen; omega) RK.out).mono ?_
  rintro e w0 ⟨t, b, rfl, rfl, ht0, ht1, -⟩
  cases b
  · go_wp2_with fail
    go_ret
    exact ⟨rfl, Below.refl _ _⟩
  go_wp2_with fail
  refine (bytFit _ _ vn vc vf _ ht0 ht1 (by unfold maxLen; omega) RV.out).mono ?_
  rintro e w0 ⟨t2, b, rfl, rfl, ht20, ht21, -⟩
  cases b
  all_goals
    go_wp2_with fail
    go_ret
    exact ⟨rfl, Below.refl _ _⟩

theorem addx (ka : Option Addr) (m kc : Nat) (va : Option Addr) (vn vc : Nat) (ix : Bool) (K : ByteArray) (xa : Option Addr) (xl xc : Nat) (kf : Nat → ByteArray) (vf : Nat → Sl) (bf : Nat → Nat → Int) (xf : Nat → Int) (w : World)
    (hK : K.size ≤ maxLen) (rk : Rd w ka m (fun i => .string (kf i))) (ks : ∀ i, i < m → (kf i).size ≤ maxLen) (rv : Rd w va vn (fun i => (vf i).val))
    (rb : ∀ i, i < vn → Rd w (vf i).ad (vf i).len (fun j => .int .u8 (bf i j))) (rx : Rd w xa xl (fun j => .int .u8 (xf j))) :
    Calls Try.prog 5 #[.slice ka m kc, .slice va vn vc, .bool ix, .string K, .slice xa xl xc] w (TrueEnd w) := by
  by_cases h1 : 65536 < (m : Int)
  · exact addx_big ka m kc va vn vc ix K xa xl xc kf vf w (.inl h1) rk rv
  by_cases h2 : 65536 < (vn : Int)
  · exact addx_big ka m kc va vn vc ix K xa xl xc kf vf w (.inr (.inl ⟨h1, h2⟩)) rk rv
  by_cases h3 : 1048576 < (K.size : Int)
  · exact addx_big ka m kc va vn vc ix K xa xl xc kf vf w (.inr (.inr (.inl ⟨h1, h2, h3⟩))) rk rv
  by_cases h4 : 1048576 < (xl : Int)
  · exact addx_big ka m kc va vn vc ix K xa xl xc kf vf w (.inr (.inr (.inr ⟨h1, h2, h3, h4⟩))) rk rv
  by_cases h5 : ¬ vn = m
  · exact addx_off ka m kc va vn vc ix K xa xl xc kf vf w h1 h2 h3 h4 (by rw [bne_iff_ne]; omega) rk rv
  obtain rfl : vn = m := by omega
  refine addx_main ka vn kc va vc ix K xa xl xc (fun i => if i < vn then kf i else K) vf bf xf w ?_ hK h1 h3 h4 (rk.congr fun i hi => by simp only [if_pos hi]) (fun i hi => ?_) rv rb rx
  · show (if vn < vn then kf vn else K) = K
    rw [if_neg (Nat.lt_irrefl _)]
  · show (if i < vn then kf i else K).size ≤ maxLen
    rw [if_pos hi]
    exact ks i hi
end Go.Proofs.Qxb6602653a
