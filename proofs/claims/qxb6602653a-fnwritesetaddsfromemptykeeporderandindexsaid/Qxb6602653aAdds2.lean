/-
  The walk of FnWriteSetAddsFromEmptyKeepOrderAndIndex (function 6) at every input.
-/
import Derived.Test.Qxb6602653aAdds
namespace Go.Proofs.Qxb6602653a
open Go.RowKit Go.Maps
set_option linter.unusedVariables false

set_option maxHeartbeats 1000000 in
set_option maxRecDepth 100000 in
theorem adds_big (ka : Option Addr) (m kc : Nat) (va : Option Addr) (vn vc : Nat) (kf : Nat → ByteArray) (vf : Nat → Sl) (w : World)
    (hbig : 4096 < (m : Int) ∨ (¬ 4096 < (m : Int) ∧ 4096 < (vn : Int))) (rk : Rd w ka m (fun i => .string (kf i))) (rv : Rd w va vn (fun i => (vf i).val)) :
    Calls Try.prog 6 #[.slice ka m kc, .slice va vn vc] w (TrueEnd w) := by
  have RK : Hid (Rd w ka m (fun i => .string (kf i))) := rk
  have RV : Hid (Rd w va vn (fun i => (vf i).val)) := rv
  clear rk rv
  rcases hbig with h1 | ⟨h1, h2⟩
  all_goals
    go_enter Try.func6, Try.ntmps6
    go_wp2_with fail
    refine (zz23 _ m kc kf _ vn vc vf _ RK.out RV.out).mono ?_
    rintro e w0 ⟨b, rfl, rfl⟩
    cases b
    all_goals
      go_wp2_with fail
      go_ret
      exact ⟨rfl, Below.refl _ _⟩

set_option maxHeartbeats 1000000 in
set_option maxRecDepth 100000 in
theorem adds_off (ka : Option Addr) (m kc : Nat) (va : Option Addr) (vn vc : Nat) (kf : Nat → ByteArray) (vf : Nat → Sl) (w : World)
    (h1 : ¬ 4096 < (m : Int)) (h2 : ¬ 4096 < (vn : Int)) (hoff : ((vn : Int) != (m : Int)) = true) (rk : Rd w ka m (fun i => .string (kf i))) (rv : Rd w va vn (fun i => (vf i).val)) :
    Calls Try.prog 6 #[.slice ka m kc, .slice va vn vc] w (TrueEnd w) := by
  have RK : Hid (Rd w ka m (fun i => .string (kf i))) := rk
  have RV : Hid (Rd w va vn (fun i => (vf i).val)) := rv
  clear rk rv
  go_enter Try.func6, Try.ntmps6
  go_wp2_with fail
  refine (zz23 _ m kc kf _ vn vc vf _ RK.out RV.out).mono ?_
  rintro e w0 ⟨b, rfl, rfl⟩
  cases b
  · go_wp2_with fail
    go_ret
    exact ⟨rfl, Below.refl _ _⟩
  go_wp2_with fail
  refine (strFit _ _ m kc kf _ (by omega) (by omega) (by unfold maxLen; omega) RK.out).mono ?_
  rintro e w0 ⟨t, b, rfl, rfl, ht0, ht1, -⟩
  cases b
  · go_wp2_with fail
    go_ret
    exact ⟨rfl, Below.refl _ _⟩
  go_wp2_with fail
  refine (bytFit _ _ vn vc vf _ ht0 ht1 (by unfold maxLen; omega) RV.out).mono ?_
  rintro e w0 ⟨t2, b, rfl, rfl, ht20, ht21, -⟩
  cases b
  all_goals
    go_wp2_with fail
    go_ret
    exact ⟨rfl, Below.refl _ _⟩

set_option maxHeartbeats 1000000 in
set_option maxRecDepth 100000 in
theorem adds_none (ka : Option Addr) (m kc : Nat) (va : Option Addr) (vc : Nat) (kf : Nat → ByteArray) (vf : Nat → Sl) (bf : Nat → Nat → Int) (w : World)
    (hm0 : m ≤ 0) (rk : Rd w ka m (fun i => .string (kf i))) (rv : Rd w va m (fun i => (vf i).val)) (rb : ∀ i, i < m → Rd w (vf i).ad (vf i).len (fun j => .int .u8 (bf i j))) :
    Calls Try.prog 6 #[.slice ka m kc, .slice va m vc] w (TrueEnd w) := by
  have RK : Hid (Rd w ka m (fun i => .string (kf i))) := rk
  have RV : Hid (Rd w va m (fun i => (vf i).val)) := rv
  have RB : Hid (∀ i, i < m → Rd w (vf i).ad (vf i).len (fun j => .int .u8 (bf i j))) := rb
  clear rk rv rb
  have hmm := fun (x : Int) (w : World) => makeMap_hint Try.underlying39 x w
  have qm := neqNilMap
  have hd16 : decide ((16 : Int) < (m : Int)) = false := decide_eq_false (by omega)
  have em : (((0 : Int)) != (m : Int)) = false := by simp; omega
  go_enter Try.func6, Try.ntmps6
  go_wp2_with fail
  refine (zz23 _ m kc kf _ m vc vf _ RK.out RV.out).mono ?_
  rintro e w0 ⟨b, rfl, rfl⟩
  cases b
  · go_wp2_with fail
    go_ret
    exact ⟨rfl, Below.refl _ _⟩
  go_wp2_with fail
  refine (strFit _ _ m kc kf _ (by omega) (by omega) (by unfold maxLen; omega) RK.out).mono ?_
  rintro e w0 ⟨t, b, rfl, rfl, ht0, ht1, -⟩
  cases b
  · go_wp2_with fail
    go_ret
    exact ⟨rfl, Below.refl _ _⟩
  go_wp2_with fail
  refine (bytFit _ _ m vc vf _ ht0 ht1 (by unfold maxLen; omega) RV.out).mono ?_
  rintro e w0 ⟨t2, b, rfl, rfl, ht20, ht21, hlen⟩
  cases b
  · go_wp2_with fail
    go_ret
    exact ⟨rfl, Below.refl _ _⟩
  clear hlen
  go_wp2_with fail
  go_loop [8] (fun i => i = .int .i64 0) (fun _ => 0)
  case atStart => rfl
  case round =>
    subst hrel
    have RK1 : Hid (∀ o, Rd (w0.alloc o) ka m (fun i => .string (kf i))) := fun o => RK.out.later ((Below.refl _ w0).alloc (Nat.le_refl _) o)
    go_wp2_with fail
    refine (cloneS_len ka m kc kf _ (by omega) (RK1.out _)).mono ?_
    rintro e w2 ⟨sa, sc, rfl, b2⟩
    have B2 : Hid (Below w0.heap.size w0 w2) := ((Below.refl _ w0).alloc (Nat.le_refl _) _).trans (b2.mono (by simp))
    clear b2
    have RV2 : Hid (Rd w2 va m (fun i => (vf i).val)) := RV.out.later B2.out
    go_wp2_with fail
    refine (cloneA_len va m vc vf bf _ (by omega) RV2.out (fun i hi => absurd hi (by omega)) (fun i hi => absurd hi (by omega))).mono ?_
    rintro e w3 ⟨xa, xc, rfl, b3⟩
    have B3 : Hid (Below w0.heap.size w0 w3) := B2.out.trans (b3.mono B2.out.size)
    clear b3
    go_wp2_with fail
    refine (zzof_nil w3.heap.size kf vf _ (Nat.le_refl _)).mono ?_
    rintro e w4 ⟨P, rfl, ws4, b4⟩
    have WS4 : Hid (WS w3.heap.size kf vf w4 P 0 none) := ws4
    have B4 : Hid (Below w0.heap.size w0 w4) := B3.out.trans (b4.mono B3.out.size)
    clear ws4 b4
    go_wp2_with fail
    go_loop [10] (fun i => i = .int .i64 0) (fun _ => 0)
    case atStart => rfl
    case round =>
      subst hrel
      go_wp2_with fail
      refine (zzview w3.heap.size P 0 none kf vf _ WS4.out (by omega)).mono ?_
      rintro e w6 ⟨gk', gv', rfl, le6, le6', r6, r6', b6⟩
      have B6 : Hid (Below w0.heap.size w0 w6) := B4.out.trans (b6.mono B4.out.size)
      clear r6 r6' b6
      go_wp2_with fail
      go_ret
      exact ⟨rfl, B6.out⟩

theorem adds (ka : Option Addr) (m kc : Nat) (va : Option Addr) (vn vc : Nat) (kf : Nat → ByteArray) (vf : Nat → Sl) (bf : Nat → Nat → Int) (w : World)
    (rk : Rd w ka m (fun i => .string (kf i))) (ks : ∀ i, i < m → (kf i).size ≤ maxLen) (rv : Rd w va vn (fun i => (vf i).val)) (rb : ∀ i, i < vn → Rd w (vf i).ad (vf i).len (fun j => .int .u8 (bf i j))) :
    Calls Try.prog 6 #[.slice ka m kc, .slice va vn vc] w (TrueEnd w) := by
  by_cases h1 : 4096 < (m : Int)
  · exact adds_big ka m kc va vn vc kf vf w (.inl h1) rk rv
  by_cases h2 : 4096 < (vn : Int)
  · exact adds_big ka m kc va vn vc kf vf w (.inr ⟨h1, h2⟩) rk rv
  by_cases h3 : ¬ vn = m
  · exact adds_off ka m kc va vn vc kf vf w h1 h2 (by rw [bne_iff_ne]; omega) rk rv
  obtain rfl : vn = m := by omega
  by_cases h4 : 0 < vn
  · obtain ⟨b1, o1, rfl, hb, hc⟩ := rk.at h4
    obtain ⟨b2, o2, rfl, _, _⟩ := rv.at h4
    exact adds_main b1 o1 vn kc b2 o2 vc kf vf bf w h4 h1 hb hc ks rv rb
  · exact adds_none ka vn kc va vc kf vf bf w (by omega) rk rv rb
end Go.Proofs.Qxb6602653a
