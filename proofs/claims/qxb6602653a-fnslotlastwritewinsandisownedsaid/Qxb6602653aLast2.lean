/-
  The walk of FnSlotLastWriteWinsAndIsOwned (function 8) at every input.
-/
import Derived.Test.Qxb6602653aLast
namespace Go.Proofs.Qxb6602653a
open Go.RowKit
set_option linter.unusedVariables false

set_option maxHeartbeats 1000000 in
set_option maxRecDepth 100000 in
theorem last_big (oa : Option Addr) (on oc : Nat) (cp : Int) (ga : Option Addr) (gn gc : Nat) (va : Option Addr) (n vc : Nat) (vf : Nat → Sl) (w : World)
    (hbig : 1048576 < (on : Int) ∨ (¬ 1048576 < (on : Int) ∧ 65536 < (gn : Int)) ∨ (¬ 1048576 < (on : Int) ∧ ¬ 65536 < (gn : Int) ∧ 65536 < (n : Int))) (rv : Rd w va n (fun i => (vf i).val)) :
    Calls Try.prog 8 #[.slice oa on oc, .int .u64 cp, .slice ga gn gc, .slice va n vc] w (TrueEnd w) := by
  have RV : Hid (Rd w va n (fun i => (vf i).val)) := rv
  clear rv
  rcases hbig with h1 | ⟨h1, h2⟩ | ⟨h1, h2, h3⟩
  all_goals
    go_enter Try.func8, Try.ntmps8
    go_wp2_with fail
    refine (zz26 _ _ _ _ _ _ _ _ n vc vf _ RV.out).mono ?_
    rintro e w0 ⟨b, rfl, rfl⟩
    cases b
    all_goals
      go_wp2_with fail
      go_ret
      exact ⟨rfl, Below.refl _ _⟩

set_option maxHeartbeats 1000000 in
set_option maxRecDepth 100000 in
theorem last_off (oa : Option Addr) (on oc : Nat) (cp : Int) (ga : Option Addr) (gn gc : Nat) (va : Option Addr) (n vc : Nat) (vf : Nat → Sl) (w : World)
    (h1 : ¬ 1048576 < (on : Int)) (h2 : ¬ 65536 < (gn : Int)) (h3 : ¬ 65536 < (n : Int)) (hoff : ((gn : Int) != (n : Int)) = true ∨ (((gn : Int) != (n : Int)) = false ∧ ((n : Int) == 0) = true)) (rv : Rd w va n (fun i => (vf i).val)) :
    Calls Try.prog 8 #[.slice oa on oc, .int .u64 cp, .slice ga gn gc, .slice va n vc] w (TrueEnd w) := by
  have RV : Hid (Rd w va n (fun i => (vf i).val)) := rv
  clear rv
  rcases hoff with h4 | ⟨h4, h5⟩
  all_goals
    go_enter Try.func8, Try.ntmps8
    go_wp2_with fail
    refine (zz26 _ _ _ _ _ _ _ _ n vc vf _ RV.out).mono ?_
    rintro e w0 ⟨b, rfl, rfl⟩
    cases b
    · go_wp2_with fail
      go_ret
      exact ⟨rfl, Below.refl _ _⟩
    go_wp2_with fail
    refine (bytFit _ _ n vc vf _ (by omega) (by omega) (by unfold maxLen; omega) RV.out).mono ?_
    rintro e w0 ⟨t, b, rfl, rfl, ht0, ht1, -⟩
    cases b
    all_goals
      go_wp2_with fail
      go_ret
      exact ⟨rfl, Below.refl _ _⟩

theorem last (oa : Option Addr) (on oc : Nat) (cp : Int) (ga : Option Addr) (gn gc : Nat) (va : Option Addr) (n vc : Nat) (of : Nat → Int) (gf : Nat → Nat) (vf : Nat → Sl) (bf : Nat → Nat → Int) (w : World)
    (ro : Rd w oa on (fun j => .int .u8 (of j))) (rg : Rd w ga gn (fun i => .int .u64 (gf i : Int))) (rv : Rd w va n (fun i => (vf i).val)) (rb : ∀ i, i < n → Rd w (vf i).ad (vf i).len (fun j => .int .u8 (bf i j))) :
    Calls Try.prog 8 #[.slice oa on oc, .int .u64 cp, .slice ga gn gc, .slice va n vc] w (TrueEnd w) := by
  by_cases h1 : 1048576 < (on : Int)
  · exact last_big oa on oc cp ga gn gc va n vc vf w (.inl h1) rv
  by_cases h2 : 65536 < (gn : Int)
  · exact last_big oa on oc cp ga gn gc va n vc vf w (.inr (.inl ⟨h1, h2⟩)) rv
  by_cases h3 : 65536 < (n : Int)
  · exact last_big oa on oc cp ga gn gc va n vc vf w (.inr (.inr ⟨h1, h2, h3⟩)) rv
  by_cases h4 : ¬ gn = n
  · exact last_off oa on oc cp ga gn gc va n vc vf w h1 h2 h3 (.inl (by rw [bne_iff_ne]; omega)) rv
  obtain rfl : gn = n := by omega
  by_cases h5 : gn = 0
  · exact last_off oa on oc cp ga gn gc va gn vc vf w h1 h2 h3 (.inr ⟨by simp, by simp [h5]⟩) rv
  · obtain ⟨b1, o1, rfl, _, _⟩ := rg.at (by omega)
    obtain ⟨b2, o2, rfl, _, _⟩ := rv.at (by omega)
    exact last_main oa on oc cp _ gc _ vc gn of gf vf bf w (by omega) h1 h2 ro rg rv rb
end Go.Proofs.Qxb6602653a
