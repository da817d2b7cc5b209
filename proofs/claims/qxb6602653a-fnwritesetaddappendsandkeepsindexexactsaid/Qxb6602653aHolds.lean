/-
  The walk of FnSlotWriteHoldsOwnCopy (function 7), out of its callees' contracts.
-/
import Derived.Test.Qxb6602653aSlot
import Derived.Test.Qxb6602653aSame
namespace Go.Proofs.Qxb6602653a
open Go.RowKit

/-- A function that only answers a bool. -/
def BoolEnd (w : World) (e : Ending) (w' : World) : Prop := ∃ b : Bool, e = .returned (.bool b) ∧ w' = w
theorem BoolEnd.mk (w : World) (b : Bool) : BoolEnd w (.returned (.bool b)) w := ⟨b, rfl, rfl⟩

theorem zz24 (h : Int) (k : ByteArray) (oa : Option Addr) (on oc : Nat) (cp gen : Int) (va : Option Addr) (n c : Nat) (w : World) :
    Calls Try.prog 24 #[.int .u64 h, .string k, .slice oa on oc, .int .u64 cp, .int .u64 gen, .slice va n c] w (BoolEnd w) := by
  go_enter Try.func24, Try.ntmps24
  go_wp2
  all_goals
    go_ret
    exact BoolEnd.mk _ _

/-- What the law leaves. -/
def TrueEnd (w : World) (e : Ending) (w' : World) : Prop := e = .returned (.bool true) ∧ Below w.heap.size w w'

/-- The bounds: one of them says no. -/
theorem holds_big (h : Int) (k : ByteArray) (oa : Option Addr) (on oc : Nat) (cp gen : Int) (va : Option Addr) (n c : Nat) (w : World)
    (hbig : 1048576 < (k.size : Int) ∨ (¬ 1048576 < (k.size : Int) ∧ 1048576 < (on : Int)) ∨ (¬ 1048576 < (k.size : Int) ∧ ¬ 1048576 < (on : Int) ∧ 1048576 < (n : Int)) ∨
      (¬ 1048576 < (k.size : Int) ∧ ¬ 1048576 < (on : Int) ∧ ¬ 1048576 < (n : Int) ∧ 1048576 < (k.size : Int) + on + n)) :
    Calls Try.prog 7 #[.int .u64 h, .string k, .slice oa on oc, .int .u64 cp, .int .u64 gen, .slice va n c] w (TrueEnd w) := by
  rcases hbig with h1 | ⟨h1, h2⟩ | ⟨h1, h2, h3⟩ | ⟨h1, h2, h3, h4⟩
  all_goals
    go_enter Try.func7, Try.ntmps7
    go_wp2_with fail
    refine (zz24 _ _ _ _ _ _ _ _ _ _ _).mono ?_
    rintro e w' ⟨b, rfl, rfl⟩
    cases b
    all_goals
      go_wp2_with fail
      go_ret
      exact ⟨rfl, Below.refl _ _⟩

/-- lawCloneBytes, whatever it is handed. -/
theorem cloneB_any2 (a : Option Addr) (n c : Nat) (g : Nat → Int) (w : World) (hn : n ≤ 1048576) (hr : Rd w a n (fun i => .int .u8 (g i))) :
    Calls Try.prog 18 #[.slice a n c] w fun e w' => ∃ sa sc, e = .returned (.slice sa n sc) ∧ OwnB w' w.heap.size ⟨sa, n, sc⟩ n (a = none) g ∧ Below w.heap.size w w' := by
  refine (cloneB_any a n c g w hn hr).mono ?_
  rintro e w' ⟨sa, sl, sc, rfl, h1, h2⟩
  obtain rfl : sl = n := h1.1
  exact ⟨sa, sc, rfl, h1, h2⟩

/-- The value is nil. -/
theorem holds_nil (h : Int) (k : ByteArray) (oa : Option Addr) (on oc : Nat) (cp gen : Int) (n c : Nat) (of : Nat → Int) (w : World)
    (h1 : ¬ 1048576 < (k.size : Int)) (h2 : ¬ 1048576 < (on : Int)) (h3 : n ≤ 0) (h4 : ¬ 1048576 < (k.size : Int) + on + n) (ho : Rd w oa on (fun j => .int .u8 (of j))) :
    Calls Try.prog 7 #[.int .u64 h, .string k, .slice oa on oc, .int .u64 cp, .int .u64 gen, .slice none n c] w (TrueEnd w) := by
  have q := eqlNil Try.underlying37
  have HO : Hid (Rd w oa on (fun j => .int .u8 (of j))) := ho
  clear ho
  go_enter Try.func7, Try.ntmps7
  go_wp2_with fail
  refine (zz24 _ _ _ _ _ _ _ _ _ _ _).mono ?_
  rintro e w' ⟨b, rfl, rfl⟩
  cases b
  · go_wp2_with fail
    go_ret
    exact ⟨rfl, Below.refl _ _⟩
  go_wp2_with fail
  refine (cloneB_any2 oa on oc of _ (by omega) HO.out).mono ?_
  rintro e w1 ⟨sa, sc, rfl, ho1, hb1⟩
  have HB1 : Hid (Below w'.heap.size w' w1) := hb1
  have HO1 : Hid (Rd w1 sa on (fun j => .int .u8 (of j))) := ho1.rd
  clear ho1 hb1
  go_wp2_with fail
  refine (cloneB_nil n c _).mono ?_
  rintro e w2 ⟨rfl, rfl⟩
  go_wp2_with fail
  refine (cloneB_any2 sa on sc of _ (by omega) HO1.out).mono ?_
  rintro e w3 ⟨sa3, sc3, rfl, ho3, hb3⟩
  have HB3 : Hid (Below w'.heap.size w' w3) := HB1.out.trans (hb3.mono HB1.out.size)
  clear ho3 hb3
  go_wp2_with fail
  refine (cloneB_nil 0 0 _).mono ?_
  rintro e w4 ⟨rfl, rfl⟩
  go_wp2_with fail
  refine (zslot_nil h k sa on sc cp gen 0 0 _).mono ?_
  rintro e w5 ⟨rfl, hb5⟩
  have HB5 : Hid (Below w'.heap.size w' w5) := HB3.out.trans (hb5.mono HB3.out.size)
  clear hb5
  go_wp2_with fail
  refine (same_nil 0 0 0 0 _ (Nat.le_refl _) (Nat.le_refl _)).mono ?_
  rintro e w6 ⟨rfl, m, rfl⟩
  go_wp2_with fail
  go_ret
  exact ⟨rfl, below_drewN HB5.out _⟩
end Go.Proofs.Qxb6602653a
