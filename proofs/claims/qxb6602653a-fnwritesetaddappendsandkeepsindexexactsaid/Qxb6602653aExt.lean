/-
  A region that draws its order, walked once in the text's order, where its call lays new blocks and turns none that was there.
-/
import Derived.Test.Qxb6602653aHolds2
namespace Go.Proofs.Qxb6602653a
open Go.RowKit

/-- A world that has come of W by new blocks, by draws and by writes to new blocks. -/
structure Ext (W : World) where
  w : World
  below : Below W.heap.size W w

theorem wp_region_ext {P : Program} {id : Nat} {Q : Exit → Act → World → Prop} {a : Act} {w : World} {l : List Oper} (hm : P.follows .mixedOrders = true) (hB : Region.lexB .any l.toArray = true)
    (h : wpQuiet P l.toArray (fun w' => ∃ x : Ext w, w' = x.w) (fun a' => ∀ w', (∃ x : Ext w, w' = x.w) → Q .normal a' w') l a) : (Code.region id l.toArray true).wp P Q a w :=
  wp_region_quiet (C := fun w' => ∃ x : Ext w, w' = x.w) hm hB ⟨⟨_, (Below.refl _ w).drew⟩, rfl⟩ (by simpa using h)

theorem Ext.held (W : World) : Nonempty (Ext W) := ⟨⟨W, Below.refl _ _⟩⟩

theorem Ext.cell {W : World} (x : Ext W) {a : Addr} {v : Value} (h : W.cell? a = some v) : x.w.cell? a = some v := cell_later x.below h

/-- []string cloned: a new row at a block that is given a name. -/
theorem cloneS_g (a : Addr) (n c : Nat) (f : Nat → ByteArray) (w : World) (hn : n ≤ 1048576) (hr : Rd w (some a) n (fun i => .string (f i))) :
    Calls Try.prog 12 #[.slice (some a) n c] w fun e w' => ∃ g, e = .returned (.slice (some ⟨g, 0, none⟩) n n) ∧ w.heap.size ≤ g ∧ w'.rowIs g 9 n (fun i => .string (f i)) ∧ Below w.heap.size w w' := by
  refine (cloneS_some a n c f w hn hr).mono ?_
  rintro e w' ⟨rfl, h1, h2, _⟩
  exact ⟨_, rfl, Nat.le_refl _, h1, h2⟩

/-- []uint64 cloned. -/
theorem cloneW_g (a : Addr) (n c : Nat) (f : Nat → Int) (w : World) (hn : n ≤ 1048576) (hr : Rd w (some a) n (fun i => .int .u64 (f i))) :
    Calls Try.prog 14 #[.slice (some a) n c] w fun e w' => ∃ g, e = .returned (.slice (some ⟨g, 0, none⟩) n n) ∧ w.heap.size ≤ g ∧ w'.rowIs g 25 n (fun i => .int .u64 (f i)) ∧ Below w.heap.size w w' := by
  refine (cloneW_some a n c f w hn hr).mono ?_
  rintro e w' ⟨rfl, h1, h2, _⟩
  exact ⟨_, rfl, Nat.le_refl _, h1, h2⟩

/-- Cloned, whatever it was: the length stays. -/
theorem cloneS_len (a : Option Addr) (n c : Nat) (f : Nat → ByteArray) (w : World) (hn : n ≤ 1048576) (hr : Rd w a n (fun i => .string (f i))) :
    Calls Try.prog 12 #[.slice a n c] w fun e w' => ∃ sa sc, e = .returned (.slice sa n sc) ∧ Below w.heap.size w w' := by
  cases a with
  | none =>
    refine (cloneS_nil n c w).mono ?_
    rintro e w' ⟨rfl, rfl⟩
    have h0 := hr.none_len
    subst h0
    exact ⟨none, 0, rfl, Below.refl _ _⟩
  | some a =>
    refine (cloneS_g a n c f w hn hr).mono ?_
    rintro e w' ⟨g, rfl, _, _, h⟩
    exact ⟨_, _, rfl, h⟩
theorem cloneW_len (a : Option Addr) (n c : Nat) (f : Nat → Int) (w : World) (hn : n ≤ 1048576) (hr : Rd w a n (fun i => .int .u64 (f i))) :
    Calls Try.prog 14 #[.slice a n c] w fun e w' => ∃ sa sc, e = .returned (.slice sa n sc) ∧ Below w.heap.size w w' := by
  cases a with
  | none =>
    refine (cloneW_nil n c w).mono ?_
    rintro e w' ⟨rfl, rfl⟩
    have h0 := hr.none_len
    subst h0
    exact ⟨none, 0, rfl, Below.refl _ _⟩
  | some a =>
    refine (cloneW_g a n c f w hn hr).mono ?_
    rintro e w' ⟨g, rfl, _, _, h⟩
    exact ⟨_, _, rfl, h⟩
end Go.Proofs.Qxb6602653a
