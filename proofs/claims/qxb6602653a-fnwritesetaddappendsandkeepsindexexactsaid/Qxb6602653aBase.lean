/-
  The closed facts of the program's tables that the walks of this seat use, and small laws on worlds. No Go function is walked here.
-/
import Derived.Test.Qxb6602653aRows
import Derived.WalkKit
import Derived.ProofKit
import Derived.WalkSpells
import Derived.WalkLawsBesides
import Derived.Deep.OwnRows
import Derived.Deep.QuietTactic
import Derived.BigQuiet
import Derived.Lib.SliceRun
namespace Go.Proofs.Qxb6602653a
open Go.RowKit

theorem info5 : (Try.prog.info? 5).map (fun i => (i.zero, i.size, i.bytes)) = some (some (.int .u8 0), 1, 1) := by kernel_rfl
theorem info25 : (Try.prog.info? 25).map (fun i => (i.zero, i.size, i.bytes)) = some (some (.int .u64 0), 1, 8) := by kernel_rfl
theorem info3 : (Try.prog.info? 3).map (fun i => (i.zero, i.size, i.bytes)) = some (some (.int .i64 0), 1, 8) := by kernel_rfl
theorem info9 : (Try.prog.info? 9).map (fun i => (i.zero, i.size, i.bytes)) = some (some (.string ByteArray.empty), 1, 16) := by kernel_rfl
theorem info37 : (Try.prog.info? 37).map (fun i => (i.zero, i.size, i.bytes)) = some (some (.slice none 0 0), 1, 24) := by kernel_rfl

/-- 'x == nil' on a slice, for every world. -/
theorem eqlNil {t e : TypeId} (h : Try.prog.underlying t = some (.slice e)) : ∀ (w : World) (a : Option Addr) (n c : Nat), (binOp .eql t (.slice a n c) (.slice none 0 0)).run Try.prog w = .ok (.bool a.isNone) w :=
  fun w a n c => Lib.run_eql_slice_nil w t e a n c 0 0 h

/-- A slice's first 'n' cells, wherever they lie: cell i holds 'f i'. (Of an empty slice's address nothing is said.) -/
def Rd (w : World) (a : Option Addr) (n : Nat) (f : Nat → Value) : Prop := ∀ i, i < n → ∃ x, a = some x ∧ w.cell? (x.add i) = some (f i)

theorem Rd.at {w : World} {a : Option Addr} {n : Nat} {f : Nat → Value} (h : Rd w a n f) (hn : 0 < n) : ∃ b o, a = some ⟨b, o, none⟩ ∧ b < w.heap.size ∧ ∀ i, i < n → w.cell? ⟨b, o + i, none⟩ = some (f i) := by
  obtain ⟨⟨b, o, s⟩, rfl, h0⟩ := h 0 hn
  have hs : s = none := by simpa [Addr.add] using World.cell?_spot h0
  subst hs
  have hall : ∀ i, i < n → w.cell? ⟨b, o + i, none⟩ = some (f i) := fun i hi => by
    obtain ⟨x, hx, hc⟩ := h i hi
    obtain rfl := Option.some.inj hx
    rwa [Addr.add_lit] at hc
  exact ⟨b, o, rfl, World.block_lt_of_cell? w _ (hall 0 hn), hall⟩

theorem Rd.mk {w : World} {b o n : Nat} {f : Nat → Value} (h : ∀ i, i < n → w.cell? ⟨b, o + i, none⟩ = some (f i)) : Rd w (some ⟨b, o, none⟩) n f :=
  fun i hi => ⟨_, rfl, by rw [Addr.add_lit]; exact h i hi⟩

theorem Rd.row {w : World} {b t n m : Nat} {f : Nat → Value} (h : w.rowIs b t n f) (hm : m ≤ n) : Rd w (some ⟨b, 0, none⟩) m f :=
  Rd.mk fun i hi => by rw [Nat.zero_add]; exact h.cell (by omega)

/-- What was read stays read while its block stays. -/
theorem Rd.later {w w' : World} {a : Option Addr} {n : Nat} {f : Nat → Value} (h : Rd w a n f) (hb : Below w.heap.size w w') : Rd w' a n f := fun i hi => by
  obtain ⟨x, hx, hc⟩ := h i hi
  exact ⟨x, hx, cell_later hb hc⟩

theorem Rd.congr {w : World} {a : Option Addr} {n : Nat} {f g : Nat → Value} (h : Rd w a n f) (e : ∀ i, i < n → f i = g i) : Rd w a n g := fun i hi => by
  obtain ⟨x, hx, hc⟩ := h i hi
  exact ⟨x, hx, by rw [hc, e i hi]⟩

theorem Rd.none_len {w : World} {n : Nat} {f : Nat → Value} (h : Rd w none n f) : n = 0 := by
  rcases Nat.eq_zero_or_pos n with e | e
  · exact e
  · obtain ⟨x, hx, _⟩ := h 0 e
    cases hx

theorem str_ne {a b : ByteArray} (h : ¬ a = b) : (a.toList == b.toList) = false := by
  rw [beq_eq_false_iff_ne]
  intro e
  apply h
  rw [ByteArray.toList_eq, ByteArray.toList_eq] at e
  cases a; cases b
  simp at e
  rw [e]

theorem below_drewN {B : Nat} {w w1 : World} (h : Below B w w1) (k : Nat) : Below B w (w1.drewN k) := ⟨h.os, h.tape, h.output, h.size, h.block⟩

end Go.Proofs.Qxb6602653a
