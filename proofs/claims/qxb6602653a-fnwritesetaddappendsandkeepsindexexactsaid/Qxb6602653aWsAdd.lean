/-
  The write set in memory, and the walk of (*WriteSet).add (function 28).
-/
import Derived.Test.Qxb6602653aWs
import Derived.Deep.RegionHeld3
namespace Go.Proofs.Qxb6602653a
open Go.RowKit Go.Maps
set_option linter.unusedVariables false

theorem info59 : (Try.prog.info? 59).map (fun i => (i.zero, i.size, i.bytes)) = some (some (.agg #[.string ByteArray.empty, .slice none 0 0]), 2, 40) := by kernel_rfl

/-- The cells of the first n writes. -/
def wcells (kf : Nat → ByteArray) (vv : Nat → Sl) : Nat → List Value
  | 0 => []
  | n + 1 => wcells kf vv n ++ [.string (kf n), (vv n).val]
theorem wcells_length (kf : Nat → ByteArray) (vv : Nat → Sl) : ∀ n, (wcells kf vv n).length = n * 2
  | 0 => rfl
  | n + 1 => by simp [wcells, wcells_length kf vv n]; omega
theorem wcells_at (kf : Nat → ByteArray) (vv : Nat → Sl) : ∀ n i, i < n → (wcells kf vv n)[i * 2]? = some (.string (kf i)) ∧ (wcells kf vv n)[i * 2 + 1]? = some ((vv i).val)
  | 0, i, hi => by omega
  | n + 1, i, hi => by
    have hl := wcells_length kf vv n
    unfold wcells
    by_cases e : i = n
    · subst e
      rw [List.getElem?_append_right (by omega), List.getElem?_append_right (by omega), hl]
      simp
    · obtain ⟨h1, h2⟩ := wcells_at kf vv n i (by omega)
      rw [List.getElem?_append_left (by omega), List.getElem?_append_left (by omega)]
      exact ⟨h1, h2⟩

/-- The write set's own cells: the slice of its writes, and its index. -/
structure WR (B : Nat) (kf : Nat → ByteArray) (vv : Nat → Sl) (w : World) (P n : Nat) (sa : Option Addr) (sc : Nat) (idx : Option Nat) : Prop where
  pB : B ≤ P
  row : ∃ f : Nat → Value, w.rowIs P 62 10 f ∧ f 0 = .slice sa n sc ∧ f 9 = .map idx
  own : w.ownsRow B 59 2 (.slice sa n sc) n (wcells kf vv n)

theorem WR.c0 {B : Nat} {kf : Nat → ByteArray} {vv : Nat → Sl} {w : World} {P n : Nat} {sa : Option Addr} {sc : Nat} {idx : Option Nat} (h : WR B kf vv w P n sa sc idx) : w.cell? ⟨P, 0, none⟩ = some (.slice sa n sc) ∧ w.frozen? ⟨P, 0, none⟩ = false := by
  obtain ⟨f, h1, h2, h3⟩ := h.row
  exact ⟨by rw [h1.cell (by omega), h2], h1.frozen 0⟩
theorem WR.c9 {B : Nat} {kf : Nat → ByteArray} {vv : Nat → Sl} {w : World} {P n : Nat} {sa : Option Addr} {sc : Nat} {idx : Option Nat} (h : WR B kf vv w P n sa sc idx) : w.cell? ⟨P, 9, none⟩ = some (.map idx) ∧ w.frozen? ⟨P, 9, none⟩ = false := by
  obtain ⟨f, h1, h2, h3⟩ := h.row
  exact ⟨by rw [h1.cell (by omega), h3], h1.frozen 9⟩
theorem WR.lt {B : Nat} {kf : Nat → ByteArray} {vv : Nat → Sl} {w : World} {P n : Nat} {sa : Option Addr} {sc : Nat} {idx : Option Nat} (h : WR B kf vv w P n sa sc idx) : P < w.heap.size := by
  obtain ⟨f, h1, _⟩ := h.row
  exact h1.lt
/-- The writes lie in another block than the write set. -/
theorem WR.apart {B : Nat} {kf : Nat → ByteArray} {vv : Nat → Sl} {w : World} {P n : Nat} {sa : Option Addr} {sc : Nat} {idx : Option Nat} (h : WR B kf vv w P n sa sc idx) : (Value.slice sa n sc).ownBlock ≠ some P := by
  obtain ⟨f, ⟨c, h1, _⟩, _⟩ := h.row
  rcases h.own.2 with ⟨q, _⟩ | ⟨g, cap, cur, q, _, hg, _⟩
  · rw [q]; simp [Value.ownBlock]
  · rw [q]
    simp only [Value.ownBlock]
    intro e
    obtain rfl := Option.some.inj e
    rw [h1] at hg
    simp at hg
/-- The write set stays while other blocks are written. -/
theorem WR.kept {B : Nat} {kf : Nat → ByteArray} {vv : Nat → Sl} {w w' : World} {P n : Nat} {sa : Option Addr} {sc : Nat} {idx : Option Nat} {row : Option Nat} (h : WR B kf vv w P n sa sc idx) (hg : w.grownBy w' row) (h1 : row ≠ some P) (h2 : (Value.slice sa n sc).ownBlock = none ∨ (Value.slice sa n sc).ownBlock ≠ row) : WR B kf vv w' P n sa sc idx := by
  obtain ⟨f, r1, r2⟩ := h.row
  exact ⟨h.pB, ⟨f, r1.of_block (hg.block P r1.lt (Ne.symm h1)), r2⟩, h.own.kept hg h2⟩

/-- The append of one write. -/
theorem ws_append {B : Nat} {kf : Nat → ByteArray} {vv : Nat → Sl} {w : World} {P n j : Nat} {sa : Option Addr} {sc : Nat} {idx : Option Nat} (h : WR B kf vv w P n sa sc idx) (hn : n ≤ 1048576) (hB : B ≤ w.heap.size) (hi : ∀ bm, idx = some bm → IdxAt w bm kf j) :
    ∃ g cap w2, (Builtin.append_ #[57, 57] 57 #[.slice sa n sc, .slice (some ⟨w.heap.size, 0, none⟩) 1 1]).run Try.prog (w.alloc (.cells #[.string (kf n), (vv n).val] 59)) = .ok (.slice (some ⟨g, 0, none⟩) (n + 1) cap) w2 ∧
      WR B kf vv (w2.setCell ⟨P, 0, none⟩ (.slice (some ⟨g, 0, none⟩) (n + 1) cap)) P (n + 1) (some ⟨g, 0, none⟩) cap idx ∧ Below B w (w2.setCell ⟨P, 0, none⟩ (.slice (some ⟨g, 0, none⟩) (n + 1) cap)) ∧
      (∀ bm, idx = some bm → IdxAt (w2.setCell ⟨P, 0, none⟩ (.slice (some ⟨g, 0, none⟩) (n + 1) cap)) bm kf j) ∧ w2.cell? ⟨P, 0, none⟩ = some (.slice sa n sc) ∧ w2.frozen? ⟨P, 0, none⟩ = false ∧ w2.cell? ⟨P, 9, none⟩ = some (.map idx) ∧ w2.frozen? ⟨P, 9, none⟩ = false := by
  obtain ⟨i0, hi0, hz0, hz1, hz2⟩ := info_parts info59
  have hP := h.lt
  have hsrc : ∀ j u, [Value.string (kf n), (vv n).val][j]? = some u → (w.alloc (.cells #[.string (kf n), (vv n).val] 59)).cell? ((⟨w.heap.size, 0, none⟩ : Addr).add j) = some u := by
    intro j u hj
    have hr := World.rowIs_alloc w #[.string (kf n), (vv n).val] 59 (fun j => [Value.string (kf n), (vv n).val].getD j undef) (by
      intro i hi
      rcases (by simp at hi; omega : i = 0 ∨ i = 1) with rfl | rfl <;> simp)
    have hj2 : j < 2 := by
      have := (List.getElem?_eq_some_iff.1 hj).1
      simpa using this
    rw [Addr.add_lit, Nat.zero_add, hr.cell (by simpa using hj2)]
    rcases (by omega : j = 0 ∨ j = 1) with rfl | rfl <;> simpa using hj
  have hm : ∀ u ∈ [Value.string (kf n), (vv n).val], u.oneCell' = true := by
    intro u hu
    simp at hu
    rcases hu with rfl | rfl <;> rfl
  obtain ⟨v', w2, hrun, hown2, hgr, hnil⟩ := run_append_own (P := Try.prog) (w.alloc (.cells #[.string (kf n), (vv n).val] 59)) B 57 57 59 i0 _ 2 40 Try.underlying57 hi0 hz0 hz1 hz2 rfl (by decide) _ n _ (h.own.alloc _) ⟨w.heap.size, 0, none⟩ 1 1 [.string (kf n), (vv n).val] rfl hsrc hm (by unfold maxLen; omega) (by omega) (by simp; omega)
  have hall : w.grownBy w2 (Value.slice sa n sc).ownBlock := (World.grownBy_alloc w _ _).trans hgr
  obtain ⟨hlen, ⟨rfl, hn0⟩ | ⟨g, cap, cur, rfl, hge, hblk, hnc, hcm, hcs, htk⟩⟩ := hown2
  · omega
  · obtain ⟨f, r1, r2, r3⟩ := h.row
    have r1' : w2.rowIs P 62 10 f := r1.of_block (hall.block P hP (Ne.symm h.apart))
    have hgP : g ≠ P := by
      intro e
      subst e
      obtain ⟨c, q, _⟩ := r1'
      rw [hblk] at q
      simp at q
    have own2 : w2.ownsRow B 59 2 (.slice (some ⟨g, 0, none⟩) (n + 1) cap) (n + 1) (wcells kf vv (n + 1)) := ⟨by simpa [wcells] using hlen, .inr ⟨g, cap, cur, rfl, hge, hblk, hnc, hcm, hcs, by simpa [wcells] using htk⟩⟩
    have hset : w2.grownBy (w2.setCell ⟨P, 0, none⟩ (.slice (some ⟨g, 0, none⟩) (n + 1) cap)) (some P) := grownBy_set (World.grownBy.refl w2 (some P)) ⟨P, 0, none⟩ rfl _
    have hbel : Below B w w2 := (Below.refl B w).grown hall hB (fun k hk => by
      rcases h.own.2 with ⟨q, _⟩ | ⟨g', cap', cur', q, hb', _⟩
      · rw [q] at hk; simp [Value.ownBlock] at hk
      · rw [q] at hk; simp only [Value.ownBlock, Option.some.injEq] at hk; omega)
    refine ⟨g, cap, w2, hrun, ⟨h.pB, ⟨_, r1'.set 0 _, by simp, by simpa using r3⟩, own2.kept hset (.inr (by simpa [Value.ownBlock] using hgP))⟩, hbel.setCell h.pB _, fun bm hbm => ?_, by rw [r1'.cell (by omega), r2], r1'.frozen 0, by rw [r1'.cell (by omega), r3], r1'.frozen 9⟩
    have him := hi bm hbm
    obtain ⟨es, clock, hb, rr⟩ := him
    have hbm_lt := (Array.getElem?_eq_some_iff.1 hb).1
    have hne1 : bm ≠ P := by
      intro e
      subst e
      obtain ⟨c, q, _⟩ := r1
      rw [hb] at q
      simp at q
    have hne2 : (Value.slice sa n sc).ownBlock ≠ some bm := by
      rcases h.own.2 with ⟨q, _⟩ | ⟨g', cap', cur', q, _, hg', _⟩
      · rw [q]; simp [Value.ownBlock]
      · rw [q]
        simp only [Value.ownBlock]
        intro e
        obtain rfl := Option.some.inj e
        rw [hb] at hg'
        simp at hg'
    exact ⟨es, clock, (Below.heap_setCell w2 _ _ bm hne1).trans ((hall.block bm hbm_lt (Ne.symm hne2)).trans hb), rr⟩
end Go.Proofs.Qxb6602653a
