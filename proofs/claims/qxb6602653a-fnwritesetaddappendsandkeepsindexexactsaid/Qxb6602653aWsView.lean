/-
  The walk of ZZWriteSetView (function 21).
-/
import Derived.Test.Qxb6602653aWsAdd2
namespace Go.Proofs.Qxb6602653a
open Go.RowKit Go.Maps
set_option linter.unusedVariables false

/-- What the view leaves. -/
def ViewEnd (kf : Nat → ByteArray) (vv : Nat → Sl) (w : World) (n : Nat) (idx : Option Nat) (e : Ending) (w' : World) : Prop :=
  ∃ gk gv, e = .returned (.tuple #[.slice (some ⟨gk, 0, none⟩) n n, .slice (some ⟨gv, 0, none⟩) n n, .map idx]) ∧ w.heap.size ≤ gk ∧ w.heap.size ≤ gv ∧
    w'.rowIs gk 9 n (fun j => .string (kf j)) ∧ w'.rowIs gv 37 n (fun j => (vv j).val) ∧ Below w.heap.size w w'

set_option maxHeartbeats 1000000 in
theorem zzview (B P n : Nat) (idx : Option Nat) (kf : Nat → ByteArray) (vv : Nat → Sl) (w : World) (hs : WS B kf vv w P n idx) (hn : n ≤ 131072) :
    Calls Try.prog 21 #[.pointer (some ⟨P, 0, none⟩)] w (ViewEnd kf vv w n idx) := by
  obtain ⟨⟨sa, sc, hwr⟩, hidx⟩ := hs
  have c0 := hwr.c0.1
  have c9 := hwr.c9.1
  have hP := hwr.lt
  have hmk1 := run_make_row' (P := Try.prog) 22 9 (.string ByteArray.empty) 16 Try.underlying22 info9 rfl .i64 .i64 n (by omega) (by omega)
  have hmk2 := run_make_row' (P := Try.prog) 23 37 (.slice none 0 0) 24 Try.underlying23 info37 rfl .i64 .i64 n (by omega) (by omega)
  have CELLS : Hid (∀ k, k < n → ∃ g, sa = some ⟨g, 0, none⟩ ∧ g < w.heap.size ∧ w.cell? ⟨g, k * 2, none⟩ = some (.string (kf k)) ∧ w.cell? ⟨g, k * 2 + 1, none⟩ = some ((vv k).val)) := by
    intro k hk
    have hat := wcells_at kf vv n k hk
    rcases hwr.own.2 with ⟨_, q⟩ | ⟨g, cap, cur, q, _, hg, _⟩
    · omega
    · simp only [Value.slice.injEq, true_and] at q
      obtain ⟨rfl, rfl⟩ := q
      exact ⟨g, rfl, (Array.getElem?_eq_some_iff.1 hg).1, by rw [hwr.own.cellAt (k * 2) (by omega)]; exact hat.1, by rw [hwr.own.cellAt (k * 2 + 1) (by omega)]; exact hat.2⟩
  clear hwr hidx
  go_enter Try.func21, Try.ntmps21
  go_wp2
  go_loopw [7] (fun i wr => ∃ k : Nat, k ≤ n ∧ i = .int .i64 k ∧ Hid (wr.rowIs w.heap.size 9 n (fun j => if j < k then .string (kf j) else .string ByteArray.empty)) ∧ Hid (wr.rowIs (w.heap.size + 1) 37 n (fun j => if j < k then (vv j).val else .slice none 0 0)) ∧ Hid (Below w.heap.size w wr)) (fun i _ => n - (intOf i).toNat)
  case atStart =>
    refine ⟨0, Nat.zero_le _, rfl, (World.rowIs_made w _ _ _).alloc _, ?_, ((Below.refl _ w).alloc (Nat.le_refl _) _).alloc (by simp) _⟩
    have := World.rowIs_made (w.alloc (.cells (madeCells #[.string ByteArray.empty] n) 9)) (.slice none 0 0) n 37
    show World.rowIs _ _ _ _ _
    simpa using this
  case round =>
    obtain ⟨k, hk, rfl, R1, R2, HB⟩ := hrel
    have p0 : wr.cell? ⟨P, 0, none⟩ = some (.slice sa n sc) := (HB.out.cell (p := ⟨P, 0, none⟩) hP).trans c0
    have p9 : wr.cell? ⟨P, 9, none⟩ = some (.map idx) := (HB.out.cell (p := ⟨P, 9, none⟩) hP).trans c9
    by_cases hlt : k < n
    · obtain ⟨g, hsa, hg, k1, k2⟩ := CELLS.out k hlt
      subst hsa
      have e1 : wr.cell? ⟨g, k * 2, none⟩ = some (.string (kf k)) := (HB.out.cell (p := ⟨g, k * 2, none⟩) hg).trans k1
      obtain ⟨ka, kl', kc, e2, HV⟩ : ∃ ka kl' kc, wr.cell? ⟨g, k * 2 + 1, none⟩ = some (.slice ka kl' kc) ∧ Hid ((vv k).val = .slice ka kl' kc) := ⟨_, _, _, (HB.out.cell (p := ⟨g, k * 2 + 1, none⟩) hg).trans k2, rfl⟩
      have x1 := R1.out.cell hlt
      have x2 := R2.out.cell hlt
      have f1 := R1.out.frozen k
      have f2 := R2.out.frozen k
      have hk0 : ¬ k < k := by omega
      simp only [hk0, if_false] at x1 x2
      clear k1 k2
      go_wp2
      go_roundw
      case rel =>
        refine ⟨k + 1, by omega, by go_num, (row_set_other (R1.out.set k _) _ k (by omega) _).congr (fun j hj => ?_), ((row_set_other R2.out _ k (by omega) _).set k _).congr (fun j hj => ?_), (HB.out.setCell (Nat.le_refl _) _).setCell (Nat.le_succ _) _⟩
        · by_cases q1 : j = k
          · subst q1; simp
          · by_cases q2 : j < k
            · rw [if_neg q1, if_pos q2, if_pos (by omega)]
            · rw [if_neg q1, if_neg q2, if_neg (by omega)]
        · by_cases q1 : j = k
          · subst q1; simp [HV.out]
          · by_cases q2 : j < k
            · rw [if_neg q1, if_pos q2, if_pos (by omega)]
            · rw [if_neg q1, if_neg q2, if_neg (by omega)]
      case measure => simp [intOf]; omega
    · have END : Hid (∀ m, ViewEnd kf vv w n idx (.returned (.tuple #[.slice (some ⟨w.heap.size, 0, none⟩) n n, .slice (some ⟨w.heap.size + 1, 0, none⟩) n n, .map idx])) (wr.drewN m)) := fun m =>
        ⟨_, _, rfl, Nat.le_refl _, Nat.le_succ _, row_drewN (R1.out.congr (fun j hj => by rw [if_pos (by omega)])) m, row_drewN (R2.out.congr (fun j hj => by rw [if_pos (by omega)])) m, below_drewN HB.out m⟩
      go_wp2
      go_quiet (fail)
      go_wp2
      go_ret3
      exact END.out _
end Go.Proofs.Qxb6602653a
