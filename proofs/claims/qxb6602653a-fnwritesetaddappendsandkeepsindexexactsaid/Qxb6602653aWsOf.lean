/-
  The walk of ZZWriteSetOf (function 19).
-/
import Derived.Test.Qxb6602653aWsView
import Derived.Deep.RegionLaw
namespace Go.Proofs.Qxb6602653a
open Go.RowKit Go.Maps
set_option linter.unusedVariables false

/-- The write set as it is laid. -/
theorem ws_laid (B : Nat) (kf : Nat → ByteArray) (vv : Nat → Sl) (w : World) (idx : Option Nat) (hB : B ≤ w.heap.size) :
    WR B kf vv (w.alloc (.cells #[.slice none 0 0, .string ByteArray.empty, .slice none 0 0, .string ByteArray.empty, .slice none 0 0, .string ByteArray.empty, .slice none 0 0, .string ByteArray.empty, .slice none 0 0, .map idx] 62)) w.heap.size 0 none 0 idx := by
  refine ⟨hB, ⟨fun j => (#[Value.slice none 0 0, .string ByteArray.empty, .slice none 0 0, .string ByteArray.empty, .slice none 0 0, .string ByteArray.empty, .slice none 0 0, .string ByteArray.empty, .slice none 0 0, .map idx][j]?).getD undef, ?_, rfl, rfl⟩, World.ownsRow_nil _ _ _ _⟩
  exact World.rowIs_alloc w _ 62 _ (fun i hi => by simp only [Array.getElem?_eq_getElem hi, Option.getD_some])

/-- A built-in append whose run is known, as one step of a region that draws its order. -/
theorem step_append_run {P : Program} {ops : Array Oper} {o : Oper} {a : Act} {w w2 : World} {K : Act → World → Prop} {Q : Exit → Act → World → Prop} {E : Prop} (hg : o.guard = none) (s x : Operand) (t : TypeId)
    (hop : o.op = Op.call { callee := Callee.builtin Builtin.append, args := #[s, x], argTypes := #[t, t] }) (vs vx v' : Value) (hs : a.eval s = vs) (hx : a.eval x = vx)
    (hrun : (Builtin.append_ #[t, t] o.type #[vs, vx]).run P w = .ok v' w2) (hK : K (a.put o.dst v') w2) : if Region.wanted o (yielded ops a.tmps) = true then Oper.wp P o a w K Q else E := by
  have hw : Region.wanted o (yielded ops a.tmps) = true := by simp [Region.wanted, hg]
  rw [if_pos hw]
  unfold Oper.wp
  simp [execOp, hop, resolve, invoke, builtin, hs, hx, hrun, Result.andThen]
  exact hK

theorem zzof_nil (B : Nat) (kf : Nat → ByteArray) (vv : Nat → Sl) (w : World) (hB : B ≤ w.heap.size) :
    Calls Try.prog 19 #[.slice none 0 0, .slice none 0 0, .map none] w fun e w' => ∃ P, e = .returned (.pointer (some ⟨P, 0, none⟩)) ∧ WS B kf vv w' P 0 none ∧ Below w.heap.size w w' := by
  go_enter Try.func19, Try.ntmps19
  go_wp2
  go_loop [8] (fun i => i = .int .i64 0) (fun _ => 0)
  case atStart => rfl
  case round =>
    subst hrel
    go_wp2
    go_ret
    exact ⟨_, rfl, ⟨⟨_, _, ws_laid B kf vv w none hB⟩, fun b hb => by cases hb⟩, (Below.refl _ w).alloc (Nat.le_refl _) _⟩

/-- What the making of a write set leaves. -/
def OfEnd (B : Nat) (kf : Nat → ByteArray) (vv : Nat → Sl) (w : World) (m : Nat) (idx : Option Nat) (e : Ending) (w' : World) : Prop :=
  ∃ P, e = .returned (.pointer (some ⟨P, 0, none⟩)) ∧ WS B kf vv w' P m idx ∧ Below B w w'

set_option maxHeartbeats 2000000 in
theorem zzof_full (B gk ok gv ov m kc vc : Nat) (idx : Option Nat) (kf : Nat → ByteArray) (vv : Nat → Sl) (w : World) (hB : B ≤ w.heap.size) (hm : m ≤ 65536) (hgk : gk < B) (hgv : gv < B)
    (rk : ∀ i, i < m → w.cell? ⟨gk, ok + i, none⟩ = some (.string (kf i))) (rv : ∀ i, i < m → w.cell? ⟨gv, ov + i, none⟩ = some ((vv i).val)) (hi : ∀ bm, idx = some bm → B ≤ bm ∧ IdxAt w bm kf m) :
    Calls Try.prog 19 #[.slice (some ⟨gk, ok, none⟩) m kc, .slice (some ⟨gv, ov, none⟩) m vc, .map idx] w (OfEnd B kf vv w m idx) := by
  have RK : Hid (∀ i, i < m → w.cell? ⟨gk, ok + i, none⟩ = some (.string (kf i))) := rk
  have RV : Hid (∀ i, i < m → w.cell? ⟨gv, ov + i, none⟩ = some ((vv i).val)) := rv
  have HI : Hid (∀ bm, idx = some bm → B ≤ bm ∧ IdxAt w bm kf m) := hi
  clear rk rv hi
  go_enter Try.func19, Try.ntmps19
  go_wp2
  go_loopw [8] (fun i wr => ∃ (k : Nat) (sa : Option Addr) (sc : Nat), k ≤ m ∧ i = .int .i64 k ∧ Hid (WR B kf vv wr w.heap.size k sa sc idx) ∧ Hid (∀ bm, idx = some bm → IdxAt wr bm kf m) ∧ Hid (Below B w wr) ∧ w.heap.size < wr.heap.size) (fun i _ => m - (intOf i).toNat)
  case atStart =>
    refine ⟨0, none, 0, Nat.zero_le _, rfl, ws_laid B kf vv w idx hB, fun bm hbm => ?_, (Below.refl _ w).alloc hB _, by simp⟩
    have := (HI.out bm hbm).2
    obtain ⟨es, clock, hb, _⟩ := this
    exact (HI.out bm hbm).2.of_block (Below.heap_alloc w _ _ (Array.getElem?_eq_some_iff.1 hb).1)
  case round =>
    obtain ⟨k, sa, sc, hk, rfl, HW, HX, HB, hsz⟩ := hrel
    by_cases hlt : k < m
    · have c1 : wr.cell? ⟨gk, ok + k, none⟩ = some (.string (kf k)) := (HB.out.cell (p := ⟨gk, ok + k, none⟩) hgk).trans (RK.out k hlt)
      obtain ⟨ka, kl', kc', c2, HV⟩ : ∃ ka kl' kc', wr.cell? ⟨gv, ov + k, none⟩ = some (.slice ka kl' kc') ∧ Hid ((vv k).val = .slice ka kl' kc') := ⟨_, _, _, (HB.out.cell (p := ⟨gv, ov + k, none⟩) hgv).trans (RV.out k hlt), rfl⟩
      have hBr : B ≤ wr.heap.size := Nat.le_trans hB (Nat.le_of_lt hsz)
      obtain ⟨g, cap, w2, hap, hwr2, hbel, hi2, c0', f0', c9', f9'⟩ := ws_append HW.out.drew (by omega) hBr (fun b hb => (HX.out b hb).of_block (w' := wr.drew) rfl)
      have c0 := HW.out.c0.1
      rw [HV.out] at hap
      have hap' : (Builtin.append_ #[57, 57] 57 #[.slice sa k sc, .slice (some ⟨wr.heap.size, 0, none⟩) 1 1]).run Try.prog (wr.drew.alloc (.cells #[.string (kf k), .slice ka kl' kc'] 59)) = .ok (.slice (some ⟨g, 0, none⟩) (k + 1) cap) w2 := hap
      have b1 : gk < wr.heap.size := by omega
      have b2 : gv < wr.heap.size := by omega
      have HW2 : Hid (WR B kf vv (w2.setCell ⟨w.heap.size, 0, none⟩ (.slice (some ⟨g, 0, none⟩) (k + 1) cap)) w.heap.size (k + 1) (some ⟨g, 0, none⟩) cap idx) := hwr2
      have HX2 : Hid (∀ bm, idx = some bm → IdxAt (w2.setCell ⟨w.heap.size, 0, none⟩ (.slice (some ⟨g, 0, none⟩) (k + 1) cap)) bm kf m) := hi2
      have HB2 : Hid (Below B wr (w2.setCell ⟨w.heap.size, 0, none⟩ (.slice (some ⟨g, 0, none⟩) (k + 1) cap))) := (Below.refl B wr).drew.trans hbel
      have hsz2 : w.heap.size < (w2.setCell ⟨w.heap.size, 0, none⟩ (.slice (some ⟨g, 0, none⟩) (k + 1) cap)).heap.size := Nat.lt_of_lt_of_le hsz HB2.out.size
      clear hwr2 hbel hi2 hap
      go_wp2
      go_region_law (first | (refine step_append_run rfl (.tmp 22) (.tmp 32) 57 rfl _ _ _ rfl rfl hap' ?_))
      all_goals
        go_wp2
        go_roundw
        case rel => exact ⟨k + 1, some ⟨g, 0, none⟩, cap, by omega, by go_num, HW2, HX2, HB.out.trans HB2.out, hsz2⟩
        case measure => simp [intOf]; omega
    · have KM : Hid (k = m) := by show k = m; omega
      go_wp2
      go_ret
      refine ⟨_, rfl, ⟨⟨sa, sc, ?_⟩, fun bm hbm => ⟨(HI.out bm hbm).1, HX.out bm hbm⟩⟩, HB.out⟩
      have := HW.out
      rwa [KM.out] at this
end Go.Proofs.Qxb6602653a
