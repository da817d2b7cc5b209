/-
  The walk of (*WriteSet).add (function 28) and ZZWriteSetAdd (20).
-/
import Derived.Test.Qxb6602653aWsAdd
namespace Go.Proofs.Qxb6602653a
open Go.RowKit Go.Maps
set_option linter.unusedVariables false

/-- The write set: n writes, and the index where there is one. -/
def WS (B : Nat) (kf : Nat → ByteArray) (vv : Nat → Sl) (w : World) (P n : Nat) (idx : Option Nat) : Prop :=
  (∃ sa sc, WR B kf vv w P n sa sc idx) ∧ ∀ bm, idx = some bm → B ≤ bm ∧ IdxAt w bm kf n

theorem neqNilMap (w : World) (r : Option Nat) : (binOp .neq 41 (.map r) (.map none)).run Try.prog w = .ok (.bool r.isSome) w := by
  have := run_neq_map_nil (P := Try.prog) w 41 9 3 r Try.underlying41
  cases r <;> simpa using this

/-- What 'add' leaves. -/
def AddEnd (B : Nat) (kf : Nat → ByteArray) (vv : Nat → Sl) (w : World) (P n : Nat) (idx : Option Nat) (e : Ending) (w' : World) : Prop :=
  e = .returned (.tuple #[]) ∧ ∃ idx', WS B kf vv w' P (n + 1) idx' ∧ (idx' = none ↔ idx = none ∧ n + 1 ≤ 16) ∧ Below B w w'

theorem wrap_small (n : Nat) (h : n ≤ 1048576) : IntKind.i64.wrap (n : Int) = (n : Int) := by
  simp [IntKind.wrap, IntKind.bits, IntKind.signed]
  omega

set_option maxHeartbeats 1000000 in
theorem add_idx (B P n bm : Nat) (kf : Nat → ByteArray) (vv : Nat → Sl) (K : ByteArray) (va : Option Addr) (vl vc : Nat) (w : World) (hs : WS B kf vv w P n (some bm)) (hK : kf n = K) (hV : vv n = ⟨va, vl, vc⟩) (hn : n ≤ 65536) (hB : B ≤ w.heap.size) (hsz : K.size ≤ maxLen) :
    Calls Try.prog 28 #[.pointer (some ⟨P, 0, none⟩), .string K, .slice va vl vc] w (AddEnd B kf vv w P n (some bm)) := by
  obtain ⟨⟨sa, sc, hwr⟩, hidx⟩ := hs
  obtain ⟨g, cap, w2, hap, hwr2, hbel, hi2, c0', f0', c9', f9'⟩ := ws_append hwr (by omega) hB (fun b hb => (hidx b hb).2)
  have c0 := hwr.c0.1
  rw [hK, hV] at hap
  have hap' : (Builtin.append_ #[57, 57] 57 #[.slice sa n sc, .slice (some ⟨w.heap.size, 0, none⟩) 1 1]).run Try.prog (w.alloc (.cells #[.string K, .slice va vl vc] 59)) = .ok (.slice (some ⟨g, 0, none⟩) (n + 1) cap) w2 := hap
  have qm := neqNilMap
  have hiB := (hidx bm rfl).1
  obtain ⟨w4, hup, hi4, hg4⟩ := ((hi2 bm rfl).of_block (w' := (w2.setCell ⟨P, 0, none⟩ (.slice (some ⟨g, 0, none⟩) (n + 1) cap)).drew) rfl).store (by rw [hK]; exact hsz) (by omega)
  rw [hK] at hup
  have bmP : bm ≠ P := by
    obtain ⟨f, ⟨c, q, _⟩, _⟩ := hwr.row
    obtain ⟨es, clock, hb, _⟩ := (hidx bm rfl).2
    intro e
    subst e
    rw [hb] at q
    simp at q
  have hwr4 : WR B kf vv w4 P (n + 1) (some ⟨g, 0, none⟩) cap (some bm) := by
    have hd : WR B kf vv (w2.setCell ⟨P, 0, none⟩ (.slice (some ⟨g, 0, none⟩) (n + 1) cap)).drew P (n + 1) (some ⟨g, 0, none⟩) cap (some bm) := by
      obtain ⟨f, q1, q2⟩ := hwr2.row
      exact ⟨hwr2.pB, ⟨f, q1.drew, q2⟩, hwr2.own.drew⟩
    refine hd.kept hg4 (by simpa using bmP) (.inr ?_)
    obtain ⟨es, clock, hb, _⟩ := hi2 bm rfl
    rcases hwr2.own.2 with ⟨q, _⟩ | ⟨g', cap', cur', q, _, hg', _⟩
    · simp at q
    · simp only [Value.slice.injEq, Option.some.injEq, Addr.mk.injEq, and_true, true_and] at q
      obtain ⟨rfl, rfl⟩ := q
      simp only [Value.ownBlock]
      intro e
      obtain rfl := Option.some.inj e
      rw [hb] at hg'
      simp at hg'
  have END : Hid (AddEnd B kf vv w P n (some bm) (.returned (.tuple #[])) w4) := ⟨rfl, some bm, ⟨⟨_, _, hwr4⟩, fun b hb => by cases hb; exact ⟨hiB, hi4⟩⟩, by simp, hbel.drew.grown hg4 (by have := hbel.size; simp at this ⊢; omega) (fun k hk => by cases hk; exact hiB)⟩
  have s9 := hwr4.c9.1
  have s0 := hwr4.c0.1
  have d9 : (w2.setCell ⟨P, 0, none⟩ (.slice (some ⟨g, 0, none⟩) (n + 1) cap)).drew.cell? ⟨P, 9, none⟩ = some (.map (some bm)) := hwr2.c9.1
  have d0 : (w2.setCell ⟨P, 0, none⟩ (.slice (some ⟨g, 0, none⟩) (n + 1) cap)).drew.cell? ⟨P, 0, none⟩ = some (.slice (some ⟨g, 0, none⟩) (n + 1) cap) := hwr2.c0.1
  clear hwr hidx hwr2 hbel hi2 hi4 hg4 hwr4 hap bmP hK hV
  have hwrap := wrap_small n (by omega)
  go_enter Try.func28, Try.ntmps28
  go_wp2_with (at_builtin; refine wpList_append_run rfl (.tmp 12) (.tmp 16) 57 rfl _ _ _ rfl rfl hap' ?_)
  go_region_held3 (fun w' => w'.cell? ⟨P, 9, none⟩ = some (.map (some bm)) ∧ w'.cell? ⟨P, 0, none⟩ = some (.slice (some ⟨g, 0, none⟩) (n + 1) cap)) (first | exact ⟨by assumption, by assumption⟩ | go_keep) (fail)
  go_wp2
  go_end0
  exact END.out

set_option maxHeartbeats 1000000 in
theorem add_few (B P n : Nat) (kf : Nat → ByteArray) (vv : Nat → Sl) (K : ByteArray) (va : Option Addr) (vl vc : Nat) (w : World) (hs : WS B kf vv w P n none) (hK : kf n = K) (hV : vv n = ⟨va, vl, vc⟩) (hn : n + 1 ≤ 16) (hB : B ≤ w.heap.size) :
    Calls Try.prog 28 #[.pointer (some ⟨P, 0, none⟩), .string K, .slice va vl vc] w (AddEnd B kf vv w P n none) := by
  obtain ⟨⟨sa, sc, hwr⟩, hidx⟩ := hs
  obtain ⟨g, cap, w2, hap, hwr2, hbel, hi2, c0', f0', c9', f9'⟩ := ws_append hwr (by omega) hB (fun b hb => (hidx b hb).2)
  have c0 := hwr.c0.1
  rw [hK, hV] at hap
  have hap' : (Builtin.append_ #[57, 57] 57 #[.slice sa n sc, .slice (some ⟨w.heap.size, 0, none⟩) 1 1]).run Try.prog (w.alloc (.cells #[.string K, .slice va vl vc] 59)) = .ok (.slice (some ⟨g, 0, none⟩) (n + 1) cap) w2 := hap
  have qm := neqNilMap
  have END : Hid (AddEnd B kf vv w P n none (.returned (.tuple #[])) (w2.setCell ⟨P, 0, none⟩ (.slice (some ⟨g, 0, none⟩) (n + 1) cap))) := ⟨rfl, none, ⟨⟨_, _, hwr2⟩, fun b hb => by cases hb⟩, by simp; omega, hbel⟩
  clear hwr hidx hwr2 hbel hi2 hap hK hV
  go_enter Try.func28, Try.ntmps28
  go_wp2_with (at_builtin; refine wpList_append_run rfl (.tmp 12) (.tmp 16) 57 rfl _ _ _ rfl rfl hap' ?_)
  go_end0
  exact END.out

theorem WR.setIdx {B : Nat} {kf : Nat → ByteArray} {vv : Nat → Sl} {w : World} {P n : Nat} {sa : Option Addr} {sc : Nat} {idx : Option Nat} (h : WR B kf vv w P n sa sc idx) (r : Option Nat) : WR B kf vv (w.setCell ⟨P, 9, none⟩ (.map r)) P n sa sc r := by
  obtain ⟨f, q1, q2, q3⟩ := h.row
  have hset : w.grownBy (w.setCell ⟨P, 9, none⟩ (.map r)) (some P) := grownBy_set (World.grownBy.refl w (some P)) ⟨P, 9, none⟩ rfl _
  exact ⟨h.pB, ⟨_, q1.set 9 (.map r), by simpa using q2, by simp⟩, h.own.kept hset (.inr h.apart)⟩
theorem WR.alloc {B : Nat} {kf : Nat → ByteArray} {vv : Nat → Sl} {w : World} {P n : Nat} {sa : Option Addr} {sc : Nat} {idx : Option Nat} (h : WR B kf vv w P n sa sc idx) (o : Obj) : WR B kf vv (w.alloc o) P n sa sc idx := by
  obtain ⟨f, q1, q2⟩ := h.row
  exact ⟨h.pB, ⟨f, q1.alloc o, q2⟩, h.own.alloc o⟩
theorem WR.drew {B : Nat} {kf : Nat → ByteArray} {vv : Nat → Sl} {w : World} {P n : Nat} {sa : Option Addr} {sc : Nat} {idx : Option Nat} (h : WR B kf vv w P n sa sc idx) : WR B kf vv w.drew P n sa sc idx := by
  obtain ⟨f, q1, q2⟩ := h.row
  exact ⟨h.pB, ⟨f, q1.drew, q2⟩, h.own.drew⟩
/-- The index is written. -/
theorem WR.mapped {B : Nat} {kf : Nat → ByteArray} {vv : Nat → Sl} {w w' : World} {P n k : Nat} {sa : Option Addr} {sc : Nat} {idx : Option Nat} {bm : Nat} (h : WR B kf vv w P n sa sc idx) (hi : IdxAt w bm kf k) (hg : w.grownBy w' (some bm)) : WR B kf vv w' P n sa sc idx := by
  obtain ⟨es, clock, hb, _⟩ := hi
  refine h.kept hg ?_ (.inr ?_)
  · intro e
    obtain rfl := Option.some.inj e
    obtain ⟨f, ⟨c, q, _⟩, _⟩ := h.row
    rw [hb] at q
    simp at q
  · rcases h.own.2 with ⟨q, _⟩ | ⟨g', cap', cur', q, _, hg', _⟩
    · rw [q]; simp [Value.ownBlock]
    · rw [q]
      simp only [Value.ownBlock]
      intro e
      obtain rfl := Option.some.inj e
      rw [hb] at hg'
      simp at hg'

set_option maxHeartbeats 1000000 in
theorem add_many (B P n : Nat) (kf : Nat → ByteArray) (vv : Nat → Sl) (K : ByteArray) (va : Option Addr) (vl vc : Nat) (w : World) (hs : WS B kf vv w P n none) (hK : kf n = K) (hV : vv n = ⟨va, vl, vc⟩) (hn : 16 < n + 1) (hn2 : n ≤ 65536) (hB : B ≤ w.heap.size) (hsz : ∀ i, i < n + 1 → (kf i).size ≤ maxLen) :
    Calls Try.prog 28 #[.pointer (some ⟨P, 0, none⟩), .string K, .slice va vl vc] w (AddEnd B kf vv w P n none) := by
  obtain ⟨⟨sa, sc, hwr⟩, hidx⟩ := hs
  obtain ⟨g, cap, w2, hap, hwr2, hbel, hi2, c0', f0', c9', f9'⟩ := ws_append hwr (by omega) hB (fun b hb => (hidx b hb).2)
  have c0 := hwr.c0.1
  rw [hK, hV] at hap
  have hap' : (Builtin.append_ #[57, 57] 57 #[.slice sa n sc, .slice (some ⟨w.heap.size, 0, none⟩) 1 1]).run Try.prog (w.alloc (.cells #[.string K, .slice va vl vc] 59)) = .ok (.slice (some ⟨g, 0, none⟩) (n + 1) cap) w2 := hap
  have qm := neqNilMap
  have hmm := fun (x : Int) (w : World) => makeMap_hint Try.underlying41 x w
  have WR2 : Hid (WR B kf vv (w2.setCell ⟨P, 0, none⟩ (.slice (some ⟨g, 0, none⟩) (n + 1) cap)) P (n + 1) (some ⟨g, 0, none⟩) cap none) := hwr2
  have BEL : Hid (Below B w (w2.setCell ⟨P, 0, none⟩ (.slice (some ⟨g, 0, none⟩) (n + 1) cap))) := hbel
  have HSZ : Hid (∀ i, i < n + 1 → (kf i).size ≤ maxLen) := hsz
  have hP2 : P < w2.heap.size := by have := hwr2.lt; simpa using this
  have hd16 : decide ((16 : Int) < (n : Int) + 1) = true := decide_eq_true (by omega)
  clear hwr hidx hwr2 hbel hi2 hap hK hV hsz
  go_enter Try.func28, Try.ntmps28
  go_wp2_with (at_builtin; refine wpList_append_run rfl (.tmp 12) (.tmp 16) 57 rfl _ _ _ rfl rfl hap' ?_)
  go_loopw [56] (fun i wr => ∃ k : Nat, k ≤ n + 1 ∧ i = .int .i64 k ∧ Hid (WR B kf vv wr P (n + 1) (some ⟨g, 0, none⟩) cap (some w2.heap.size)) ∧ Hid (IdxAt wr w2.heap.size kf k) ∧ Hid (Below B w wr) ∧ w2.heap.size < wr.heap.size) (fun i _ => n + 1 - (intOf i).toNat)
  case atStart =>
    refine ⟨0, Nat.zero_le _, rfl, (WR2.out.setIdx _).alloc _, ?_, ((BEL.out.setCell WR2.out.pB _).alloc (by have := BEL.out.size; simp at this ⊢; omega) _), by simp⟩
    have := World.ownsMap_made (H := Unit) ((w2.setCell ⟨P, 0, none⟩ (.slice (some ⟨g, 0, none⟩) (n + 1) cap)).setCell ⟨P, 9, none⟩ (.map (some w2.heap.size))) Try.prog 9 (plainElem Try.prog 3)
    show IdxAt _ _ _ _
    unfold IdxAt Dk
    simpa using this
  case round =>
    obtain ⟨k, hk, rfl, HW, HI, HB, hsz⟩ := hrel
    by_cases hlt : k < n + 1
    · have hat := wcells_at kf vv (n + 1) k hlt
      have e1 : wr.cell? ⟨g, k * 2, none⟩ = some (.string (kf k)) := by rw [HW.out.own.cellAt (k * 2) (by omega)]; exact hat.1
      obtain ⟨ka, kl', kc, e2⟩ : ∃ ka kl' kc, wr.cell? ⟨g, k * 2 + 1, none⟩ = some (.slice ka kl' kc) := ⟨_, _, _, by rw [HW.out.own.cellAt (k * 2 + 1) (by omega)]; exact hat.2⟩
      clear hat
      obtain ⟨w4, hup, hi4, hg4⟩ := (HI.out.of_block (w' := (wr.alloc (.cells #[.string (kf k), .slice ka kl' kc] 59)).drew) (Below.heap_alloc wr _ _ hsz)).store (HSZ.out k hlt) (by omega)
      have hwr4 : WR B kf vv w4 P (n + 1) (some ⟨g, 0, none⟩) cap (some w2.heap.size) := (HW.out.alloc _).drew.mapped (HI.out.of_block (w' := (wr.alloc (.cells #[.string (kf k), .slice ka kl' kc] 59)).drew) (Below.heap_alloc wr _ _ hsz)) hg4
      have d9 : (wr.alloc (.cells #[.string (kf k), .slice ka kl' kc] 59)).drew.cell? ⟨P, 9, none⟩ = some (.map (some w2.heap.size)) := (HW.out.alloc _).drew.c9.1
      have d0 : (wr.alloc (.cells #[.string (kf k), .slice ka kl' kc] 59)).drew.cell? ⟨wr.heap.size, 0, none⟩ = some (.string (kf k)) := by simp
      have s9 := hwr4.c9.1
      have s0 : w4.cell? ⟨wr.heap.size, 0, none⟩ = some (.string (kf k)) := hg4.cell d0 (by simp; omega)
      have HW4 : Hid (WR B kf vv w4 P (n + 1) (some ⟨g, 0, none⟩) cap (some w2.heap.size)) := hwr4
      have HI4 : Hid (IdxAt w4 w2.heap.size kf (k + 1)) := hi4
      have HB4 : Hid (Below B w w4) := (HB.out.alloc (by have := HB.out.size; omega) _).drew.grown hg4 (by have := HB.out.size; simp; omega) (fun j hj => by cases hj; have := BEL.out.size; simp at this; omega)
      have hsz4 : w2.heap.size < w4.heap.size := Nat.lt_of_lt_of_le (by simp; omega) hg4.size
      clear hwr4 hi4 hg4 HW HI HB
      go_wp2
      go_region_held3 (fun w' => w'.cell? ⟨P, 9, none⟩ = some (.map (some w2.heap.size)) ∧ w'.cell? ⟨wr.heap.size, 0, none⟩ = some (.string (kf k))) (first | exact ⟨by assumption, by assumption⟩ | go_keep) (fail)
      go_wp2
      go_roundw
      case rel => exact ⟨k + 1, by omega, by go_num, HW4, HI4, HB4, hsz4⟩
      case measure => simp [intOf]; omega
    · have KN : Hid (IdxAt wr w2.heap.size kf (n + 1)) := by have := HI.out; rwa [show k = n + 1 by omega] at this
      go_wp2
      go_end0
      refine ⟨rfl, some w2.heap.size, ⟨⟨_, _, HW.out⟩, fun b hb => by cases hb; exact ⟨by have := BEL.out.size; simp at this; omega, KN.out⟩⟩, by simp; omega, HB.out⟩

theorem zzadd (B P n : Nat) (idx : Option Nat) (kf : Nat → ByteArray) (vv : Nat → Sl) (K : ByteArray) (va : Option Addr) (vl vc : Nat) (w : World) (hs : WS B kf vv w P n idx) (hK : kf n = K) (hV : vv n = ⟨va, vl, vc⟩) (hn : n ≤ 65536) (hB : B ≤ w.heap.size) (hsz : ∀ i, i < n + 1 → (kf i).size ≤ maxLen) :
    Calls Try.prog 20 #[.pointer (some ⟨P, 0, none⟩), .string K, .slice va vl vc] w (AddEnd B kf vv w P n idx) := by
  have CALL : Hid (Calls Try.prog 28 #[.pointer (some ⟨P, 0, none⟩), .string K, .slice va vl vc] w (AddEnd B kf vv w P n idx)) := by
    cases idx with
    | some bm => exact add_idx B P n bm kf vv K va vl vc w hs hK hV hn hB (by rw [← hK]; exact hsz n (by omega))
    | none =>
      by_cases h : n + 1 ≤ 16
      · exact add_few B P n kf vv K va vl vc w hs hK hV h hB
      · exact add_many B P n kf vv K va vl vc w hs hK hV (by omega) hn hB hsz
  clear hs hK hV hsz
  go_enter Try.func20, Try.ntmps20
  go_wp2_with fail
  refine CALL.out.mono ?_
  rintro e w1 ⟨rfl, END⟩
  have HE : Hid (AddEnd B kf vv w P n idx (.returned (.tuple #[])) w1) := ⟨rfl, END⟩
  clear END
  go_wp2_with fail
  go_end0
  exact HE.out
end Go.Proofs.Qxb6602653a
