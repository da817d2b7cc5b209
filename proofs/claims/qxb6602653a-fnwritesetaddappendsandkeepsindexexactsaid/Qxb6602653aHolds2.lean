/-
  The walk of FnSlotWriteHoldsOwnCopy (function 7) where the value is not nil.
-/
import Derived.Test.Qxb6602653aHolds
namespace Go.Proofs.Qxb6602653a
open Go.RowKit
set_option linter.unusedVariables false

theorem row_below {w w' : World} {B b t n : Nat} {f : Nat → Value} (h : w.rowIs b t n f) (hb : Below B w w') (hl : b < B) : w'.rowIs b t n f := h.of_block (hb.block b hl)
theorem row_grown {w w' : World} {r b t n : Nat} {f : Nat → Value} (h : w.rowIs b t n f) (hb : w.grownBy w' (some r)) (hl : b ≠ r) : w'.rowIs b t n f := h.of_block (hb.block b h.lt (by simpa using hl))
theorem row_set_other {w : World} {b t n : Nat} {f : Nat → Value} (h : w.rowIs b t n f) (g i : Nat) (hne : b ≠ g) (v : Value) : (w.setCell ⟨g, i, none⟩ v).rowIs b t n f := h.setOther hne v
theorem row_drewN {w : World} {b t n : Nat} {f : Nat → Value} (h : w.rowIs b t n f) (k : Nat) : (w.drewN k).rowIs b t n f := h.of_block rfl
theorem ownR_drewN {w : World} {b n cap : Nat} {f : Nat → Int} (h : OwnR w b n cap f) (k : Nat) : OwnR (w.drewN k) b n cap f := h.of_block rfl
theorem ownR_cell0 {w : World} {b n cap : Nat} {f : Nat → Int} (h : OwnR w b n cap f) (hn : 0 < n) : w.cell? ⟨b, 0, none⟩ = some (.int .u8 (f 0)) ∧ w.frozen? ⟨b, 0, none⟩ = false := by
  obtain ⟨h1, u, h2, h3⟩ := h
  exact ⟨by rw [h2.cell (by omega), h3 0 hn], h2.frozen 0⟩
theorem ownR_of_row {w : World} {b n : Nat} {f : Nat → Int} (h : w.rowIs b 5 n (fun j => .int .u8 (f j))) : OwnR w b n n f := ⟨Nat.le_refl _, _, h, fun _ _ => rfl⟩

/-- lawCloneBytes of a slice that is not nil: a new row, at a block that is given a name. -/
theorem cloneB_g (a : Addr) (n c : Nat) (f : Nat → Int) (w : World) (hn : n ≤ 1048576) (hr : Rd w (some a) n (fun i => .int .u8 (f i))) :
    Calls Try.prog 18 #[.slice (some a) n c] w fun e w' => ∃ g, e = .returned (.slice (some ⟨g, 0, none⟩) n n) ∧ w.heap.size ≤ g ∧ w'.rowIs g 5 n (fun i => .int .u8 (f i)) ∧ Below w.heap.size w w' := by
  refine (cloneB_some a n c f w hn hr).mono ?_
  rintro e w' ⟨rfl, h1, h2, _⟩
  exact ⟨_, rfl, Nat.le_refl _, h1, h2⟩

set_option maxHeartbeats 1000000 in
theorem holds_fresh_nil (h : Int) (k : ByteArray) (on oc : Nat) (cp gen : Int) (va : Addr) (n c : Nat) (vf : Nat → Int) (w : World) (hon : on ≤ 0) (HN : Hid (¬ ((none : Option Addr) ≠ none ∧ cp = gen ∧ 0 = n)))
    (h1 : ¬ 1048576 < (k.size : Int)) (h2 : ¬ 1048576 < (on : Int)) (h3 : ¬ 1048576 < (n : Int)) (h4 : ¬ 1048576 < (k.size : Int) + on + n) (hv : Rd w (some va) n (fun j => .int .u8 (vf j))) :
    Calls Try.prog 7 #[.int .u64 h, .string k, .slice none on oc, .int .u64 cp, .int .u64 gen, .slice (some va) n c] w (TrueEnd w) := by
  have q := eqlNil Try.underlying37
  have HV : Hid (Rd w (some va) n (fun j => .int .u8 (vf j))) := hv
  clear hv
  go_enter Try.func7, Try.ntmps7
  go_wp2_with fail
  refine (zz24 _ _ _ _ _ _ _ _ _ _ _).mono ?_
  rintro e w0 ⟨b, rfl, rfl⟩
  cases b
  · go_wp2_with fail
    go_ret
    exact ⟨rfl, Below.refl _ _⟩
  go_wp2_with fail
  refine (cloneB_nil on oc _).mono ?_
  rintro e w1 ⟨rfl, rfl⟩
  go_wp2_with fail
  refine (cloneB_g va n c vf _ (by omega) HV.out).mono ?_
  rintro e w2 ⟨g2, rfl, le2, r2, b2⟩
  have lt2 := r2.lt
  have R2 : Hid (w2.rowIs g2 5 n (fun j => .int .u8 (vf j))) := r2
  have B2 : Hid (Below w1.heap.size w1 w2) := b2
  clear r2 b2
  go_wp2_with fail
  refine (cloneB_nil 0 0 _).mono ?_
  rintro e w3 ⟨rfl, rfl⟩
  go_wp2_with fail
  refine (cloneB_g _ n n vf _ (by omega) (Rd.row R2.out (Nat.le_refl _))).mono ?_
  rintro e w4 ⟨g4, rfl, le4, r4, b4⟩
  have lt4 := r4.lt
  have R4 : Hid (w4.rowIs g4 5 n (fun j => .int .u8 (vf j))) := r4
  have R24 : Hid (w4.rowIs g2 5 n (fun j => .int .u8 (vf j))) := row_below R2.out b4 R2.out.lt
  have B4 : Hid (Below w1.heap.size w1 w4) := B2.out.trans (b4.mono B2.out.size)
  have L24 := R24.out.lt
  clear r4 b4 R2 B2
  go_wp2_with fail
  refine (zslot_fresh h k none 0 0 n cp gen _ n vf _ (by omega) HN.out (Rd.row R24.out (Nat.le_refl _))).mono ?_
  rintro e w5 ⟨g, cap, rfl, hge, ho5, hb5⟩
  have R25 : Hid (w5.rowIs g2 5 n (fun j => .int .u8 (vf j))) := row_below R24.out hb5 L24
  have R45 : Hid (w5.rowIs g4 5 n (fun j => .int .u8 (vf j))) := row_below R4.out hb5 lt4
  have B5 : Hid (Below w1.heap.size w1 w5) := B4.out.trans (hb5.mono B4.out.size)
  have O5 : Hid (OwnR w5 g n cap vf) := ho5
  have N2 : g2 ≠ g := by omega
  have N4 : g4 ≠ g := by omega
  have G : w1.heap.size ≤ g := by have := B4.out.size; omega
  clear ho5 hb5 R4 R24 B4 
  go_wp2_with fail
  refine (same_any _ _ n n n vf _ (by simp) (by omega) (Rd.row R25.out (Nat.le_refl _)) (Rd.row R45.out (Nat.le_refl _))).mono ?_
  rintro e w6 ⟨rfl, m6, rfl⟩
  go_wp2_with fail
  refine (same_any _ _ n cap n vf _ (by simp) (by omega) (ownR_drewN O5.out m6).rd (Rd.row (row_drewN R45.out m6) (Nat.le_refl _))).mono ?_
  rintro e w7 ⟨rfl, m7, rfl⟩
  go_wp2_with fail
  refine (same_nil 0 0 0 0 _ (Nat.le_refl _) (Nat.le_refl _)).mono ?_
  rintro e w8 ⟨rfl, m8, rfl⟩
  by_cases hn0 : 0 < n
  case neg =>
    have e0 : ((n : Int) == 0) = true := by simp; omega
    go_wp2_with fail
    go_ret
    exact ⟨rfl, below_drewN B5.out _⟩
  have e0 : ((n : Int) == 0) = false := by simp; omega
  obtain ⟨cg, fg⟩ := ownR_cell0 O5.out hn0
  have c2 : ∀ m v, ((w5.drewN m).setCell ⟨g, 0, none⟩ v).cell? ⟨g2, 0, none⟩ = some (.int .u8 (vf 0)) := fun m v => (row_set_other (row_drewN R25.out m) g 0 N2 v).cell hn0
  have c4 : ∀ m v, ((w5.drewN m).setCell ⟨g, 0, none⟩ v).cell? ⟨g4, 0, none⟩ = some (.int .u8 (vf 0)) := fun m v => (row_set_other (row_drewN R45.out m) g 0 N4 v).cell hn0
  go_wp2_with fail
  go_quiet (fail)
  go_wp2_with fail
  refine (same_nil 0 0 0 0 _ (Nat.le_refl _) (Nat.le_refl _)).mono ?_
  rintro e w9 ⟨rfl, m9, rfl⟩
  go_wp2_with fail
  go_ret
  exact ⟨rfl, below_drewN ((below_drewN B5.out _).setCell (by exact G) _) _⟩

set_option maxHeartbeats 1000000 in
theorem holds_fresh_gen (h : Int) (k : ByteArray) (oa : Addr) (on oc : Nat) (cp gen : Int) (va : Addr) (n c : Nat) (of vf : Nat → Int) (w : World) (hne : (cp == gen) = false) (HN : ∀ x : Addr, Hid (¬ (some x ≠ none ∧ cp = gen ∧ on = n)))
    (h1 : ¬ 1048576 < (k.size : Int)) (h2 : ¬ 1048576 < (on : Int)) (h3 : ¬ 1048576 < (n : Int)) (h4 : ¬ 1048576 < (k.size : Int) + on + n) (ho : Rd w (some oa) on (fun j => .int .u8 (of j))) (hv : Rd w (some va) n (fun j => .int .u8 (vf j))) :
    Calls Try.prog 7 #[.int .u64 h, .string k, .slice (some oa) on oc, .int .u64 cp, .int .u64 gen, .slice (some va) n c] w (TrueEnd w) := by
  have q := eqlNil Try.underlying37
  have HO : Hid (Rd w (some oa) on (fun j => .int .u8 (of j))) := ho
  clear ho
  have HV : Hid (Rd w (some va) n (fun j => .int .u8 (vf j))) := hv
  clear hv
  go_enter Try.func7, Try.ntmps7
  go_wp2_with fail
  refine (zz24 _ _ _ _ _ _ _ _ _ _ _).mono ?_
  rintro e w0 ⟨b, rfl, rfl⟩
  cases b
  · go_wp2_with fail
    go_ret
    exact ⟨rfl, Below.refl _ _⟩
  go_wp2_with fail
  refine (cloneB_g oa on oc of _ (by omega) HO.out).mono ?_
  rintro e w1 ⟨g1, rfl, le1, r1, b1⟩
  have lt1 := r1.lt
  have HV1 : Hid (Rd w1 (some va) n (fun j => .int .u8 (vf j))) := HV.out.later b1
  have R1 : Hid (w1.rowIs g1 5 on (fun j => .int .u8 (of j))) := r1
  have B1 : Hid (Below w0.heap.size w0 w1) := b1
  clear r1 b1 HO
  go_wp2_with fail
  refine (cloneB_g va n c vf _ (by omega) HV1.out).mono ?_
  rintro e w2 ⟨g2, rfl, le2, r2, b2⟩
  have lt2 := r2.lt
  have R2 : Hid (w2.rowIs g2 5 n (fun j => .int .u8 (vf j))) := r2
  have R12 : Hid (w2.rowIs g1 5 on (fun j => .int .u8 (of j))) := row_below R1.out b2 lt1
  have B2 : Hid (Below w0.heap.size w0 w2) := B1.out.trans (b2.mono B1.out.size)
  clear r2 b2 R1 B1 HV1
  go_wp2_with fail
  refine (cloneB_g _ on on of _ (by omega) (Rd.row R12.out (Nat.le_refl _))).mono ?_
  rintro e w3 ⟨g3, rfl, le3, r3, b3⟩
  have lt3 := r3.lt
  have R3 : Hid (w3.rowIs g3 5 on (fun j => .int .u8 (of j))) := r3
  have R13 : Hid (w3.rowIs g1 5 on (fun j => .int .u8 (of j))) := row_below R12.out b3 R12.out.lt
  have R23 : Hid (w3.rowIs g2 5 n (fun j => .int .u8 (vf j))) := row_below R2.out b3 lt2
  have B3 : Hid (Below w0.heap.size w0 w3) := B2.out.trans (b3.mono B2.out.size)
  clear r3 b3 R12 R2 B2
  go_wp2_with fail
  refine (cloneB_g _ n n vf _ (by omega) (Rd.row R23.out (Nat.le_refl _))).mono ?_
  rintro e w4 ⟨g4, rfl, le4, r4, b4⟩
  have lt4 := r4.lt
  have R4 : Hid (w4.rowIs g4 5 n (fun j => .int .u8 (vf j))) := r4
  have R14 : Hid (w4.rowIs g1 5 on (fun j => .int .u8 (of j))) := row_below R13.out b4 R13.out.lt
  have R24 : Hid (w4.rowIs g2 5 n (fun j => .int .u8 (vf j))) := row_below R23.out b4 R23.out.lt
  have R34 : Hid (w4.rowIs g3 5 on (fun j => .int .u8 (of j))) := row_below R3.out b4 lt3
  have B4 : Hid (Below w0.heap.size w0 w4) := B3.out.trans (b4.mono B3.out.size)
  have s12 : g1 < w2.heap.size := Nat.lt_of_lt_of_le lt1 (Nat.le_of_lt (Nat.lt_of_le_of_lt le2 lt2))
  have L13 := R13.out.lt
  have L23 := R23.out.lt
  have L14 := R14.out.lt
  have L24 := R24.out.lt
  have L34 := R34.out.lt
  clear r4 b4 R13 R23 R3 B3
  go_wp2_with fail
  refine (zslot_fresh h k (some _) on on n cp gen _ n vf _ (by omega) (HN _).out (Rd.row R24.out (Nat.le_refl _))).mono ?_
  rintro e w5 ⟨g, cap, rfl, hge, ho5, hb5⟩
  have R15 : Hid (w5.rowIs g1 5 on (fun j => .int .u8 (of j))) := row_below R14.out hb5 L14
  have R35 : Hid (w5.rowIs g3 5 on (fun j => .int .u8 (of j))) := row_below R34.out hb5 L34
  have N1 : g1 ≠ g := by omega
  have N3 : g3 ≠ g := by omega
  have R25 : Hid (w5.rowIs g2 5 n (fun j => .int .u8 (vf j))) := row_below R24.out hb5 L24
  have R45 : Hid (w5.rowIs g4 5 n (fun j => .int .u8 (vf j))) := row_below R4.out hb5 lt4
  have B5 : Hid (Below w0.heap.size w0 w5) := B4.out.trans (hb5.mono B4.out.size)
  have O5 : Hid (OwnR w5 g n cap vf) := ho5
  have N2 : g2 ≠ g := by omega
  have N4 : g4 ≠ g := by omega
  have G : w0.heap.size ≤ g := by have := B4.out.size; omega
  clear ho5 hb5 R4 R24 B4 R14 R34
  go_wp2_with fail
  refine (same_any _ _ n n n vf _ (by simp) (by omega) (Rd.row R25.out (Nat.le_refl _)) (Rd.row R45.out (Nat.le_refl _))).mono ?_
  rintro e w6 ⟨rfl, m6, rfl⟩
  go_wp2_with fail
  refine (same_any _ _ n cap n vf _ (by simp) (by omega) (ownR_drewN O5.out m6).rd (Rd.row (row_drewN R45.out m6) (Nat.le_refl _))).mono ?_
  rintro e w7 ⟨rfl, m7, rfl⟩
  go_wp2_with fail
  refine (same_any _ _ on on on of _ (by simp) (by omega) (Rd.row (row_drewN R15.out (m6 + m7)) (Nat.le_refl _)) (Rd.row (row_drewN R35.out (m6 + m7)) (Nat.le_refl _))).mono ?_
  rintro e w8 ⟨rfl, m8, rfl⟩
  by_cases hn0 : 0 < n
  case neg =>
    have e0 : ((n : Int) == 0) = true := by simp; omega
    go_wp2_with fail
    go_ret
    exact ⟨rfl, below_drewN B5.out _⟩
  have e0 : ((n : Int) == 0) = false := by simp; omega
  obtain ⟨cg, fg⟩ := ownR_cell0 O5.out hn0
  have c2 : ∀ m v, ((w5.drewN m).setCell ⟨g, 0, none⟩ v).cell? ⟨g2, 0, none⟩ = some (.int .u8 (vf 0)) := fun m v => (row_set_other (row_drewN R25.out m) g 0 N2 v).cell hn0
  have c4 : ∀ m v, ((w5.drewN m).setCell ⟨g, 0, none⟩ v).cell? ⟨g4, 0, none⟩ = some (.int .u8 (vf 0)) := fun m v => (row_set_other (row_drewN R45.out m) g 0 N4 v).cell hn0
  go_wp2_with fail
  go_quiet (fail)
  go_wp2_with fail
  refine (same_any _ _ on on on of _ (by simp) (by omega) (Rd.row (row_drewN (row_set_other (row_drewN R15.out _) g 0 N1 _) _) (Nat.le_refl _)) (Rd.row (row_drewN (row_set_other (row_drewN R35.out _) g 0 N3 _) _) (Nat.le_refl _))).mono ?_
  rintro e w9 ⟨rfl, m9, rfl⟩
  go_wp2_with fail
  go_ret
  exact ⟨rfl, below_drewN ((below_drewN B5.out _).setCell (by exact G) _) _⟩

set_option maxHeartbeats 1000000 in
theorem holds_fresh_len (h : Int) (k : ByteArray) (oa : Addr) (on oc : Nat) (gen : Int) (va : Addr) (n c : Nat) (of vf : Nat → Int) (w : World) (hne : ((on : Int) == (n : Int)) = false)
    (h1 : ¬ 1048576 < (k.size : Int)) (h2 : ¬ 1048576 < (on : Int)) (h3 : ¬ 1048576 < (n : Int)) (h4 : ¬ 1048576 < (k.size : Int) + on + n) (ho : Rd w (some oa) on (fun j => .int .u8 (of j))) (hv : Rd w (some va) n (fun j => .int .u8 (vf j))) :
    Calls Try.prog 7 #[.int .u64 h, .string k, .slice (some oa) on oc, .int .u64 gen, .int .u64 gen, .slice (some va) n c] w (TrueEnd w) := by
  have q := eqlNil Try.underlying37
  have HO : Hid (Rd w (some oa) on (fun j => .int .u8 (of j))) := ho
  clear ho
  have HV : Hid (Rd w (some va) n (fun j => .int .u8 (vf j))) := hv
  clear hv
  go_enter Try.func7, Try.ntmps7
  go_wp2_with fail
  refine (zz24 _ _ _ _ _ _ _ _ _ _ _).mono ?_
  rintro e w0 ⟨b, rfl, rfl⟩
  cases b
  · go_wp2_with fail
    go_ret
    exact ⟨rfl, Below.refl _ _⟩
  go_wp2_with fail
  refine (cloneB_g oa on oc of _ (by omega) HO.out).mono ?_
  rintro e w1 ⟨g1, rfl, le1, r1, b1⟩
  have lt1 := r1.lt
  have HV1 : Hid (Rd w1 (some va) n (fun j => .int .u8 (vf j))) := HV.out.later b1
  have R1 : Hid (w1.rowIs g1 5 on (fun j => .int .u8 (of j))) := r1
  have B1 : Hid (Below w0.heap.size w0 w1) := b1
  clear r1 b1 HO
  go_wp2_with fail
  refine (cloneB_g va n c vf _ (by omega) HV1.out).mono ?_
  rintro e w2 ⟨g2, rfl, le2, r2, b2⟩
  have lt2 := r2.lt
  have R2 : Hid (w2.rowIs g2 5 n (fun j => .int .u8 (vf j))) := r2
  have R12 : Hid (w2.rowIs g1 5 on (fun j => .int .u8 (of j))) := row_below R1.out b2 lt1
  have B2 : Hid (Below w0.heap.size w0 w2) := B1.out.trans (b2.mono B1.out.size)
  clear r2 b2 R1 B1 HV1
  go_wp2_with fail
  refine (cloneB_g _ on on of _ (by omega) (Rd.row R12.out (Nat.le_refl _))).mono ?_
  rintro e w3 ⟨g3, rfl, le3, r3, b3⟩
  have lt3 := r3.lt
  have R3 : Hid (w3.rowIs g3 5 on (fun j => .int .u8 (of j))) := r3
  have R13 : Hid (w3.rowIs g1 5 on (fun j => .int .u8 (of j))) := row_below R12.out b3 R12.out.lt
  have R23 : Hid (w3.rowIs g2 5 n (fun j => .int .u8 (vf j))) := row_below R2.out b3 lt2
  have B3 : Hid (Below w0.heap.size w0 w3) := B2.out.trans (b3.mono B2.out.size)
  clear r3 b3 R12 R2 B2
  go_wp2_with fail
  refine (cloneB_g _ n n vf _ (by omega) (Rd.row R23.out (Nat.le_refl _))).mono ?_
  rintro e w4 ⟨g4, rfl, le4, r4, b4⟩
  have lt4 := r4.lt
  have R4 : Hid (w4.rowIs g4 5 n (fun j => .int .u8 (vf j))) := r4
  have R14 : Hid (w4.rowIs g1 5 on (fun j => .int .u8 (of j))) := row_below R13.out b4 R13.out.lt
  have R24 : Hid (w4.rowIs g2 5 n (fun j => .int .u8 (vf j))) := row_below R23.out b4 R23.out.lt
  have R34 : Hid (w4.rowIs g3 5 on (fun j => .int .u8 (of j))) := row_below R3.out b4 lt3
  have B4 : Hid (Below w0.heap.size w0 w4) := B3.out.trans (b4.mono B3.out.size)
  have s12 : g1 < w2.heap.size := Nat.lt_of_lt_of_le lt1 (Nat.le_of_lt (Nat.lt_of_le_of_lt le2 lt2))
  have L13 := R13.out.lt
  have L23 := R23.out.lt
  have L14 := R14.out.lt
  have L24 := R24.out.lt
  have L34 := R34.out.lt
  clear r4 b4 R13 R23 R3 B3
  go_wp2_with fail
  refine (zslot_fresh h k (some _) on on n gen gen _ n vf _ (by omega) (by rintro ⟨_, _, hh⟩; rw [hh] at hne; simp at hne) (Rd.row R24.out (Nat.le_refl _))).mono ?_
  rintro e w5 ⟨g, cap, rfl, hge, ho5, hb5⟩
  have R15 : Hid (w5.rowIs g1 5 on (fun j => .int .u8 (of j))) := row_below R14.out hb5 L14
  have R35 : Hid (w5.rowIs g3 5 on (fun j => .int .u8 (of j))) := row_below R34.out hb5 L34
  have N1 : g1 ≠ g := by omega
  have N3 : g3 ≠ g := by omega
  have R25 : Hid (w5.rowIs g2 5 n (fun j => .int .u8 (vf j))) := row_below R24.out hb5 L24
  have R45 : Hid (w5.rowIs g4 5 n (fun j => .int .u8 (vf j))) := row_below R4.out hb5 lt4
  have B5 : Hid (Below w0.heap.size w0 w5) := B4.out.trans (hb5.mono B4.out.size)
  have O5 : Hid (OwnR w5 g n cap vf) := ho5
  have N2 : g2 ≠ g := by omega
  have N4 : g4 ≠ g := by omega
  have G : w0.heap.size ≤ g := by have := B4.out.size; omega
  clear ho5 hb5 R4 R24 B4 R14 R34
  go_wp2_with fail
  refine (same_any _ _ n n n vf _ (by simp) (by omega) (Rd.row R25.out (Nat.le_refl _)) (Rd.row R45.out (Nat.le_refl _))).mono ?_
  rintro e w6 ⟨rfl, m6, rfl⟩
  go_wp2_with fail
  refine (same_any _ _ n cap n vf _ (by simp) (by omega) (ownR_drewN O5.out m6).rd (Rd.row (row_drewN R45.out m6) (Nat.le_refl _))).mono ?_
  rintro e w7 ⟨rfl, m7, rfl⟩
  go_wp2_with fail
  refine (same_any _ _ on on on of _ (by simp) (by omega) (Rd.row (row_drewN R15.out (m6 + m7)) (Nat.le_refl _)) (Rd.row (row_drewN R35.out (m6 + m7)) (Nat.le_refl _))).mono ?_
  rintro e w8 ⟨rfl, m8, rfl⟩
  by_cases hn0 : 0 < n
  case neg =>
    have e0 : ((n : Int) == 0) = true := by simp; omega
    go_wp2_with fail
    go_ret
    exact ⟨rfl, below_drewN B5.out _⟩
  have e0 : ((n : Int) == 0) = false := by simp; omega
  obtain ⟨cg, fg⟩ := ownR_cell0 O5.out hn0
  have c2 : ∀ m v, ((w5.drewN m).setCell ⟨g, 0, none⟩ v).cell? ⟨g2, 0, none⟩ = some (.int .u8 (vf 0)) := fun m v => (row_set_other (row_drewN R25.out m) g 0 N2 v).cell hn0
  have c4 : ∀ m v, ((w5.drewN m).setCell ⟨g, 0, none⟩ v).cell? ⟨g4, 0, none⟩ = some (.int .u8 (vf 0)) := fun m v => (row_set_other (row_drewN R45.out m) g 0 N4 v).cell hn0
  go_wp2_with fail
  go_quiet (fail)
  go_wp2_with fail
  refine (same_any _ _ on on on of _ (by simp) (by omega) (Rd.row (row_drewN (row_set_other (row_drewN R15.out _) g 0 N1 _) _) (Nat.le_refl _)) (Rd.row (row_drewN (row_set_other (row_drewN R35.out _) g 0 N3 _) _) (Nat.le_refl _))).mono ?_
  rintro e w9 ⟨rfl, m9, rfl⟩
  go_wp2_with fail
  go_ret
  exact ⟨rfl, below_drewN ((below_drewN B5.out _).setCell (by exact G) _) _⟩

set_option maxHeartbeats 1000000 in
theorem holds_reuse (h : Int) (k : ByteArray) (oa : Addr) (on oc : Nat) (gen : Int) (va : Addr) (c : Nat) (of vf : Nat → Int) (w : World) 
    (h1 : ¬ 1048576 < (k.size : Int)) (h2 : ¬ 1048576 < (on : Int)) (h3 : ¬ 1048576 < (on : Int)) (h4 : ¬ 1048576 < (k.size : Int) + on + on) (ho : Rd w (some oa) on (fun j => .int .u8 (of j))) (hv : Rd w (some va) on (fun j => .int .u8 (vf j))) :
    Calls Try.prog 7 #[.int .u64 h, .string k, .slice (some oa) on oc, .int .u64 gen, .int .u64 gen, .slice (some va) on c] w (TrueEnd w) := by
  have q := eqlNil Try.underlying37
  have HO : Hid (Rd w (some oa) on (fun j => .int .u8 (of j))) := ho
  clear ho
  have HV : Hid (Rd w (some va) on (fun j => .int .u8 (vf j))) := hv
  clear hv
  go_enter Try.func7, Try.ntmps7
  go_wp2_with fail
  refine (zz24 _ _ _ _ _ _ _ _ _ _ _).mono ?_
  rintro e w0 ⟨b, rfl, rfl⟩
  cases b
  · go_wp2_with fail
    go_ret
    exact ⟨rfl, Below.refl _ _⟩
  go_wp2_with fail
  refine (cloneB_g oa on oc of _ (by omega) HO.out).mono ?_
  rintro e w1 ⟨g1, rfl, le1, r1, b1⟩
  have lt1 := r1.lt
  have HV1 : Hid (Rd w1 (some va) on (fun j => .int .u8 (vf j))) := HV.out.later b1
  have R1 : Hid (w1.rowIs g1 5 on (fun j => .int .u8 (of j))) := r1
  have B1 : Hid (Below w0.heap.size w0 w1) := b1
  clear r1 b1 HO
  go_wp2_with fail
  refine (cloneB_g va on c vf _ (by omega) HV1.out).mono ?_
  rintro e w2 ⟨g2, rfl, le2, r2, b2⟩
  have lt2 := r2.lt
  have R2 : Hid (w2.rowIs g2 5 on (fun j => .int .u8 (vf j))) := r2
  have R12 : Hid (w2.rowIs g1 5 on (fun j => .int .u8 (of j))) := row_below R1.out b2 lt1
  have B2 : Hid (Below w0.heap.size w0 w2) := B1.out.trans (b2.mono B1.out.size)
  clear r2 b2 R1 B1 HV1
  go_wp2_with fail
  refine (cloneB_g _ on on of _ (by omega) (Rd.row R12.out (Nat.le_refl _))).mono ?_
  rintro e w3 ⟨g3, rfl, le3, r3, b3⟩
  have lt3 := r3.lt
  have R3 : Hid (w3.rowIs g3 5 on (fun j => .int .u8 (of j))) := r3
  have R13 : Hid (w3.rowIs g1 5 on (fun j => .int .u8 (of j))) := row_below R12.out b3 R12.out.lt
  have R23 : Hid (w3.rowIs g2 5 on (fun j => .int .u8 (vf j))) := row_below R2.out b3 lt2
  have B3 : Hid (Below w0.heap.size w0 w3) := B2.out.trans (b3.mono B2.out.size)
  clear r3 b3 R12 R2 B2
  go_wp2_with fail
  refine (cloneB_g _ on on vf _ (by omega) (Rd.row R23.out (Nat.le_refl _))).mono ?_
  rintro e w4 ⟨g4, rfl, le4, r4, b4⟩
  have lt4 := r4.lt
  have R4 : Hid (w4.rowIs g4 5 on (fun j => .int .u8 (vf j))) := r4
  have R14 : Hid (w4.rowIs g1 5 on (fun j => .int .u8 (of j))) := row_below R13.out b4 R13.out.lt
  have R24 : Hid (w4.rowIs g2 5 on (fun j => .int .u8 (vf j))) := row_below R23.out b4 R23.out.lt
  have R34 : Hid (w4.rowIs g3 5 on (fun j => .int .u8 (of j))) := row_below R3.out b4 lt3
  have B4 : Hid (Below w0.heap.size w0 w4) := B3.out.trans (b4.mono B3.out.size)
  have s12 : g1 < w2.heap.size := Nat.lt_of_lt_of_le lt1 (Nat.le_of_lt (Nat.lt_of_le_of_lt le2 lt2))
  have L13 := R13.out.lt
  have L23 := R23.out.lt
  have L14 := R14.out.lt
  have L24 := R24.out.lt
  have L34 := R34.out.lt
  clear r4 b4 R13 R23 R3 B3
  go_wp2_with fail
  refine (zslot_reuse h k g1 on on gen _ on of vf _ (ownR_of_row R14.out) (Rd.row R24.out (Nat.le_refl _))).mono ?_
  rintro e w5 ⟨rfl, ho5, hb5⟩
  have N2 : g2 ≠ g1 := by omega
  have N4 : g4 ≠ g1 := by omega
  have R25 : Hid (w5.rowIs g2 5 on (fun j => .int .u8 (vf j))) := row_grown R24.out hb5 N2
  have R45 : Hid (w5.rowIs g4 5 on (fun j => .int .u8 (vf j))) := row_grown R4.out hb5 N4
  have B5 : Hid (Below w0.heap.size w0 w5) := B4.out.grown hb5 B4.out.size (fun k hk => by cases hk; exact le1)
  have O5 : Hid (OwnR w5 g1 on on vf) := ho5
  clear ho5 hb5 R4 R24 B4 R14 R34
  go_wp2_with fail
  refine (same_any _ _ on on on vf _ (by simp) (by omega) (Rd.row R25.out (Nat.le_refl _)) (Rd.row R45.out (Nat.le_refl _))).mono ?_
  rintro e w6 ⟨rfl, m6, rfl⟩
  go_wp2_with fail
  refine (same_any _ _ on on on vf _ (by simp) (by omega) (ownR_drewN O5.out m6).rd (Rd.row (row_drewN R45.out m6) (Nat.le_refl _))).mono ?_
  rintro e w7 ⟨rfl, m7, rfl⟩
  go_wp2_with fail
  refine (same_any _ _ on on on vf _ (by simp) (by omega) (ownR_drewN O5.out (m6 + m7)).rd (ownR_drewN O5.out (m6 + m7)).rd).mono ?_
  rintro e w8 ⟨rfl, m8, rfl⟩
  by_cases hn0 : 0 < on
  case neg =>
    have e0 : ((on : Int) == 0) = true := by simp; omega
    go_wp2_with fail
    go_ret
    exact ⟨rfl, below_drewN B5.out _⟩
  have e0 : ((on : Int) == 0) = false := by simp; omega
  obtain ⟨cg, fg⟩ := ownR_cell0 O5.out hn0
  have c2 : ∀ m v, ((w5.drewN m).setCell ⟨g1, 0, none⟩ v).cell? ⟨g2, 0, none⟩ = some (.int .u8 (vf 0)) := fun m v => (row_set_other (row_drewN R25.out m) g1 0 N2 v).cell hn0
  have c4 : ∀ m v, ((w5.drewN m).setCell ⟨g1, 0, none⟩ v).cell? ⟨g4, 0, none⟩ = some (.int .u8 (vf 0)) := fun m v => (row_set_other (row_drewN R45.out m) g1 0 N4 v).cell hn0
  go_wp2_with fail
  go_quiet (fail)
  go_wp2_with fail
  go_quiet (fail)
  go_wp2_with fail
  go_ret
  exact ⟨rfl, below_drewN (below_drewN ((below_drewN B5.out _).setCell (by exact le1) _) _) _⟩
end Go.Proofs.Qxb6602653a
