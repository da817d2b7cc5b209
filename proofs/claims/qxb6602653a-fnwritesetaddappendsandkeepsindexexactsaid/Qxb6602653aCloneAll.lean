/-
  The walk of lawCloneAll (function 13): a new row of slices, each nil where the old one is nil, else over a new row of the same bytes.
-/
import Derived.Test.Qxb6602653aClone
import Derived.Test.Qxb6602653aFit
namespace Go.Proofs.Qxb6602653a
open Go.RowKit

/-- The slice s is nil, or it is a whole row of its own from block B on, which holds the bytes 'g'. -/
def OwnB (w : World) (B : Nat) (s : Sl) (n : Nat) (nil : Prop) (g : Nat → Int) : Prop :=
  s.len = n ∧ ((s.ad = none ∧ s.cap = 0 ∧ n = 0 ∧ nil) ∨ (¬ nil ∧ s.cap = n ∧ ∃ b, B ≤ b ∧ s.ad = some ⟨b, 0, none⟩ ∧ w.rowIs b 5 n (fun j => .int .u8 (g j))))

theorem OwnB.later {w w' : World} {B : Nat} {s : Sl} {n : Nat} {nil : Prop} {g : Nat → Int} (h : OwnB w B s n nil g) (hb : Below w.heap.size w w') : OwnB w' B s n nil g := by
  obtain ⟨h1, h2 | ⟨h3, h4, b, h5, h6, h7⟩⟩ := h
  · exact ⟨h1, .inl h2⟩
  · exact ⟨h1, .inr ⟨h3, h4, b, h5, h6, h7.of_block (hb.block b h7.lt)⟩⟩

theorem OwnB.setOther {w : World} {B : Nat} {s : Sl} {n : Nat} {nil : Prop} {g : Nat → Int} (h : OwnB w B s n nil g) {a : Addr} (ha : a.block < B) (v : Value) : OwnB (w.setCell a v) B s n nil g := by
  obtain ⟨h1, h2 | ⟨h3, h4, b, h5, h6, h7⟩⟩ := h
  · exact ⟨h1, .inl h2⟩
  · exact ⟨h1, .inr ⟨h3, h4, b, h5, h6, h7.setOther (by omega) v⟩⟩

theorem OwnB.rd {w : World} {B : Nat} {s : Sl} {n : Nat} {nil : Prop} {g : Nat → Int} (h : OwnB w B s n nil g) : Rd w s.ad n (fun j => .int .u8 (g j)) := by
  obtain ⟨h1, ⟨_, _, rfl, _⟩ | ⟨h3, h4, b, h5, h6, h7⟩⟩ := h
  · exact fun i hi => by omega
  · rw [h6]; exact Rd.row h7 (Nat.le_refl _)

theorem OwnB.nil_iff {w : World} {B : Nat} {s : Sl} {n : Nat} {nil : Prop} {g : Nat → Int} (h : OwnB w B s n nil g) : s.ad = none ↔ nil := by
  obtain ⟨h1, ⟨h2, _, _, h5⟩ | ⟨h3, h4, b, h5, h6, h7⟩⟩ := h
  · exact ⟨fun _ => h5, fun _ => h2⟩
  · exact ⟨fun h => absurd (h6.symm.trans h) (by simp), fun h => absurd h h3⟩

theorem cloneA_nil (n c : Nat) (w : World) : Calls Try.prog 13 #[.slice none n c] w fun e w' => e = .returned (.slice none 0 0) ∧ w' = w := by
  have q := eqlNil Try.underlying23
  go_enter Try.func13, Try.ntmps13
  go_wp2
  go_ret
  exact ⟨rfl, rfl⟩

theorem cloneA_empty (a : Addr) (n c : Nat) (w : World) (hn : n ≤ 0) : Calls Try.prog 13 #[.slice (some a) n c] w fun e w' => e = .returned (.slice (some ⟨w.heap.size, 0, none⟩) n n) ∧ w' = w.alloc (.cells (madeCells #[.slice none 0 0] n) 37) := by
  have q := eqlNil Try.underlying23
  have hmk := run_make_row' (P := Try.prog) 23 37 (.slice none 0 0) 24 Try.underlying23 info37 rfl .i64 .i64 n (by omega) (by omega)
  go_enter Try.func13, Try.ntmps13
  go_wp2
  go_loop [4] (fun i => i = .int .i64 0) (fun _ => 0)
  case atStart => rfl
  case round =>
    subst hrel
    go_wp2
    go_ret
    exact ⟨rfl, rfl⟩

/-- What the round's call leaves: the new slice, in the world behind it. -/
theorem cloneB_any (a : Option Addr) (n c : Nat) (g : Nat → Int) (w : World) (hn : n ≤ 1048576) (hr : Rd w a n (fun i => .int .u8 (g i))) :
    Calls Try.prog 18 #[.slice a n c] w fun e w' => ∃ sa sl sc, e = .returned (.slice sa sl sc) ∧ OwnB w' w.heap.size ⟨sa, sl, sc⟩ n (a = none) g ∧ Below w.heap.size w w' := by
  cases a with
  | none =>
    refine (cloneB_nil n c w).mono ?_
    rintro e w' ⟨rfl, rfl⟩
    have h0 := hr.none_len
    exact ⟨none, 0, 0, rfl, ⟨h0.symm, .inl ⟨rfl, rfl, h0, rfl⟩⟩, Below.refl _ _⟩
  | some a =>
    refine (cloneB_some a n c g w hn hr).mono ?_
    rintro e w' ⟨rfl, h1, h2, h3⟩
    exact ⟨_, _, _, rfl, ⟨rfl, .inr ⟨by simp, rfl, _, Nat.le_refl _, rfl, h1⟩⟩, h2⟩

theorem cloneA_full (b o n c : Nat) (f : Nat → Sl) (g : Nat → Nat → Int) (w : World) (hn : n ≤ 1048576) (hb : b < w.heap.size) (hc : ∀ i, i < n → w.cell? ⟨b, o + i, none⟩ = some ((f i).val))
    (hl : ∀ i, i < n → (f i).len ≤ 1048576) (hr : ∀ i, i < n → Rd w (f i).ad (f i).len (fun j => .int .u8 (g i j))) :
    Calls Try.prog 13 #[.slice (some ⟨b, o, none⟩) n c] w fun e w' => e = .returned (.slice (some ⟨w.heap.size, 0, none⟩) n n) ∧ Below w.heap.size w w' ∧
      ∃ v : Nat → Sl, w'.rowIs w.heap.size 37 n (fun i => (v i).val) ∧ ∀ i, i < n → OwnB w' (w.heap.size + 1) (v i) (f i).len ((f i).ad = none) (g i) := by
  have q := eqlNil Try.underlying23
  have hmk := run_make_row' (P := Try.prog) 23 37 (.slice none 0 0) 24 Try.underlying23 info37 rfl .i64 .i64 n (by omega) (by omega)
  have HC : Hid (∀ i, i < n → w.cell? ⟨b, o + i, none⟩ = some ((f i).val)) := hc
  have HL : Hid (∀ i, i < n → (f i).len ≤ 1048576) := hl
  have HR : Hid (∀ i, i < n → Rd w (f i).ad (f i).len (fun j => .int .u8 (g i j))) := hr
  clear hc hl hr
  go_enter Try.func13, Try.ntmps13
  go_wp2
  go_loopw [4] (fun i wr => ∃ k : Nat, k ≤ n ∧ i = .int .i64 k ∧ Hid (Below w.heap.size w wr) ∧ w.heap.size < wr.heap.size ∧
      ∃ v : Nat → Sl, Hid (wr.rowIs w.heap.size 37 n (fun j => if j < k then (v j).val else .slice none 0 0)) ∧ Hid (∀ i, i < k → OwnB wr (w.heap.size + 1) (v i) (f i).len ((f i).ad = none) (g i))) (fun i _ => n - (intOf i).toNat)
  case atStart => exact ⟨0, Nat.zero_le _, rfl, (Below.refl _ _).alloc (Nat.le_refl _) _, by simp, fun _ => ⟨none, 0, 0⟩, World.rowIs_made w _ _ _, fun i hi => by omega⟩
  case round =>
    obtain ⟨k, hk, rfl, hbel, hsz, v, hrow, hown⟩ := hrel
    by_cases hlt : k < n
    · obtain ⟨sa, sl, sc, hcx, HF⟩ : ∃ sa sl sc, wr.cell? ⟨b, o + k, none⟩ = some (.slice sa sl sc) ∧ Hid (f k = ⟨sa, sl, sc⟩) := ⟨_, _, _, (hbel.out.cell (p := ⟨b, o + k, none⟩) hb).trans (HC.out k hlt), rfl⟩
      have hrd : Rd w sa sl (fun j => .int .u8 (g k j)) := by have := HR.out k hlt; rwa [HF.out] at this
      have hsl : sl ≤ 1048576 := by have := HL.out k hlt; rwa [HF.out] at this
      have hrd' : Hid (Rd wr sa sl (fun j => .int .u8 (g k j))) := hrd.later hbel.out
      clear hrd
      go_wp2_with fail
      refine (cloneB_any sa sl sc (g k) _ hsl hrd'.out).mono ?_
      rintro e w1 ⟨na, nl, nc, rfl, ho1, hb1⟩
      have hrow1 : Hid (w1.rowIs w.heap.size 37 n (fun j => if j < k then (v j).val else .slice none 0 0)) := hrow.out.of_block (hb1.block _ hsz)
      have hfz : w1.frozen? ⟨w.heap.size, k, none⟩ = false := hrow1.out.frozen k
      have hcd := hrow1.out.cell hlt
      have hk0 : ¬ k < k := by omega
      simp only [hk0, if_false] at hcd
      have HO : Hid (OwnB w1 wr.heap.size ⟨na, nl, nc⟩ sl (sa = none) (g k)) := ho1
      have HB : Hid (Below wr.heap.size wr w1) := hb1
      have hsz1 : w.heap.size < w1.heap.size := Nat.lt_of_lt_of_le hsz hb1.size
      clear ho1 hb1
      go_wp2
      go_roundw
      case rel =>
        refine ⟨k + 1, by omega, by go_num, (hbel.out.trans (HB.out.mono (Nat.le_of_lt hsz))).setCell (Nat.le_refl _) _, by simpa using hsz1, fun j => if j = k then ⟨na, nl, nc⟩ else v j, (hrow1.out.set k _).congr (fun j hj => ?_), fun i hi => ?_⟩
        · by_cases e1 : j = k
          · subst e1; simp [Sl.val]
          · by_cases e2 : j < k
            · rw [if_neg e1, if_pos e2, if_pos (by omega)]; simp [e1]
            · rw [if_neg e1, if_neg e2, if_neg (by omega)]
        · by_cases e1 : i = k
          · subst e1
            simp only [if_true, HF.out]
            obtain ⟨h1, h2 | ⟨h3, h4, b', h5, h6, h7⟩⟩ := HO.out
            · exact ⟨h1, .inl h2⟩
            · exact ⟨h1, .inr ⟨h3, h4, b', by omega, h6, h7.setOther (by simp; omega) _⟩⟩
          · simp only [e1, if_false]
            exact ((hown.out i (by omega)).later HB.out).setOther (by simp) _
      case measure => simp [intOf]; omega
    · go_wp2
      go_ret
      exact ⟨rfl, hbel.out, v, hrow.out.congr (fun j hj => by rw [if_pos (by omega)]), fun i hi => hown.out i (by omega)⟩

theorem cloneA_some (a : Addr) (n c : Nat) (f : Nat → Sl) (g : Nat → Nat → Int) (w : World) (hn : n ≤ 1048576) (ha : Rd w (some a) n (fun i => (f i).val))
    (hl : ∀ i, i < n → (f i).len ≤ 1048576) (hr : ∀ i, i < n → Rd w (f i).ad (f i).len (fun j => .int .u8 (g i j))) :
    Calls Try.prog 13 #[.slice (some a) n c] w fun e w' => e = .returned (.slice (some ⟨w.heap.size, 0, none⟩) n n) ∧ Below w.heap.size w w' ∧
      ∃ v : Nat → Sl, w'.rowIs w.heap.size 37 n (fun i => (v i).val) ∧ ∀ i, i < n → OwnB w' (w.heap.size + 1) (v i) (f i).len ((f i).ad = none) (g i) := by
  by_cases h0 : 0 < n
  · obtain ⟨b, o, hx, hb, hc⟩ := ha.at h0
    obtain rfl := Option.some.inj hx
    exact cloneA_full b o n c f g w hn hb hc hl hr
  · refine (cloneA_empty a n c w (by omega)).mono ?_
    rintro e w' ⟨rfl, rfl⟩
    exact ⟨rfl, (Below.refl _ _).alloc (Nat.le_refl _) _, fun _ => ⟨none, 0, 0⟩, (World.rowIs_made w _ _ _).congr (fun i hi => by omega), fun i hi => by omega⟩
end Go.Proofs.Qxb6602653a
