/-
  The walks of lawCloneBytes (function 18), lawCloneStrings (12), lawCloneWords (14): a nil slice gives nil and nothing is made; another gives a new row that holds the same cells.
-/
import Derived.Test.Qxb6602653aBase
namespace Go.Proofs.Qxb6602653a
open Go.RowKit

/-! ### []byte -/
theorem cloneB_nil (n c : Nat) (w : World) : Calls Try.prog 18 #[.slice none n c] w fun e w' => e = .returned (.slice none 0 0) ∧ w' = w := by
  have q := eqlNil Try.underlying37
  go_enter Try.func18, Try.ntmps18
  go_wp2
  go_ret
  exact ⟨rfl, rfl⟩

theorem cloneB_empty (a : Addr) (n c : Nat) (w : World) (hn : n ≤ 0) : Calls Try.prog 18 #[.slice (some a) n c] w fun e w' => e = .returned (.slice (some ⟨w.heap.size, 0, none⟩) n n) ∧ w' = w.alloc (.cells (madeCells #[.int .u8 0] n) 5) := by
  have q := eqlNil Try.underlying37
  have hmk := run_make_row' (P := Try.prog) 37 5 (.int .u8 0) 1 Try.underlying37 info5 rfl .i64 .i64 n (by omega) (by omega)
  go_enter Try.func18, Try.ntmps18
  go_wp2
  go_loop [4] (fun i => i = .int .i64 0) (fun _ => 0)
  case atStart => rfl
  case round =>
    subst hrel
    go_wp2
    go_ret
    exact ⟨rfl, rfl⟩

theorem cloneB_full (b o n c : Nat) (f : Nat → Int) (w : World) (hn : n ≤ 1048576) (hb : b < w.heap.size) (hc : ∀ i, i < n → w.cell? ⟨b, o + i, none⟩ = some (.int .u8 (f i))) :
    Calls Try.prog 18 #[.slice (some ⟨b, o, none⟩) n c] w fun e w' => e = .returned (.slice (some ⟨w.heap.size, 0, none⟩) n n) ∧ w'.rowIs w.heap.size 5 n (fun i => .int .u8 (f i)) ∧ Below w.heap.size w w' ∧ w'.heap.size = w.heap.size + 1 := by
  have q := eqlNil Try.underlying37
  have hmk := run_make_row' (P := Try.prog) 37 5 (.int .u8 0) 1 Try.underlying37 info5 rfl .i64 .i64 n (by omega) (by omega)
  have HC : Hid (∀ i, i < n → w.cell? ⟨b, o + i, none⟩ = some (.int .u8 (f i))) := hc
  clear hc
  go_enter Try.func18, Try.ntmps18
  go_wp2
  go_loopw [4] (fun i wr => ∃ k : Nat, k ≤ n ∧ i = .int .i64 k ∧ Hid (wr.rowIs w.heap.size 5 n (fun j => if j < k then .int .u8 (f j) else .int .u8 0)) ∧ Hid (Below w.heap.size w wr) ∧ wr.heap.size = w.heap.size + 1) (fun i _ => n - (intOf i).toNat)
  case atStart => exact ⟨0, Nat.zero_le _, rfl, World.rowIs_made w _ _ _, (Below.refl _ _).alloc (Nat.le_refl _) _, by simp⟩
  case round =>
    obtain ⟨k, hk, rfl, hrow, hbel, hsz⟩ := hrel
    by_cases hlt : k < n
    · have hcx : wr.cell? ⟨b, o + k, none⟩ = some (.int .u8 (f k)) := (hbel.out.cell (p := ⟨b, o + k, none⟩) hb).trans (HC.out k hlt)
      have hfz : wr.frozen? ⟨w.heap.size, k, none⟩ = false := hrow.out.frozen k
      have hcd := hrow.out.cell hlt
      have hk0 : ¬ k < k := by omega
      simp only [hk0, if_false] at hcd
      go_wp2
      go_roundw
      case rel => 
        refine ⟨k + 1, by omega, by go_num, (hrow.out.set k (.int .u8 (f k))).congr (fun j hj => ?_), hbel.out.setCell (Nat.le_refl _) _, by simpa using hsz⟩
        by_cases e1 : j = k
        · subst e1; simp
        · by_cases e2 : j < k
          · rw [if_neg e1, if_pos e2, if_pos (by omega)]
          · rw [if_neg e1, if_neg e2, if_neg (by omega)]
      case measure => simp [intOf]; omega
    · go_wp2
      go_ret
      exact ⟨rfl, hrow.out.congr (fun j hj => by rw [if_pos (by omega)]), hbel.out, hsz⟩

theorem cloneB_some (a : Addr) (n c : Nat) (f : Nat → Int) (w : World) (hn : n ≤ 1048576) (hr : Rd w (some a) n (fun i => .int .u8 (f i))) :
    Calls Try.prog 18 #[.slice (some a) n c] w fun e w' => e = .returned (.slice (some ⟨w.heap.size, 0, none⟩) n n) ∧ w'.rowIs w.heap.size 5 n (fun i => .int .u8 (f i)) ∧ Below w.heap.size w w' ∧ w'.heap.size = w.heap.size + 1 := by
  by_cases h0 : 0 < n
  · obtain ⟨b, o, ha, hb, hc⟩ := hr.at h0
    obtain rfl := Option.some.inj ha
    exact cloneB_full b o n c f w hn hb hc
  · refine (cloneB_empty a n c w (by omega)).mono ?_
    rintro e w' ⟨rfl, rfl⟩
    exact ⟨rfl, (World.rowIs_made w _ _ _).congr (fun i hi => by omega), (Below.refl _ _).alloc (Nat.le_refl _) _, by simp⟩

/-! ### []uint64 -/
theorem cloneW_nil (n c : Nat) (w : World) : Calls Try.prog 14 #[.slice none n c] w fun e w' => e = .returned (.slice none 0 0) ∧ w' = w := by
  have q := eqlNil Try.underlying24
  go_enter Try.func14, Try.ntmps14
  go_wp2
  go_ret
  exact ⟨rfl, rfl⟩

theorem cloneW_empty (a : Addr) (n c : Nat) (w : World) (hn : n ≤ 0) : Calls Try.prog 14 #[.slice (some a) n c] w fun e w' => e = .returned (.slice (some ⟨w.heap.size, 0, none⟩) n n) ∧ w' = w.alloc (.cells (madeCells #[.int .u64 0] n) 25) := by
  have q := eqlNil Try.underlying24
  have hmk := run_make_row' (P := Try.prog) 24 25 (.int .u64 0) 8 Try.underlying24 info25 rfl .i64 .i64 n (by omega) (by omega)
  go_enter Try.func14, Try.ntmps14
  go_wp2
  go_loop [4] (fun i => i = .int .i64 0) (fun _ => 0)
  case atStart => rfl
  case round =>
    subst hrel
    go_wp2
    go_ret
    exact ⟨rfl, rfl⟩

theorem cloneW_full (b o n c : Nat) (f : Nat → Int) (w : World) (hn : n ≤ 1048576) (hb : b < w.heap.size) (hc : ∀ i, i < n → w.cell? ⟨b, o + i, none⟩ = some (.int .u64 (f i))) :
    Calls Try.prog 14 #[.slice (some ⟨b, o, none⟩) n c] w fun e w' => e = .returned (.slice (some ⟨w.heap.size, 0, none⟩) n n) ∧ w'.rowIs w.heap.size 25 n (fun i => .int .u64 (f i)) ∧ Below w.heap.size w w' ∧ w'.heap.size = w.heap.size + 1 := by
  have q := eqlNil Try.underlying24
  have hmk := run_make_row' (P := Try.prog) 24 25 (.int .u64 0) 8 Try.underlying24 info25 rfl .i64 .i64 n (by omega) (by omega)
  have HC : Hid (∀ i, i < n → w.cell? ⟨b, o + i, none⟩ = some (.int .u64 (f i))) := hc
  clear hc
  go_enter Try.func14, Try.ntmps14
  go_wp2
  go_loopw [4] (fun i wr => ∃ k : Nat, k ≤ n ∧ i = .int .i64 k ∧ Hid (wr.rowIs w.heap.size 25 n (fun j => if j < k then .int .u64 (f j) else .int .u64 0)) ∧ Hid (Below w.heap.size w wr) ∧ wr.heap.size = w.heap.size + 1) (fun i _ => n - (intOf i).toNat)
  case atStart => exact ⟨0, Nat.zero_le _, rfl, World.rowIs_made w _ _ _, (Below.refl _ _).alloc (Nat.le_refl _) _, by simp⟩
  case round =>
    obtain ⟨k, hk, rfl, hrow, hbel, hsz⟩ := hrel
    by_cases hlt : k < n
    · have hcx : wr.cell? ⟨b, o + k, none⟩ = some (.int .u64 (f k)) := (hbel.out.cell (p := ⟨b, o + k, none⟩) hb).trans (HC.out k hlt)
      have hfz : wr.frozen? ⟨w.heap.size, k, none⟩ = false := hrow.out.frozen k
      have hcd := hrow.out.cell hlt
      have hk0 : ¬ k < k := by omega
      simp only [hk0, if_false] at hcd
      go_wp2
      go_roundw
      case rel => 
        refine ⟨k + 1, by omega, by go_num, (hrow.out.set k (.int .u64 (f k))).congr (fun j hj => ?_), hbel.out.setCell (Nat.le_refl _) _, by simpa using hsz⟩
        by_cases e1 : j = k
        · subst e1; simp
        · by_cases e2 : j < k
          · rw [if_neg e1, if_pos e2, if_pos (by omega)]
          · rw [if_neg e1, if_neg e2, if_neg (by omega)]
      case measure => simp [intOf]; omega
    · go_wp2
      go_ret
      exact ⟨rfl, hrow.out.congr (fun j hj => by rw [if_pos (by omega)]), hbel.out, hsz⟩

theorem cloneW_some (a : Addr) (n c : Nat) (f : Nat → Int) (w : World) (hn : n ≤ 1048576) (hr : Rd w (some a) n (fun i => .int .u64 (f i))) :
    Calls Try.prog 14 #[.slice (some a) n c] w fun e w' => e = .returned (.slice (some ⟨w.heap.size, 0, none⟩) n n) ∧ w'.rowIs w.heap.size 25 n (fun i => .int .u64 (f i)) ∧ Below w.heap.size w w' ∧ w'.heap.size = w.heap.size + 1 := by
  by_cases h0 : 0 < n
  · obtain ⟨b, o, ha, hb, hc⟩ := hr.at h0
    obtain rfl := Option.some.inj ha
    exact cloneW_full b o n c f w hn hb hc
  · refine (cloneW_empty a n c w (by omega)).mono ?_
    rintro e w' ⟨rfl, rfl⟩
    exact ⟨rfl, (World.rowIs_made w _ _ _).congr (fun i hi => by omega), (Below.refl _ _).alloc (Nat.le_refl _) _, by simp⟩

/-! ### []string -/
theorem cloneS_nil (n c : Nat) (w : World) : Calls Try.prog 12 #[.slice none n c] w fun e w' => e = .returned (.slice none 0 0) ∧ w' = w := by
  have q := eqlNil Try.underlying22
  go_enter Try.func12, Try.ntmps12
  go_wp2
  go_ret
  exact ⟨rfl, rfl⟩

theorem cloneS_empty (a : Addr) (n c : Nat) (w : World) (hn : n ≤ 0) : Calls Try.prog 12 #[.slice (some a) n c] w fun e w' => e = .returned (.slice (some ⟨w.heap.size, 0, none⟩) n n) ∧ w' = w.alloc (.cells (madeCells #[.string ByteArray.empty] n) 9) := by
  have q := eqlNil Try.underlying22
  have hmk := run_make_row' (P := Try.prog) 22 9 (.string ByteArray.empty) 16 Try.underlying22 info9 rfl .i64 .i64 n (by omega) (by omega)
  go_enter Try.func12, Try.ntmps12
  go_wp2
  go_loop [4] (fun i => i = .int .i64 0) (fun _ => 0)
  case atStart => rfl
  case round =>
    subst hrel
    go_wp2
    go_ret
    exact ⟨rfl, rfl⟩

theorem cloneS_full (b o n c : Nat) (f : Nat → ByteArray) (w : World) (hn : n ≤ 1048576) (hb : b < w.heap.size) (hc : ∀ i, i < n → w.cell? ⟨b, o + i, none⟩ = some (.string (f i))) :
    Calls Try.prog 12 #[.slice (some ⟨b, o, none⟩) n c] w fun e w' => e = .returned (.slice (some ⟨w.heap.size, 0, none⟩) n n) ∧ w'.rowIs w.heap.size 9 n (fun i => .string (f i)) ∧ Below w.heap.size w w' ∧ w'.heap.size = w.heap.size + 1 := by
  have q := eqlNil Try.underlying22
  have hmk := run_make_row' (P := Try.prog) 22 9 (.string ByteArray.empty) 16 Try.underlying22 info9 rfl .i64 .i64 n (by omega) (by omega)
  have HC : Hid (∀ i, i < n → w.cell? ⟨b, o + i, none⟩ = some (.string (f i))) := hc
  clear hc
  go_enter Try.func12, Try.ntmps12
  go_wp2
  go_loopw [4] (fun i wr => ∃ k : Nat, k ≤ n ∧ i = .int .i64 k ∧ Hid (wr.rowIs w.heap.size 9 n (fun j => if j < k then .string (f j) else .string ByteArray.empty)) ∧ Hid (Below w.heap.size w wr) ∧ wr.heap.size = w.heap.size + 1) (fun i _ => n - (intOf i).toNat)
  case atStart => exact ⟨0, Nat.zero_le _, rfl, World.rowIs_made w _ _ _, (Below.refl _ _).alloc (Nat.le_refl _) _, by simp⟩
  case round =>
    obtain ⟨k, hk, rfl, hrow, hbel, hsz⟩ := hrel
    by_cases hlt : k < n
    · have hcx : wr.cell? ⟨b, o + k, none⟩ = some (.string (f k)) := (hbel.out.cell (p := ⟨b, o + k, none⟩) hb).trans (HC.out k hlt)
      have hfz : wr.frozen? ⟨w.heap.size, k, none⟩ = false := hrow.out.frozen k
      have hcd := hrow.out.cell hlt
      have hk0 : ¬ k < k := by omega
      simp only [hk0, if_false] at hcd
      go_wp2
      go_roundw
      case rel => 
        refine ⟨k + 1, by omega, by go_num, (hrow.out.set k (.string (f k))).congr (fun j hj => ?_), hbel.out.setCell (Nat.le_refl _) _, by simpa using hsz⟩
        by_cases e1 : j = k
        · subst e1; simp
        · by_cases e2 : j < k
          · rw [if_neg e1, if_pos e2, if_pos (by omega)]
          · rw [if_neg e1, if_neg e2, if_neg (by omega)]
      case measure => simp [intOf]; omega
    · go_wp2
      go_ret
      exact ⟨rfl, hrow.out.congr (fun j hj => by rw [if_pos (by omega)]), hbel.out, hsz⟩

theorem cloneS_some (a : Addr) (n c : Nat) (f : Nat → ByteArray) (w : World) (hn : n ≤ 1048576) (hr : Rd w (some a) n (fun i => .string (f i))) :
    Calls Try.prog 12 #[.slice (some a) n c] w fun e w' => e = .returned (.slice (some ⟨w.heap.size, 0, none⟩) n n) ∧ w'.rowIs w.heap.size 9 n (fun i => .string (f i)) ∧ Below w.heap.size w w' ∧ w'.heap.size = w.heap.size + 1 := by
  by_cases h0 : 0 < n
  · obtain ⟨b, o, ha, hb, hc⟩ := hr.at h0
    obtain rfl := Option.some.inj ha
    exact cloneS_full b o n c f w hn hb hc
  · refine (cloneS_empty a n c w (by omega)).mono ?_
    rintro e w' ⟨rfl, rfl⟩
    exact ⟨rfl, (World.rowIs_made w _ _ _).congr (fun i hi => by omega), (Below.refl _ _).alloc (Nat.le_refl _) _, by simp⟩

end Go.Proofs.Qxb6602653a
