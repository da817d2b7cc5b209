/-
  The walks of lawStringsFit (function 10) and lawBytesFit (11): each only reads, and answers a total and a yes or no; where it says yes each length is within the bound.
-/
import Derived.Test.Qxb6602653aBase
namespace Go.Proofs.Qxb6602653a
open Go.RowKit

/-- What a 'fit' leaves. -/
def FitEnd (w : World) (n : Nat) (len : Nat → Nat) (e : Ending) (w' : World) : Prop :=
  ∃ (t : Int) (b : Bool), e = .returned (.tuple #[.int .i64 t, .bool b]) ∧ w' = w ∧ 0 ≤ t ∧ t ≤ 1073741824 ∧ (b = true → ∀ i, i < n → len i ≤ 1048576)
theorem FitEnd.no {w : World} {n : Nat} {len : Nat → Nat} (t : Int) (h0 : 0 ≤ t) (h1 : t ≤ 1073741824) : FitEnd w n len (.returned (.tuple #[.int .i64 t, .bool false])) w :=
  ⟨t, false, rfl, rfl, h0, h1, fun h => by cases h⟩
theorem FitEnd.yes {w : World} {n : Nat} {len : Nat → Nat} (t : Int) (h0 : 0 ≤ t) (h1 : t ≤ 1073741824) (h : ∀ i, i < n → len i ≤ 1048576) : FitEnd w n len (.returned (.tuple #[.int .i64 t, .bool true])) w :=
  ⟨t, true, rfl, rfl, h0, h1, fun _ => h⟩

theorem strFit (t0 : Int) (a : Option Addr) (n c : Nat) (f : Nat → ByteArray) (w : World) (h0 : 0 ≤ t0) (ht : t0 ≤ 1073741824) (hn : n ≤ maxLen) (hr : Rd w a n (fun i => .string (f i))) :
    Calls Try.prog 10 #[.int .i64 t0, .slice a n c] w (FitEnd w n (fun i => (f i).size)) := by
  unfold maxLen at hn
  by_cases hbig : 1048576 < t0
  · go_enter Try.func10, Try.ntmps10
    go_wp2
    go_ret2
    exact FitEnd.no _ h0 ht
  · by_cases hp : 0 < n
    · obtain ⟨b, o, rfl, _, hc⟩ := hr.at hp
      have HC : Hid (∀ i, i < n → w.cell? ⟨b, o + i, none⟩ = some (.string (f i))) := hc
      clear hc hr
      go_enter Try.func10, Try.ntmps10
      go_wp2
      go_loop [0, 6] (fun t i => ∃ (k : Nat) (q : Int), k ≤ n ∧ i = .int .i64 k ∧ t = .int .i64 q ∧ 0 ≤ q ∧ q ≤ 1048576 ∧ Hid (∀ i, i < k → (f i).size ≤ 1048576)) (fun _ i => n - (intOf i).toNat)
      case atStart => exact ⟨0, t0, Nat.zero_le _, rfl, rfl, h0, by omega, fun i hi => by omega⟩
      case round =>
        obtain ⟨k, q, hk, rfl, rfl, hq0, hq1, HL⟩ := hrel
        by_cases hlt : k < n
        · have hcx := HC.out k hlt
          obtain ⟨s, hs⟩ : ∃ s, s = f k := ⟨_, rfl⟩
          rw [← hs] at hcx
          have HS : Hid (s = f k) := hs
          clear hs
          by_cases hl : 1048576 < (s.size : Int)
          · go_wp2
            go_ret2
            exact FitEnd.no _ hq0 (by omega)
          · by_cases hl2 : 1048576 < q + (s.size : Int)
            · go_wp2
              go_ret2
              exact FitEnd.no _ (by omega) (by omega)
            · go_wp2
              go_round
              case rel =>
                refine ⟨k + 1, q + s.size, by omega, by go_num, rfl, by omega, by omega, fun i hi => ?_⟩
                by_cases e : i = k
                · subst e; rw [← HS.out]; omega
                · exact HL.out i (by omega)
              case measure => simp [intOf]; omega
        · go_wp2
          go_ret2
          exact FitEnd.yes _ hq0 (by omega) (fun i hi => HL.out i (by omega))
    · go_enter Try.func10, Try.ntmps10
      go_wp2
      go_loop [0, 6] (fun t i => i = .int .i64 0 ∧ t = .int .i64 t0) (fun _ _ => 0)
      case atStart => exact ⟨rfl, rfl⟩
      case round =>
        obtain ⟨rfl, rfl⟩ := hrel
        go_wp2
        go_ret2
        exact FitEnd.yes _ h0 ht (fun i hi => by omega)

/-- What is known of one cell of a slice of slices: its three numbers. -/
structure Sl where
  ad : Option Addr
  len : Nat
  cap : Nat
def Sl.val (s : Sl) : Value := .slice s.ad s.len s.cap

theorem bytFit (t0 : Int) (a : Option Addr) (n c : Nat) (f : Nat → Sl) (w : World) (h0 : 0 ≤ t0) (ht : t0 ≤ 1073741824) (hn : n ≤ maxLen) (hr : Rd w a n (fun i => (f i).val)) :
    Calls Try.prog 11 #[.int .i64 t0, .slice a n c] w (FitEnd w n (fun i => (f i).len)) := by
  unfold maxLen at hn
  by_cases hbig : 1048576 < t0
  · go_enter Try.func11, Try.ntmps11
    go_wp2
    go_ret2
    exact FitEnd.no _ h0 ht
  · by_cases hp : 0 < n
    · obtain ⟨b, o, rfl, _, hc⟩ := hr.at hp
      have HC : Hid (∀ i, i < n → w.cell? ⟨b, o + i, none⟩ = some ((f i).val)) := hc
      clear hc hr
      go_enter Try.func11, Try.ntmps11
      go_wp2
      go_loop [0, 6] (fun t i => ∃ (k : Nat) (q : Int), k ≤ n ∧ i = .int .i64 k ∧ t = .int .i64 q ∧ 0 ≤ q ∧ q ≤ 1048576 ∧ Hid (∀ i, i < k → (f i).len ≤ 1048576)) (fun _ i => n - (intOf i).toNat)
      case atStart => exact ⟨0, t0, Nat.zero_le _, rfl, rfl, h0, by omega, fun i hi => by omega⟩
      case round =>
        obtain ⟨k, q, hk, rfl, rfl, hq0, hq1, HL⟩ := hrel
        by_cases hlt : k < n
        · obtain ⟨sa, sl, sc, hcx, HS⟩ : ∃ sa sl sc, w.cell? ⟨b, o + k, none⟩ = some (.slice sa sl sc) ∧ Hid (sl = (f k).len) := ⟨_, _, _, HC.out k hlt, rfl⟩
          by_cases hl : 1048576 < (sl : Int)
          · go_wp2
            go_ret2
            exact FitEnd.no _ hq0 (by omega)
          · by_cases hl2 : 1048576 < q + (sl : Int)
            · go_wp2
              go_ret2
              exact FitEnd.no _ (by omega) (by omega)
            · go_wp2
              go_round
              case rel =>
                refine ⟨k + 1, q + sl, by omega, by go_num, rfl, by omega, by omega, fun i hi => ?_⟩
                by_cases e : i = k
                · subst e; rw [← HS.out]; omega
                · exact HL.out i (by omega)
              case measure => simp [intOf]; omega
        · go_wp2
          go_ret2
          exact FitEnd.yes _ hq0 (by omega) (fun i hi => HL.out i (by omega))
    · go_enter Try.func11, Try.ntmps11
      go_wp2
      go_loop [0, 6] (fun t i => i = .int .i64 0 ∧ t = .int .i64 t0) (fun _ _ => 0)
      case atStart => exact ⟨rfl, rfl⟩
      case round =>
        obtain ⟨rfl, rfl⟩ := hrel
        go_wp2
        go_ret2
        exact FitEnd.yes _ h0 ht (fun i hi => by omega)
end Go.Proofs.Qxb6602653a
