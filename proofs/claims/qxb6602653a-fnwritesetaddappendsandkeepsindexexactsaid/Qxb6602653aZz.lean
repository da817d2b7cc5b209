/-
  The walks of the five zzBytes functions that hold loops (16, 9, 17, 23, 26): each only reads, and answers a bool.
-/
import Derived.Test.Qxb6602653aHolds
namespace Go.Proofs.Qxb6602653a
open Go.RowKit
set_option linter.unusedVariables false

/-- A slice that is read: empty, or at an address that is written out. -/
theorem Rd.cases {w : World} {a : Option Addr} {n : Nat} {f : Nat → Value} (h : Rd w a n f) : n ≤ 0 ∨ ∃ b o, a = some ⟨b, o, none⟩ ∧ ∀ i, i < n → w.cell? ⟨b, o + i, none⟩ = some (f i) := by
  by_cases h0 : 0 < n
  · obtain ⟨b, o, h1, _, h2⟩ := h.at h0
    exact .inr ⟨b, o, h1, h2⟩
  · exact .inl (by omega)

set_option maxHeartbeats 1000000 in
theorem zz16 (am : Option Addr) (m mc : Nat) (fm : Nat → ByteArray) (ah : Option Addr) (hn hc : Nat) (lg : Int) (w : World) (rm : Rd w am m (fun i => .string (fm i))) :
    Calls Try.prog 16 #[.slice am m mc, .slice ah hn hc, .int .u8 lg] w (BoolEnd w) := by
  rcases rm.cases with zm | ⟨bm, om, rfl, cm⟩
  · clear rm
    by_cases hp0 : 1048576 < (m : Int)
    · go_enter Try.func16, Try.ntmps16
      go_wp2
      go_ret
      exact BoolEnd.mk _ _
    go_enter Try.func16, Try.ntmps16
    go_wp2
    go_loop [7, 8] (fun t i => ∃ (k : Nat) (q : Int), k ≤ m ∧ i = .int .i64 k ∧ t = .int .i64 q ∧ 0 ≤ q ∧ q ≤ 1048576) (fun _ i => m - (intOf i).toNat)
    case atStart => exact ⟨0, _, Nat.zero_le _, rfl, rfl, by omega, by omega⟩
    case round =>
      obtain ⟨k, q, hk, rfl, rfl, hq0, hq1⟩ := hrel
      by_cases hlt : k < m
      · exfalso; omega
      · have hge : m ≤ k := by omega
        go_wp2
        all_goals
          go_ret
          exact BoolEnd.mk _ _
  · clear rm
    have HM : Hid (∀ i, i < m → w.cell? ⟨bm, om + i, none⟩ = some (.string (fm i))) := cm
    clear cm
    by_cases hp0 : 1048576 < (m : Int)
    · go_enter Try.func16, Try.ntmps16
      go_wp2
      go_ret
      exact BoolEnd.mk _ _
    go_enter Try.func16, Try.ntmps16
    go_wp2
    go_loop [7, 8] (fun t i => ∃ (k : Nat) (q : Int), k ≤ m ∧ i = .int .i64 k ∧ t = .int .i64 q ∧ 0 ≤ q ∧ q ≤ 1048576) (fun _ i => m - (intOf i).toNat)
    case atStart => exact ⟨0, _, Nat.zero_le _, rfl, rfl, by omega, by omega⟩
    case round =>
      obtain ⟨k, q, hk, rfl, rfl, hq0, hq1⟩ := hrel
      by_cases hlt : k < m
      · obtain ⟨s, hcx⟩ : ∃ s, w.cell? _ = some (.string s) := ⟨_, HM.out k hlt⟩
        by_cases hl : 1048576 < (s.size : Int)
        · go_wp2
          go_ret
          exact BoolEnd.mk _ _
        by_cases hl2 : 1048576 < q + (s.size : Int)
        · go_wp2
          go_ret
          exact BoolEnd.mk _ _
        go_wp2
        go_round
        case rel => exact ⟨k + 1, q + (s.size : Int), by omega, by go_num, rfl, by omega, by omega⟩
        case measure => simp [intOf]; omega
      · have hge : m ≤ k := by omega
        go_wp2
        all_goals
          go_ret
          exact BoolEnd.mk _ _

set_option maxHeartbeats 1000000 in
theorem zz9 (am : Option Addr) (m mc : Nat) (fm : Nat → ByteArray) (av : Option Addr) (v vc : Nat) (fv : Nat → Sl) (ah : Option Addr) (hn hc : Nat) (H : Int) (K : ByteArray) (w : World) (rm : Rd w am m (fun i => .string (fm i))) (rv : Rd w av v (fun i => (fv i).val)) :
    Calls Try.prog 9 #[.slice am m mc, .slice av v vc, .slice ah hn hc, .int .u64 H, .string K] w (BoolEnd w) := by
  rcases rm.cases with zm | ⟨bm, om, rfl, cm⟩
  · clear rm
    rcases rv.cases with zv | ⟨bv, ov, rfl, cv⟩
    · clear rv
      by_cases hp0 : 1048576 < (m : Int)
      · go_enter Try.func9, Try.ntmps9
        go_wp2
        go_ret
        exact BoolEnd.mk _ _
      go_enter Try.func9, Try.ntmps9
      go_wp2
      go_loop [11, 12] (fun t i => ∃ (k : Nat) (q : Int), k ≤ m ∧ i = .int .i64 k ∧ t = .int .i64 q ∧ 0 ≤ q ∧ q ≤ 1048576) (fun _ i => m - (intOf i).toNat)
      case atStart => exact ⟨0, _, Nat.zero_le _, rfl, rfl, by omega, by omega⟩
      case round =>
        obtain ⟨k, q, hk, rfl, rfl, hq0, hq1⟩ := hrel
        by_cases hlt : k < m
        · exfalso; omega
        · have hge : m ≤ k := by omega
          by_cases hv1 : 1048576 < (v : Int)
          · go_wp2
            go_ret
            exact BoolEnd.mk _ _
          by_cases hv2 : 1048576 < q + (v : Int)
          · go_wp2
            go_ret
            exact BoolEnd.mk _ _
          go_wp2
          go_loop [11, 13] (fun t i => ∃ (k : Nat) (q : Int), k ≤ v ∧ i = .int .i64 k ∧ t = .int .i64 q ∧ 0 ≤ q ∧ q ≤ 1048576) (fun _ i => v - (intOf i).toNat)
          case atStart => exact ⟨0, _, Nat.zero_le _, rfl, rfl, by omega, by omega⟩
          case round =>
            obtain ⟨k, q, hk, rfl, rfl, hq0, hq1⟩ := hrel
            by_cases hlt : k < v
            · exfalso; omega
            · have hge : v ≤ k := by omega
              go_wp2
              all_goals
                go_ret
                exact BoolEnd.mk _ _
    · clear rv
      have HVV : Hid (∀ i, i < v → w.cell? ⟨bv, ov + i, none⟩ = some ((fv i).val)) := cv
      clear cv
      by_cases hp0 : 1048576 < (m : Int)
      · go_enter Try.func9, Try.ntmps9
        go_wp2
        go_ret
        exact BoolEnd.mk _ _
      go_enter Try.func9, Try.ntmps9
      go_wp2
      go_loop [11, 12] (fun t i => ∃ (k : Nat) (q : Int), k ≤ m ∧ i = .int .i64 k ∧ t = .int .i64 q ∧ 0 ≤ q ∧ q ≤ 1048576) (fun _ i => m - (intOf i).toNat)
      case atStart => exact ⟨0, _, Nat.zero_le _, rfl, rfl, by omega, by omega⟩
      case round =>
        obtain ⟨k, q, hk, rfl, rfl, hq0, hq1⟩ := hrel
        by_cases hlt : k < m
        · exfalso; omega
        · have hge : m ≤ k := by omega
          by_cases hv1 : 1048576 < (v : Int)
          · go_wp2
            go_ret
            exact BoolEnd.mk _ _
          by_cases hv2 : 1048576 < q + (v : Int)
          · go_wp2
            go_ret
            exact BoolEnd.mk _ _
          go_wp2
          go_loop [11, 13] (fun t i => ∃ (k : Nat) (q : Int), k ≤ v ∧ i = .int .i64 k ∧ t = .int .i64 q ∧ 0 ≤ q ∧ q ≤ 1048576) (fun _ i => v - (intOf i).toNat)
          case atStart => exact ⟨0, _, Nat.zero_le _, rfl, rfl, by omega, by omega⟩
          case round =>
            obtain ⟨k, q, hk, rfl, rfl, hq0, hq1⟩ := hrel
            by_cases hlt : k < v
            · obtain ⟨sa, sl, sc, hcx⟩ : ∃ sa sl sc, w.cell? _ = some (.slice sa sl sc) := ⟨_, _, _, HVV.out k hlt⟩
              by_cases hl : 1048576 < (sl : Int)
              · go_wp2
                go_ret
                exact BoolEnd.mk _ _
              by_cases hl2 : 1048576 < q + (sl : Int)
              · go_wp2
                go_ret
                exact BoolEnd.mk _ _
              go_wp2
              go_round
              case rel => exact ⟨k + 1, q + (sl : Int), by omega, by go_num, rfl, by omega, by omega⟩
              case measure => simp [intOf]; omega
            · have hge : v ≤ k := by omega
              go_wp2
              all_goals
                go_ret
                exact BoolEnd.mk _ _
  · clear rm
    rcases rv.cases with zv | ⟨bv, ov, rfl, cv⟩
    · clear rv
      have HM : Hid (∀ i, i < m → w.cell? ⟨bm, om + i, none⟩ = some (.string (fm i))) := cm
      clear cm
      by_cases hp0 : 1048576 < (m : Int)
      · go_enter Try.func9, Try.ntmps9
        go_wp2
        go_ret
        exact BoolEnd.mk _ _
      go_enter Try.func9, Try.ntmps9
      go_wp2
      go_loop [11, 12] (fun t i => ∃ (k : Nat) (q : Int), k ≤ m ∧ i = .int .i64 k ∧ t = .int .i64 q ∧ 0 ≤ q ∧ q ≤ 1048576) (fun _ i => m - (intOf i).toNat)
      case atStart => exact ⟨0, _, Nat.zero_le _, rfl, rfl, by omega, by omega⟩
      case round =>
        obtain ⟨k, q, hk, rfl, rfl, hq0, hq1⟩ := hrel
        by_cases hlt : k < m
        · obtain ⟨s, hcx⟩ : ∃ s, w.cell? _ = some (.string s) := ⟨_, HM.out k hlt⟩
          by_cases hl : 1048576 < (s.size : Int)
          · go_wp2
            go_ret
            exact BoolEnd.mk _ _
          by_cases hl2 : 1048576 < q + (s.size : Int)
          · go_wp2
            go_ret
            exact BoolEnd.mk _ _
          go_wp2
          go_round
          case rel => exact ⟨k + 1, q + (s.size : Int), by omega, by go_num, rfl, by omega, by omega⟩
          case measure => simp [intOf]; omega
        · have hge : m ≤ k := by omega
          by_cases hv1 : 1048576 < (v : Int)
          · go_wp2
            go_ret
            exact BoolEnd.mk _ _
          by_cases hv2 : 1048576 < q + (v : Int)
          · go_wp2
            go_ret
            exact BoolEnd.mk _ _
          go_wp2
          go_loop [11, 13] (fun t i => ∃ (k : Nat) (q : Int), k ≤ v ∧ i = .int .i64 k ∧ t = .int .i64 q ∧ 0 ≤ q ∧ q ≤ 1048576) (fun _ i => v - (intOf i).toNat)
          case atStart => exact ⟨0, _, Nat.zero_le _, rfl, rfl, by omega, by omega⟩
          case round =>
            obtain ⟨k, q, hk, rfl, rfl, hq0, hq1⟩ := hrel
            by_cases hlt : k < v
            · exfalso; omega
            · have hge : v ≤ k := by omega
              go_wp2
              all_goals
                go_ret
                exact BoolEnd.mk _ _
    · clear rv
      have HM : Hid (∀ i, i < m → w.cell? ⟨bm, om + i, none⟩ = some (.string (fm i))) := cm
      clear cm
      have HVV : Hid (∀ i, i < v → w.cell? ⟨bv, ov + i, none⟩ = some ((fv i).val)) := cv
      clear cv
      by_cases hp0 : 1048576 < (m : Int)
      · go_enter Try.func9, Try.ntmps9
        go_wp2
        go_ret
        exact BoolEnd.mk _ _
      go_enter Try.func9, Try.ntmps9
      go_wp2
      go_loop [11, 12] (fun t i => ∃ (k : Nat) (q : Int), k ≤ m ∧ i = .int .i64 k ∧ t = .int .i64 q ∧ 0 ≤ q ∧ q ≤ 1048576) (fun _ i => m - (intOf i).toNat)
      case atStart => exact ⟨0, _, Nat.zero_le _, rfl, rfl, by omega, by omega⟩
      case round =>
        obtain ⟨k, q, hk, rfl, rfl, hq0, hq1⟩ := hrel
        by_cases hlt : k < m
        · obtain ⟨s, hcx⟩ : ∃ s, w.cell? _ = some (.string s) := ⟨_, HM.out k hlt⟩
          by_cases hl : 1048576 < (s.size : Int)
          · go_wp2
            go_ret
            exact BoolEnd.mk _ _
          by_cases hl2 : 1048576 < q + (s.size : Int)
          · go_wp2
            go_ret
            exact BoolEnd.mk _ _
          go_wp2
          go_round
          case rel => exact ⟨k + 1, q + (s.size : Int), by omega, by go_num, rfl, by omega, by omega⟩
          case measure => simp [intOf]; omega
        · have hge : m ≤ k := by omega
          by_cases hv1 : 1048576 < (v : Int)
          · go_wp2
            go_ret
            exact BoolEnd.mk _ _
          by_cases hv2 : 1048576 < q + (v : Int)
          · go_wp2
            go_ret
            exact BoolEnd.mk _ _
          go_wp2
          go_loop [11, 13] (fun t i => ∃ (k : Nat) (q : Int), k ≤ v ∧ i = .int .i64 k ∧ t = .int .i64 q ∧ 0 ≤ q ∧ q ≤ 1048576) (fun _ i => v - (intOf i).toNat)
          case atStart => exact ⟨0, _, Nat.zero_le _, rfl, rfl, by omega, by omega⟩
          case round =>
            obtain ⟨k, q, hk, rfl, rfl, hq0, hq1⟩ := hrel
            by_cases hlt : k < v
            · obtain ⟨sa, sl, sc, hcx⟩ : ∃ sa sl sc, w.cell? _ = some (.slice sa sl sc) := ⟨_, _, _, HVV.out k hlt⟩
              by_cases hl : 1048576 < (sl : Int)
              · go_wp2
                go_ret
                exact BoolEnd.mk _ _
              by_cases hl2 : 1048576 < q + (sl : Int)
              · go_wp2
                go_ret
                exact BoolEnd.mk _ _
              go_wp2
              go_round
              case rel => exact ⟨k + 1, q + (sl : Int), by omega, by go_num, rfl, by omega, by omega⟩
              case measure => simp [intOf]; omega
            · have hge : v ≤ k := by omega
              go_wp2
              all_goals
                go_ret
                exact BoolEnd.mk _ _

set_option maxHeartbeats 1000000 in
theorem zz17 (am : Option Addr) (m mc : Nat) (fm : Nat → ByteArray) (av : Option Addr) (v vc : Nat) (fv : Nat → Sl) (ix : Bool) (K : ByteArray) (ah : Option Addr) (hn hc : Nat) (w : World) (rm : Rd w am m (fun i => .string (fm i))) (rv : Rd w av v (fun i => (fv i).val)) :
    Calls Try.prog 17 #[.slice am m mc, .slice av v vc, .bool ix, .string K, .slice ah hn hc] w (BoolEnd w) := by
  rcases rm.cases with zm | ⟨bm, om, rfl, cm⟩
  · clear rm
    rcases rv.cases with zv | ⟨bv, ov, rfl, cv⟩
    · clear rv
      by_cases hp0 : 1048576 < (m : Int)
      · go_enter Try.func17, Try.ntmps17
        go_wp2
        go_ret
        exact BoolEnd.mk _ _
      go_enter Try.func17, Try.ntmps17
      go_wp2
      go_loop [11, 12] (fun t i => ∃ (k : Nat) (q : Int), k ≤ m ∧ i = .int .i64 k ∧ t = .int .i64 q ∧ 0 ≤ q ∧ q ≤ 1048576) (fun _ i => m - (intOf i).toNat)
      case atStart => exact ⟨0, _, Nat.zero_le _, rfl, rfl, by omega, by omega⟩
      case round =>
        obtain ⟨k, q, hk, rfl, rfl, hq0, hq1⟩ := hrel
        by_cases hlt : k < m
        · exfalso; omega
        · have hge : m ≤ k := by omega
          by_cases hv1 : 1048576 < (v : Int)
          · go_wp2
            go_ret
            exact BoolEnd.mk _ _
          by_cases hv2 : 1048576 < q + (v : Int)
          · go_wp2
            go_ret
            exact BoolEnd.mk _ _
          go_wp2
          go_loop [11, 13] (fun t i => ∃ (k : Nat) (q : Int), k ≤ v ∧ i = .int .i64 k ∧ t = .int .i64 q ∧ 0 ≤ q ∧ q ≤ 1048576) (fun _ i => v - (intOf i).toNat)
          case atStart => exact ⟨0, _, Nat.zero_le _, rfl, rfl, by omega, by omega⟩
          case round =>
            obtain ⟨k, q, hk, rfl, rfl, hq0, hq1⟩ := hrel
            by_cases hlt : k < v
            · exfalso; omega
            · have hge : v ≤ k := by omega
              go_wp2
              all_goals
                go_ret
                exact BoolEnd.mk _ _
    · clear rv
      have HVV : Hid (∀ i, i < v → w.cell? ⟨bv, ov + i, none⟩ = some ((fv i).val)) := cv
      clear cv
      by_cases hp0 : 1048576 < (m : Int)
      · go_enter Try.func17, Try.ntmps17
        go_wp2
        go_ret
        exact BoolEnd.mk _ _
      go_enter Try.func17, Try.ntmps17
      go_wp2
      go_loop [11, 12] (fun t i => ∃ (k : Nat) (q : Int), k ≤ m ∧ i = .int .i64 k ∧ t = .int .i64 q ∧ 0 ≤ q ∧ q ≤ 1048576) (fun _ i => m - (intOf i).toNat)
      case atStart => exact ⟨0, _, Nat.zero_le _, rfl, rfl, by omega, by omega⟩
      case round =>
        obtain ⟨k, q, hk, rfl, rfl, hq0, hq1⟩ := hrel
        by_cases hlt : k < m
        · exfalso; omega
        · have hge : m ≤ k := by omega
          by_cases hv1 : 1048576 < (v : Int)
          · go_wp2
            go_ret
            exact BoolEnd.mk _ _
          by_cases hv2 : 1048576 < q + (v : Int)
          · go_wp2
            go_ret
            exact BoolEnd.mk _ _
          go_wp2
          go_loop [11, 13] (fun t i => ∃ (k : Nat) (q : Int), k ≤ v ∧ i = .int .i64 k ∧ t = .int .i64 q ∧ 0 ≤ q ∧ q ≤ 1048576) (fun _ i => v - (intOf i).toNat)
          case atStart => exact ⟨0, _, Nat.zero_le _, rfl, rfl, by omega, by omega⟩
          case round =>
            obtain ⟨k, q, hk, rfl, rfl, hq0, hq1⟩ := hrel
            by_cases hlt : k < v
            · obtain ⟨sa, sl, sc, hcx⟩ : ∃ sa sl sc, w.cell? _ = some (.slice sa sl sc) := ⟨_, _, _, HVV.out k hlt⟩
              by_cases hl : 1048576 < (sl : Int)
              · go_wp2
                go_ret
                exact BoolEnd.mk _ _
              by_cases hl2 : 1048576 < q + (sl : Int)
              · go_wp2
                go_ret
                exact BoolEnd.mk _ _
              go_wp2
              go_round
              case rel => exact ⟨k + 1, q + (sl : Int), by omega, by go_num, rfl, by omega, by omega⟩
              case measure => simp [intOf]; omega
            · have hge : v ≤ k := by omega
              go_wp2
              all_goals
                go_ret
                exact BoolEnd.mk _ _
  · clear rm
    rcases rv.cases with zv | ⟨bv, ov, rfl, cv⟩
    · clear rv
      have HM : Hid (∀ i, i < m → w.cell? ⟨bm, om + i, none⟩ = some (.string (fm i))) := cm
      clear cm
      by_cases hp0 : 1048576 < (m : Int)
      · go_enter Try.func17, Try.ntmps17
        go_wp2
        go_ret
        exact BoolEnd.mk _ _
      go_enter Try.func17, Try.ntmps17
      go_wp2
      go_loop [11, 12] (fun t i => ∃ (k : Nat) (q : Int), k ≤ m ∧ i = .int .i64 k ∧ t = .int .i64 q ∧ 0 ≤ q ∧ q ≤ 1048576) (fun _ i => m - (intOf i).toNat)
      case atStart => exact ⟨0, _, Nat.zero_le _, rfl, rfl, by omega, by omega⟩
      case round =>
        obtain ⟨k, q, hk, rfl, rfl, hq0, hq1⟩ := hrel
        by_cases hlt : k < m
        · obtain ⟨s, hcx⟩ : ∃ s, w.cell? _ = some (.string s) := ⟨_, HM.out k hlt⟩
          by_cases hl : 1048576 < (s.size : Int)
          · go_wp2
            go_ret
            exact BoolEnd.mk _ _
          by_cases hl2 : 1048576 < q + (s.size : Int)
          · go_wp2
            go_ret
            exact BoolEnd.mk _ _
          go_wp2
          go_round
          case rel => exact ⟨k + 1, q + (s.size : Int), by omega, by go_num, rfl, by omega, by omega⟩
          case measure => simp [intOf]; omega
        · have hge : m ≤ k := by omega
          by_cases hv1 : 1048576 < (v : Int)
          · go_wp2
            go_ret
            exact BoolEnd.mk _ _
          by_cases hv2 : 1048576 < q + (v : Int)
          · go_wp2
            go_ret
            exact BoolEnd.mk _ _
          go_wp2
          go_loop [11, 13] (fun t i => ∃ (k : Nat) (q : Int), k ≤ v ∧ i = .int .i64 k ∧ t = .int .i64 q ∧ 0 ≤ q ∧ q ≤ 1048576) (fun _ i => v - (intOf i).toNat)
          case atStart => exact ⟨0, _, Nat.zero_le _, rfl, rfl, by omega, by omega⟩
          case round =>
            obtain ⟨k, q, hk, rfl, rfl, hq0, hq1⟩ := hrel
            by_cases hlt : k < v
            · exfalso; omega
            · have hge : v ≤ k := by omega
              go_wp2
              all_goals
                go_ret
                exact BoolEnd.mk _ _
    · clear rv
      have HM : Hid (∀ i, i < m → w.cell? ⟨bm, om + i, none⟩ = some (.string (fm i))) := cm
      clear cm
      have HVV : Hid (∀ i, i < v → w.cell? ⟨bv, ov + i, none⟩ = some ((fv i).val)) := cv
      clear cv
      by_cases hp0 : 1048576 < (m : Int)
      · go_enter Try.func17, Try.ntmps17
        go_wp2
        go_ret
        exact BoolEnd.mk _ _
      go_enter Try.func17, Try.ntmps17
      go_wp2
      go_loop [11, 12] (fun t i => ∃ (k : Nat) (q : Int), k ≤ m ∧ i = .int .i64 k ∧ t = .int .i64 q ∧ 0 ≤ q ∧ q ≤ 1048576) (fun _ i => m - (intOf i).toNat)
      case atStart => exact ⟨0, _, Nat.zero_le _, rfl, rfl, by omega, by omega⟩
      case round =>
        obtain ⟨k, q, hk, rfl, rfl, hq0, hq1⟩ := hrel
        by_cases hlt : k < m
        · obtain ⟨s, hcx⟩ : ∃ s, w.cell? _ = some (.string s) := ⟨_, HM.out k hlt⟩
          by_cases hl : 1048576 < (s.size : Int)
          · go_wp2
            go_ret
            exact BoolEnd.mk _ _
          by_cases hl2 : 1048576 < q + (s.size : Int)
          · go_wp2
            go_ret
            exact BoolEnd.mk _ _
          go_wp2
          go_round
          case rel => exact ⟨k + 1, q + (s.size : Int), by omega, by go_num, rfl, by omega, by omega⟩
          case measure => simp [intOf]; omega
        · have hge : m ≤ k := by omega
          by_cases hv1 : 1048576 < (v : Int)
          · go_wp2
            go_ret
            exact BoolEnd.mk _ _
          by_cases hv2 : 1048576 < q + (v : Int)
          · go_wp2
            go_ret
            exact BoolEnd.mk _ _
          go_wp2
          go_loop [11, 13] (fun t i => ∃ (k : Nat) (q : Int), k ≤ v ∧ i = .int .i64 k ∧ t = .int .i64 q ∧ 0 ≤ q ∧ q ≤ 1048576) (fun _ i => v - (intOf i).toNat)
          case atStart => exact ⟨0, _, Nat.zero_le _, rfl, rfl, by omega, by omega⟩
          case round =>
            obtain ⟨k, q, hk, rfl, rfl, hq0, hq1⟩ := hrel
            by_cases hlt : k < v
            · obtain ⟨sa, sl, sc, hcx⟩ : ∃ sa sl sc, w.cell? _ = some (.slice sa sl sc) := ⟨_, _, _, HVV.out k hlt⟩
              by_cases hl : 1048576 < (sl : Int)
              · go_wp2
                go_ret
                exact BoolEnd.mk _ _
              by_cases hl2 : 1048576 < q + (sl : Int)
              · go_wp2
                go_ret
                exact BoolEnd.mk _ _
              go_wp2
              go_round
              case rel => exact ⟨k + 1, q + (sl : Int), by omega, by go_num, rfl, by omega, by omega⟩
              case measure => simp [intOf]; omega
            · have hge : v ≤ k := by omega
              go_wp2
              all_goals
                go_ret
                exact BoolEnd.mk _ _

set_option maxHeartbeats 1000000 in
theorem zz23 (am : Option Addr) (m mc : Nat) (fm : Nat → ByteArray) (av : Option Addr) (v vc : Nat) (fv : Nat → Sl) (w : World) (rm : Rd w am m (fun i => .string (fm i))) (rv : Rd w av v (fun i => (fv i).val)) :
    Calls Try.prog 23 #[.slice am m mc, .slice av v vc] w (BoolEnd w) := by
  rcases rm.cases with zm | ⟨bm, om, rfl, cm⟩
  · clear rm
    rcases rv.cases with zv | ⟨bv, ov, rfl, cv⟩
    · clear rv
      by_cases hp0 : 1048576 < (m : Int)
      · go_enter Try.func23, Try.ntmps23
        go_wp2
        go_ret
        exact BoolEnd.mk _ _
      go_enter Try.func23, Try.ntmps23
      go_wp2
      go_loop [5, 6] (fun t i => ∃ (k : Nat) (q : Int), k ≤ m ∧ i = .int .i64 k ∧ t = .int .i64 q ∧ 0 ≤ q ∧ q ≤ 1048576) (fun _ i => m - (intOf i).toNat)
      case atStart => exact ⟨0, _, Nat.zero_le _, rfl, rfl, by omega, by omega⟩
      case round =>
        obtain ⟨k, q, hk, rfl, rfl, hq0, hq1⟩ := hrel
        by_cases hlt : k < m
        · exfalso; omega
        · have hge : m ≤ k := by omega
          by_cases hv1 : 1048576 < (v : Int)
          · go_wp2
            go_ret
            exact BoolEnd.mk _ _
          by_cases hv2 : 1048576 < q + (v : Int)
          · go_wp2
            go_ret
            exact BoolEnd.mk _ _
          go_wp2
          go_loop [5, 7] (fun t i => ∃ (k : Nat) (q : Int), k ≤ v ∧ i = .int .i64 k ∧ t = .int .i64 q ∧ 0 ≤ q ∧ q ≤ 1048576) (fun _ i => v - (intOf i).toNat)
          case atStart => exact ⟨0, _, Nat.zero_le _, rfl, rfl, by omega, by omega⟩
          case round =>
            obtain ⟨k, q, hk, rfl, rfl, hq0, hq1⟩ := hrel
            by_cases hlt : k < v
            · exfalso; omega
            · have hge : v ≤ k := by omega
              go_wp2
              all_goals
                go_ret
                exact BoolEnd.mk _ _
    · clear rv
      have HVV : Hid (∀ i, i < v → w.cell? ⟨bv, ov + i, none⟩ = some ((fv i).val)) := cv
      clear cv
      by_cases hp0 : 1048576 < (m : Int)
      · go_enter Try.func23, Try.ntmps23
        go_wp2
        go_ret
        exact BoolEnd.mk _ _
      go_enter Try.func23, Try.ntmps23
      go_wp2
      go_loop [5, 6] (fun t i => ∃ (k : Nat) (q : Int), k ≤ m ∧ i = .int .i64 k ∧ t = .int .i64 q ∧ 0 ≤ q ∧ q ≤ 1048576) (fun _ i => m - (intOf i).toNat)
      case atStart => exact ⟨0, _, Nat.zero_le _, rfl, rfl, by omega, by omega⟩
      case round =>
        obtain ⟨k, q, hk, rfl, rfl, hq0, hq1⟩ := hrel
        by_cases hlt : k < m
        · exfalso; omega
        · have hge : m ≤ k := by omega
          by_cases hv1 : 1048576 < (v : Int)
          · go_wp2
            go_ret
            exact BoolEnd.mk _ _
          by_cases hv2 : 1048576 < q + (v : Int)
          · go_wp2
            go_ret
            exact BoolEnd.mk _ _
          go_wp2
          go_loop [5, 7] (fun t i => ∃ (k : Nat) (q : Int), k ≤ v ∧ i = .int .i64 k ∧ t = .int .i64 q ∧ 0 ≤ q ∧ q ≤ 1048576) (fun _ i => v - (intOf i).toNat)
          case atStart => exact ⟨0, _, Nat.zero_le _, rfl, rfl, by omega, by omega⟩
          case round =>
            obtain ⟨k, q, hk, rfl, rfl, hq0, hq1⟩ := hrel
            by_cases hlt : k < v
            · obtain ⟨sa, sl, sc, hcx⟩ : ∃ sa sl sc, w.cell? _ = some (.slice sa sl sc) := ⟨_, _, _, HVV.out k hlt⟩
              by_cases hl : 1048576 < (sl : Int)
              · go_wp2
                go_ret
                exact BoolEnd.mk _ _
              by_cases hl2 : 1048576 < q + (sl : Int)
              · go_wp2
                go_ret
                exact BoolEnd.mk _ _
              go_wp2
              go_round
              case rel => exact ⟨k + 1, q + (sl : Int), by omega, by go_num, rfl, by omega, by omega⟩
              case measure => simp [intOf]; omega
            · have hge : v ≤ k := by omega
              go_wp2
              all_goals
                go_ret
                exact BoolEnd.mk _ _
  · clear rm
    rcases rv.cases with zv | ⟨bv, ov, rfl, cv⟩
    · clear rv
      have HM : Hid (∀ i, i < m → w.cell? ⟨bm, om + i, none⟩ = some (.string (fm i))) := cm
      clear cm
      by_cases hp0 : 1048576 < (m : Int)
      · go_enter Try.func23, Try.ntmps23
        go_wp2
        go_ret
        exact BoolEnd.mk _ _
      go_enter Try.func23, Try.ntmps23
      go_wp2
      go_loop [5, 6] (fun t i => ∃ (k : Nat) (q : Int), k ≤ m ∧ i = .int .i64 k ∧ t = .int .i64 q ∧ 0 ≤ q ∧ q ≤ 1048576) (fun _ i => m - (intOf i).toNat)
      case atStart => exact ⟨0, _, Nat.zero_le _, rfl, rfl, by omega, by omega⟩
      case round =>
        obtain ⟨k, q, hk, rfl, rfl, hq0, hq1⟩ := hrel
        by_cases hlt : k < m
        · obtain ⟨s, hcx⟩ : ∃ s, w.cell? _ = some (.string s) := ⟨_, HM.out k hlt⟩
          by_cases hl : 1048576 < (s.size : Int)
          · go_wp2
            go_ret
            exact BoolEnd.mk _ _
          by_cases hl2 : 1048576 < q + (s.size : Int)
          · go_wp2
            go_ret
            exact BoolEnd.mk _ _
          go_wp2
          go_round
          case rel => exact ⟨k + 1, q + (s.size : Int), by omega, by go_num, rfl, by omega, by omega⟩
          case measure => simp [intOf]; omega
        · have hge : m ≤ k := by omega
          by_cases hv1 : 1048576 < (v : Int)
          · go_wp2
            go_ret
            exact BoolEnd.mk _ _
          by_cases hv2 : 1048576 < q + (v : Int)
          · go_wp2
            go_ret
            exact BoolEnd.mk _ _
          go_wp2
          go_loop [5, 7] (fun t i => ∃ (k : Nat) (q : Int), k ≤ v ∧ i = .int .i64 k ∧ t = .int .i64 q ∧ 0 ≤ q ∧ q ≤ 1048576) (fun _ i => v - (intOf i).toNat)
          case atStart => exact ⟨0, _, Nat.zero_le _, rfl, rfl, by omega, by omega⟩
          case round =>
            obtain ⟨k, q, hk, rfl, rfl, hq0, hq1⟩ := hrel
            by_cases hlt : k < v
            · exfalso; omega
            · have hge : v ≤ k := by omega
              go_wp2
              all_goals
                go_ret
                exact BoolEnd.mk _ _
    · clear rv
      have HM : Hid (∀ i, i < m → w.cell? ⟨bm, om + i, none⟩ = some (.string (fm i))) := cm
      clear cm
      have HVV : Hid (∀ i, i < v → w.cell? ⟨bv, ov + i, none⟩ = some ((fv i).val)) := cv
      clear cv
      by_cases hp0 : 1048576 < (m : Int)
      · go_enter Try.func23, Try.ntmps23
        go_wp2
        go_ret
        exact BoolEnd.mk _ _
      go_enter Try.func23, Try.ntmps23
      go_wp2
      go_loop [5, 6] (fun t i => ∃ (k : Nat) (q : Int), k ≤ m ∧ i = .int .i64 k ∧ t = .int .i64 q ∧ 0 ≤ q ∧ q ≤ 1048576) (fun _ i => m - (intOf i).toNat)
      case atStart => exact ⟨0, _, Nat.zero_le _, rfl, rfl, by omega, by omega⟩
      case round =>
        obtain ⟨k, q, hk, rfl, rfl, hq0, hq1⟩ := hrel
        by_cases hlt : k < m
        · obtain ⟨s, hcx⟩ : ∃ s, w.cell? _ = some (.string s) := ⟨_, HM.out k hlt⟩
          by_cases hl : 1048576 < (s.size : Int)
          · go_wp2
            go_ret
            exact BoolEnd.mk _ _
          by_cases hl2 : 1048576 < q + (s.size : Int)
          · go_wp2
            go_ret
            exact BoolEnd.mk _ _
          go_wp2
          go_round
          case rel => exact ⟨k + 1, q + (s.size : Int), by omega, by go_num, rfl, by omega, by omega⟩
          case measure => simp [intOf]; omega
        · have hge : m ≤ k := by omega
          by_cases hv1 : 1048576 < (v : Int)
          · go_wp2
            go_ret
            exact BoolEnd.mk _ _
          by_cases hv2 : 1048576 < q + (v : Int)
          · go_wp2
            go_ret
            exact BoolEnd.mk _ _
          go_wp2
          go_loop [5, 7] (fun t i => ∃ (k : Nat) (q : Int), k ≤ v ∧ i = .int .i64 k ∧ t = .int .i64 q ∧ 0 ≤ q ∧ q ≤ 1048576) (fun _ i => v - (intOf i).toNat)
          case atStart => exact ⟨0, _, Nat.zero_le _, rfl, rfl, by omega, by omega⟩
          case round =>
            obtain ⟨k, q, hk, rfl, rfl, hq0, hq1⟩ := hrel
            by_cases hlt : k < v
            · obtain ⟨sa, sl, sc, hcx⟩ : ∃ sa sl sc, w.cell? _ = some (.slice sa sl sc) := ⟨_, _, _, HVV.out k hlt⟩
              by_cases hl : 1048576 < (sl : Int)
              · go_wp2
                go_ret
                exact BoolEnd.mk _ _
              by_cases hl2 : 1048576 < q + (sl : Int)
              · go_wp2
                go_ret
                exact BoolEnd.mk _ _
              go_wp2
              go_round
              case rel => exact ⟨k + 1, q + (sl : Int), by omega, by go_num, rfl, by omega, by omega⟩
              case measure => simp [intOf]; omega
            · have hge : v ≤ k := by omega
              go_wp2
              all_goals
                go_ret
                exact BoolEnd.mk _ _

set_option maxHeartbeats 1000000 in
theorem zz26 (ao : Option Addr) (on oc : Nat) (cp : Int) (ah : Option Addr) (hn hc : Nat) (av : Option Addr) (v vc : Nat) (fv : Nat → Sl) (w : World) (rv : Rd w av v (fun i => (fv i).val)) :
    Calls Try.prog 26 #[.slice ao on oc, .int .u64 cp, .slice ah hn hc, .slice av v vc] w (BoolEnd w) := by
  rcases rv.cases with zv | ⟨bv, ov, rfl, cv⟩
  · clear rv
    by_cases hp0 : 1048576 < (on : Int)
    · go_enter Try.func26, Try.ntmps26
      go_wp2
      go_ret
      exact BoolEnd.mk _ _
    by_cases hp1 : 1048576 < (hn : Int)
    · go_enter Try.func26, Try.ntmps26
      go_wp2
      go_ret
      exact BoolEnd.mk _ _
    by_cases hp2 : 1048576 < (on : Int) + hn
    · go_enter Try.func26, Try.ntmps26
      go_wp2
      go_ret
      exact BoolEnd.mk _ _
    by_cases hp3 : 1048576 < (v : Int)
    · go_enter Try.func26, Try.ntmps26
      go_wp2
      go_ret
      exact BoolEnd.mk _ _
    by_cases hp4 : 1048576 < (on : Int) + hn + v
    · go_enter Try.func26, Try.ntmps26
      go_wp2
      go_ret
      exact BoolEnd.mk _ _
    go_enter Try.func26, Try.ntmps26
    go_wp2
    go_loop [9, 10] (fun t i => ∃ (k : Nat) (q : Int), k ≤ v ∧ i = .int .i64 k ∧ t = .int .i64 q ∧ 0 ≤ q ∧ q ≤ 1048576) (fun _ i => v - (intOf i).toNat)
    case atStart => exact ⟨0, _, Nat.zero_le _, rfl, rfl, by omega, by omega⟩
    case round =>
      obtain ⟨k, q, hk, rfl, rfl, hq0, hq1⟩ := hrel
      by_cases hlt : k < v
      · exfalso; omega
      · have hge : v ≤ k := by omega
        go_wp2
        all_goals
          go_ret
          exact BoolEnd.mk _ _
  · clear rv
    have HVV : Hid (∀ i, i < v → w.cell? ⟨bv, ov + i, none⟩ = some ((fv i).val)) := cv
    clear cv
    by_cases hp0 : 1048576 < (on : Int)
    · go_enter Try.func26, Try.ntmps26
      go_wp2
      go_ret
      exact BoolEnd.mk _ _
    by_cases hp1 : 1048576 < (hn : Int)
    · go_enter Try.func26, Try.ntmps26
      go_wp2
      go_ret
      exact BoolEnd.mk _ _
    by_cases hp2 : 1048576 < (on : Int) + hn
    · go_enter Try.func26, Try.ntmps26
      go_wp2
      go_ret
      exact BoolEnd.mk _ _
    by_cases hp3 : 1048576 < (v : Int)
    · go_enter Try.func26, Try.ntmps26
      go_wp2
      go_ret
      exact BoolEnd.mk _ _
    by_cases hp4 : 1048576 < (on : Int) + hn + v
    · go_enter Try.func26, Try.ntmps26
      go_wp2
      go_ret
      exact BoolEnd.mk _ _
    go_enter Try.func26, Try.ntmps26
    go_wp2
    go_loop [9, 10] (fun t i => ∃ (k : Nat) (q : Int), k ≤ v ∧ i = .int .i64 k ∧ t = .int .i64 q ∧ 0 ≤ q ∧ q ≤ 1048576) (fun _ i => v - (intOf i).toNat)
    case atStart => exact ⟨0, _, Nat.zero_le _, rfl, rfl, by omega, by omega⟩
    case round =>
      obtain ⟨k, q, hk, rfl, rfl, hq0, hq1⟩ := hrel
      by_cases hlt : k < v
      · obtain ⟨sa, sl, sc, hcx⟩ : ∃ sa sl sc, w.cell? _ = some (.slice sa sl sc) := ⟨_, _, _, HVV.out k hlt⟩
        by_cases hl : 1048576 < (sl : Int)
        · go_wp2
          go_ret
          exact BoolEnd.mk _ _
        by_cases hl2 : 1048576 < q + (sl : Int)
        · go_wp2
          go_ret
          exact BoolEnd.mk _ _
        go_wp2
        go_round
        case rel => exact ⟨k + 1, q + (sl : Int), by omega, by go_num, rfl, by omega, by omega⟩
        case measure => simp [intOf]; omega
      · have hge : v ≤ k := by omega
        go_wp2
        all_goals
          go_ret
          exact BoolEnd.mk _ _
end Go.Proofs.Qxb6602653a
