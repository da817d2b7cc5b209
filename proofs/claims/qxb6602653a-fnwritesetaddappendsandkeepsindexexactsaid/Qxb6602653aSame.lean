/-
  The walk of lawSameBytes (function 22) at two slices that hold the same bytes and are both nil or both not.
-/
import Derived.Test.Qxb6602653aBase
namespace Go.Proofs.Qxb6602653a
open Go.RowKit

theorem same_nil (n c m d : Nat) (w : World) (hn : n ≤ 0) (hm : m ≤ 0) : Calls Try.prog 22 #[.slice none n c, .slice none m d] w fun e w' => e = .returned (.bool true) ∧ ∃ k, w' = w.drewN k := by
  have q := eqlNil Try.underlying37
  go_enter Try.func22, Try.ntmps22
  go_wp2
  go_loop [5] (fun i => i = .int .i64 0) (fun _ => 0)
  case atStart => rfl
  case round =>
    subst hrel
    go_wp2
    go_ret
    exact ⟨rfl, 0, rfl⟩

theorem same_empty (a b : Addr) (n c d : Nat) (w : World) (hn : n ≤ 0) : Calls Try.prog 22 #[.slice (some a) n c, .slice (some b) n d] w fun e w' => e = .returned (.bool true) ∧ ∃ k, w' = w.drewN k := by
  have q := eqlNil Try.underlying37
  go_enter Try.func22, Try.ntmps22
  go_wp2
  go_loop [5] (fun i => i = .int .i64 0) (fun _ => 0)
  case atStart => rfl
  case round =>
    subst hrel
    go_wp2
    go_ret
    exact ⟨rfl, 0, rfl⟩

theorem same_full (b o b' o' n c d : Nat) (f : Nat → Int) (w : World) (hn : n ≤ 1048576) (h1 : ∀ i, i < n → w.cell? ⟨b, o + i, none⟩ = some (.int .u8 (f i))) (h2 : ∀ i, i < n → w.cell? ⟨b', o' + i, none⟩ = some (.int .u8 (f i))) :
    Calls Try.prog 22 #[.slice (some ⟨b, o, none⟩) n c, .slice (some ⟨b', o', none⟩) n d] w fun e w' => e = .returned (.bool true) ∧ ∃ k, w' = w.drewN k := by
  have q := eqlNil Try.underlying37
  have H1 : Hid (∀ i, i < n → w.cell? ⟨b, o + i, none⟩ = some (.int .u8 (f i))) := h1
  have H2 : Hid (∀ i, i < n → w.cell? ⟨b', o' + i, none⟩ = some (.int .u8 (f i))) := h2
  clear h1 h2
  go_enter Try.func22, Try.ntmps22
  go_wp2
  go_loopw [5] (fun i wr => ∃ k : Nat, k ≤ n ∧ i = .int .i64 k ∧ ∃ m, wr = w.drewN m) (fun i _ => n - (intOf i).toNat)
  case atStart => exact ⟨0, Nat.zero_le _, rfl, 0, rfl⟩
  case round =>
    obtain ⟨k, hk, rfl, m, rfl⟩ := hrel
    by_cases hlt : k < n
    · have c1 := H1.out k hlt
      have c2 := H2.out k hlt
      go_wp2
      go_quiet (fail)
      go_wp2
      go_roundw
      case rel => exact ⟨k + 1, by omega, by go_num, _, rfl⟩
      case measure => simp [intOf]; omega
    · go_wp2
      go_ret
      exact ⟨rfl, _, rfl⟩

theorem same_any (a b : Option Addr) (n c d : Nat) (f : Nat → Int) (w : World) (hnil : a = none ↔ b = none) (hn : n ≤ 1048576) (h1 : Rd w a n (fun i => .int .u8 (f i))) (h2 : Rd w b n (fun i => .int .u8 (f i))) :
    Calls Try.prog 22 #[.slice a n c, .slice b n d] w fun e w' => e = .returned (.bool true) ∧ ∃ k, w' = w.drewN k := by
  by_cases h0 : 0 < n
  · obtain ⟨b1, o1, rfl, _, c1⟩ := h1.at h0
    obtain ⟨b2, o2, rfl, _, c2⟩ := h2.at h0
    exact same_full b1 o1 b2 o2 n c d f w hn c1 c2
  · cases a with
    | none =>
      obtain rfl := hnil.1 rfl
      exact same_nil n c n d w (by omega) (by omega)
    | some a =>
      cases b with
      | none => exact absurd (hnil.2 rfl) (by simp)
      | some b => exact same_empty a b n c d w (by omega)
end Go.Proofs.Qxb6602653a
