/-
  The write set: its maps as data, and how it lies in memory. No Go function is walked here.
-/
import Derived.Test.Qxb6602653aLastParts
import Derived.Maps.OwnSet
namespace Go.Proofs.Qxb6602653a
open Go.RowKit Go.Maps
set_option linter.unusedVariables false

/-! ### maps keyed by strings, as data -/
/-- What a string reads as, as a key. -/
def kl (s : ByteArray) : Lit := .string s.data.toList
theorem kl_inj {a b : ByteArray} (h : kl a = kl b) : a = b := by
  unfold kl at h
  cases a; cases b
  simp at h
  rw [h]
theorem kl_key (s : ByteArray) : WideAt.IsKeyLit (kl s) := trivial
theorem law9 : Keyed Try.prog 9 := string_keyed Try.underlying9
theorem key9 {s : ByteArray} (h : s.size ≤ maxLen) : keyOf Try.prog 9 (.string s) = some (kl s) := WideMaps.keyOf_string_mk Try.underlying9 h
theorem zero3 (w : World) : (zeroValue 3).run Try.prog w = .ok (.int .i64 0) w := by kernel_rfl
theorem zero4 (w : World) : (zeroValue 4).run Try.prog w = .ok (.bool false) w := by kernel_rfl
theorem makeMap_hint {t k e : TypeId} (h : Try.prog.underlying t = some (.map k e)) (n : Int) (w : World) : (Instr.makeMap t (some (.int .i64 n))).run Try.prog w = .ok (.map (some w.heap.size)) (w.alloc (.map #[] 0)) := by
  simp [Instr.makeMap, run_underlying h, asInt, asIntOf, Result.andThen]

/-- The index of the first k keys. -/
def Dk (kf : Nat → ByteArray) : Nat → DataW Unit
  | 0 => .map []
  | k + 1 => (Dk kf k).put (kl (kf k)) (.lit (.int .i64 (k : Int)))
/-- The set of the first k keys. -/
def Sk (kf : Nat → ByteArray) : Nat → DataW Unit
  | 0 => .map []
  | k + 1 => (Sk kf k).put (kl (kf k)) (.lit (.bool true))

theorem Dk_isMap (kf : Nat → ByteArray) : ∀ k, IsMap (Dk kf k)
  | 0 => isMap_empty
  | k + 1 => (Dk_isMap kf k).put _ _
theorem Sk_isMap (kf : Nat → ByteArray) : ∀ k, IsMap (Sk kf k)
  | 0 => isMap_empty
  | k + 1 => (Sk_isMap kf k).put _ _

/-- No two of the first k keys are one. -/
def Apart (kf : Nat → ByteArray) (k : Nat) : Prop := ∀ i j, i < k → j < k → kf i = kf j → i = j

theorem Dk_has (kf : Nat → ByteArray) (x : ByteArray) : ∀ k, Maps.has (Dk kf k) (kl x) = true ↔ ∃ i, i < k ∧ kf i = x
  | 0 => by simp [Dk, Maps.has]
  | k + 1 => by
    unfold Dk
    by_cases e : kf k = x
    · rw [e, has_put_same (Dk_isMap kf k) (kl_key x)]
      exact ⟨fun _ => ⟨k, by omega, e⟩, fun _ => rfl⟩
    · rw [has_put_other (fun h => e (kl_inj h).symm), Dk_has kf x k]
      constructor
      · rintro ⟨i, hi, h⟩; exact ⟨i, by omega, h⟩
      · rintro ⟨i, hi, h⟩
        refine ⟨i, ?_, h⟩
        rcases Nat.lt_or_eq_of_le (Nat.le_of_lt_succ hi) with q | q
        · exact q
        · subst q; exact absurd h e

theorem Dk_at (kf : Nat → ByteArray) : ∀ k, Apart kf k → ∀ i, i < k → (Dk kf k).atKey (kl (kf i)) (.lit (.int .i64 0)) = .lit (.int .i64 (i : Int))
  | 0, _, i, hi => by omega
  | k + 1, ha, i, hi => by
    unfold Dk
    by_cases e : i = k
    · subst e
      rw [atKey_put_same (Dk_isMap kf i) (kl_key _)]
    · rw [atKey_put_other (fun h => e (ha i k hi (by omega) (kl_inj h)))]
      exact Dk_at kf k (fun a b ha' hb' h => ha a b (by omega) (by omega) h) i (by omega)

theorem Sk_at (kf : Nat → ByteArray) (x : ByteArray) : ∀ k, ∃ c : Bool, (Sk kf k).atKey (kl x) (.lit (.bool false)) = .lit (.bool c) ∧ (c = true ↔ ∃ i, i < k ∧ kf i = x)
  | 0 => ⟨false, rfl, by simp⟩
  | k + 1 => by
    unfold Sk
    by_cases e : kf k = x
    · refine ⟨true, ?_, ⟨fun _ => ⟨k, by omega, e⟩, fun _ => rfl⟩⟩
      rw [e, atKey_put_same (Sk_isMap kf k) (kl_key x)]
    · obtain ⟨c, h1, h2⟩ := Sk_at kf x k
      refine ⟨c, ?_, h2.trans ⟨?_, ?_⟩⟩
      · rw [atKey_put_other (fun h => e (kl_inj h).symm)]; exact h1
      · rintro ⟨i, hi, h⟩; exact ⟨i, by omega, h⟩
      · rintro ⟨i, hi, h⟩
        refine ⟨i, ?_, h⟩
        rcases Nat.lt_or_eq_of_le (Nat.le_of_lt_succ hi) with q | q
        · exact q
        · subst q; exact absurd h e

/-! ### in memory -/
/-- Block b is the index of the first k keys. -/
def IdxAt (w : World) (b : Nat) (kf : Nat → ByteArray) (k : Nat) : Prop := w.ownsMap Try.prog 9 (plainElem Try.prog 3) b k (Dk kf k)
/-- Block b is the set of the first k keys. -/
def SeenAt (w : World) (b : Nat) (kf : Nat → ByteArray) (k : Nat) : Prop := w.ownsMap Try.prog 9 (plainElem Try.prog 4) b k (Sk kf k)

theorem IdxAt.size {w : World} {b : Nat} {kf : Nat → ByteArray} : ∀ {k : Nat}, IdxAt w b kf k → Apart kf k → Maps.size (Dk kf k) = k := by
  intro k h ha
  have key : ∀ j, j ≤ k → Tidy (Dk kf j) ∧ Maps.size (Dk kf j) = j := by
    intro j
    induction j with
    | zero => intro _; exact ⟨tidy_empty, rfl⟩
    | succ j ih =>
      intro hj
      obtain ⟨h1, h2⟩ := ih (by omega)
      have hno : Maps.has (Dk kf j) (kl (kf j)) = false := by
        cases hh : Maps.has (Dk kf j) (kl (kf j)) with
        | false => rfl
        | true =>
          obtain ⟨i, hi, he⟩ := (Dk_has kf (kf j) j).1 hh
          have := ha i j (by omega) (by omega) he
          omega
      refine ⟨?_, ?_⟩
      · unfold Dk
        exact h1.put (kl_key _) _
      · unfold Dk
        rw [size_put h1, hno]
        simp [h2]
  exact (key k (Nat.le_refl _)).2

theorem IdxAt.of_block {w w' : World} {b : Nat} {kf : Nat → ByteArray} {k : Nat} (h : IdxAt w b kf k) (e : w'.heap[b]? = w.heap[b]?) : IdxAt w' b kf k := by
  obtain ⟨es, clock, hb, r⟩ := h
  exact ⟨es, clock, e.trans hb, r⟩
theorem SeenAt.of_block {w w' : World} {b : Nat} {kf : Nat → ByteArray} {k : Nat} (h : SeenAt w b kf k) (e : w'.heap[b]? = w.heap[b]?) : SeenAt w' b kf k := by
  obtain ⟨es, clock, hb, r⟩ := h
  exact ⟨es, clock, e.trans hb, r⟩

/-- 'seen[x]'. -/
theorem SeenAt.look {w : World} {b : Nat} {kf : Nat → ByteArray} {k : Nat} (h : SeenAt w b kf k) {x : ByteArray} (hx : x.size ≤ maxLen) : ∃ c : Bool, (Instr.lookup 39 (.map (some b)) (.string x) false).run Try.prog w = .ok (.bool c) w ∧ (c = true ↔ ∃ i, i < k ∧ kf i = x) := by
  obtain ⟨v, ps, hrun, hv⟩ := World.ownsMap.lookup h law9 Try.underlying39 (zero4 w) (plainElem_bool Try.underlying4 false) (key9 hx)
  obtain ⟨c, h1, h2⟩ := Sk_at kf x k
  rw [h1] at hv
  refine ⟨c, ?_, h2⟩
  have : v = .bool c := by
    unfold plainElem at hv
    rw [Try.underlying4] at hv
    cases v <;> simp at hv
    rw [hv.1]
  rw [← this]
  exact hrun
/-- 'seen[x] = true'. -/
theorem SeenAt.store {w : World} {b : Nat} {kf : Nat → ByteArray} {k : Nat} (h : SeenAt w b kf k) (hx : (kf k).size ≤ maxLen) (hk : k < maxLen) : ∃ w', (Instr.mapUpdate 39 (.map (some b)) (.string (kf k)) (.bool true)).run Try.prog w = .ok () w' ∧ SeenAt w' b kf (k + 1) ∧ w.grownBy w' (some b) :=
  World.ownsMap.update h law9 Try.underlying39 hk (key9 hx) (plainElem_bool Try.underlying4 true)
theorem wf_small (k : Nat) (h : k ≤ 1048576) : (Lit.int .i64 (k : Int)).wf = true := WalkArith.wf_i64 (by omega)
/-- 'index[x] = k'. -/
theorem IdxAt.store {w : World} {b : Nat} {kf : Nat → ByteArray} {k : Nat} (h : IdxAt w b kf k) (hx : (kf k).size ≤ maxLen) (hk : k ≤ 1048576) : ∃ w', (Instr.mapUpdate 41 (.map (some b)) (.string (kf k)) (.int .i64 (k : Int))).run Try.prog w = .ok () w' ∧ IdxAt w' b kf (k + 1) ∧ w.grownBy w' (some b) :=
  World.ownsMap.update h law9 Try.underlying41 (by unfold maxLen; omega) (key9 hx) (plainElem_int Try.underlying3 (wf_small k hk))
/-- 'j, held := index[x]'. -/
theorem IdxAt.look {w : World} {b : Nat} {kf : Nat → ByteArray} {k : Nat} (h : IdxAt w b kf k) (ha : Apart kf k) {i : Nat} (hi : i < k) (hx : (kf i).size ≤ maxLen) : (Instr.lookup 41 (.map (some b)) (.string (kf i)) true).run Try.prog w = .ok (.tuple #[.int .i64 (i : Int), .bool true]) w := by
  obtain ⟨v, ps, hrun, hv⟩ := World.ownsMap.look_ok h law9 Try.underlying41 (zero3 w) (plainElem_int Try.underlying3 (by decide)) (key9 hx)
  rw [Dk_at kf k ha i hi] at hv
  obtain ⟨c, rfl, hc, _⟩ := plainElem_int_inv Try.underlying3 hv
  have hh : Maps.has (Dk kf k) (kl (kf i)) = true := (Dk_has kf (kf i) k).2 ⟨i, hi, rfl⟩
  rw [hh] at hrun
  simp only [Prod.mk.injEq, DataW.lit.injEq, Lit.int.injEq, true_and] at hc
  rw [hrun, hc.1]
/-- 'len(index)'. -/
theorem IdxAt.len {w : World} {b : Nat} {kf : Nat → ByteArray} {k : Nat} (h : IdxAt w b kf k) (ha : Apart kf k) (ty : TypeId) : (Builtin.len_ #[41] ty #[.map (some b)]).run Try.prog w = .ok (.int .i64 (k : Int)) w := by
  have := World.ownsMap.len h Try.underlying41 ty
  rwa [h.size ha] at this
end Go.Proofs.Qxb6602653a
