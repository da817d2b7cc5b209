/-
  The arguments of this seat's laws, opened into what the walks ask: []byte, []uint64, []string, [][]byte.
-/
import Derived.Test.Qxb6602653aFit
import Derived.OpenShut
import Derived.ShutString
import Derived.ChangeOld
import Derived.SliceStrings
import Derived.Deep.Slices
namespace Go.Proofs.Qxb6602653a
open Go.ChangeShapes Go.WideShapes Go.ChangeAt Go.RowKit
open Go.ChangeMaps (open_string shut_string)

section
variable {H : Type} {enc : TypeId × Value → H} {W : World} {base : Nat} {held : Bool} {a : Option Addr} {n c : Nat} {d : DataW H} {p : List MemPlace}

theorem open_words (h : DataW.Trod enc Try.prog W base (fun _ => true) held 24 (.slice a n c) d p) :
    ∃ f : Nat → Nat, Rd W a n (fun i => .int .u64 (f i : Int)) ∧ (∀ i, i < n → f i < 18446744073709551616) ∧ n ≤ maxLen := by
  obtain ⟨fuel, hf⟩ := h
  rcases open_ints Try.underlying24 Try.underlying25 (by kernel_rfl) hf with ⟨hcs, _⟩ | ⟨x, l, c', zs, hcs, _, hl, hm, hz, _, hcell, hwz⟩
  · simp [Value.cells] at hcs
    obtain ⟨rfl, rfl, rfl⟩ := hcs
    exact ⟨fun _ => 0, fun i hi => by omega, fun i hi => by omega, by unfold maxLen; omega⟩
  · simp [Value.cells] at hcs
    obtain ⟨rfl, rfl, rfl⟩ := hcs
    simp only [if_true] at hz
    have hw : ∀ i, i < n → 0 ≤ zs.getD i 0 ∧ zs.getD i 0 ≤ 18446744073709551615 := fun i hi => by
      have hi' : i < zs.length := by omega
      have := bounds_u64 (hwz zs[i] (List.getElem_mem hi'))
      simpa [List.getD, hi'] using this
    refine ⟨fun i => (zs.getD i 0).toNat, fun i hi => ⟨x, rfl, ?_⟩, fun i hi => ?_, by omega⟩
    · rw [hcell i (by omega)]; simp only [Int.toNat_of_nonneg (hw i hi).1]
    · have := hw i hi
      show (zs.getD i 0).toNat < _
      omega

theorem open_strs (h : DataW.Trod enc Try.prog W base (fun _ => true) held 22 (.slice a n c) d p) :
    ∃ f : Nat → ByteArray, Rd W a n (fun i => .string (f i)) ∧ (∀ i, i < n → (f i).size ≤ maxLen) ∧ n ≤ maxLen := by
  obtain ⟨fuel, hf⟩ := h
  rcases open_strings Try.underlying22 Try.underlying9 (by kernel_rfl) hf with ⟨hcs, _⟩ | ⟨x, l, c', ss, hcs, _, hl, hm, hz, _, hcell, hwz⟩
  · simp [Value.cells] at hcs
    obtain ⟨rfl, rfl, rfl⟩ := hcs
    exact ⟨fun _ => ByteArray.empty, fun i hi => by omega, fun i hi => by omega, by unfold maxLen; omega⟩
  · simp [Value.cells] at hcs
    obtain ⟨rfl, rfl, rfl⟩ := hcs
    simp only [if_true] at hz
    refine ⟨fun i => ss.getD i ByteArray.empty, fun i hi => ⟨x, rfl, hcell i (by omega)⟩, fun i hi => ?_, by omega⟩
    have hi' : i < ss.length := by omega
    have := hwz ss[i] (List.getElem_mem hi')
    simpa [List.getD, hi'] using this

theorem open_byt (h : DataW.Trod enc Try.prog W base (fun _ => true) held 37 (.slice a n c) d p) :
    ∃ f : Nat → Int, Rd W a n (fun i => .int .u8 (f i)) ∧ (∀ i, i < n → 0 ≤ f i ∧ f i < 256) ∧ n ≤ maxLen := by
  obtain ⟨fuel, hf⟩ := h
  rcases open_ints Try.underlying37 Try.underlying5 (by kernel_rfl) hf with ⟨hcs, _⟩ | ⟨x, l, c', zs, hcs, _, hl, hm, hz, _, hcell, hwz⟩
  · simp [Value.cells] at hcs
    obtain ⟨rfl, rfl, rfl⟩ := hcs
    exact ⟨fun _ => 0, fun i hi => by omega, fun i hi => by omega, by unfold maxLen; omega⟩
  · simp [Value.cells] at hcs
    obtain ⟨rfl, rfl, rfl⟩ := hcs
    simp only [if_true] at hz
    refine ⟨fun i => zs.getD i 0, fun i hi => ⟨x, rfl, hcell i (by omega)⟩, fun i hi => ?_, by omega⟩
    have hi' : i < zs.length := by omega
    have := bounds_u8 (hwz zs[i] (List.getElem_mem hi'))
    have e : zs.getD i 0 = zs[i] := by simp [List.getD, hi']
    show 0 ≤ zs.getD i 0 ∧ zs.getD i 0 < 256
    rw [e]; omega

theorem open_byts (h : DataW.Trod enc Try.prog W base (fun _ => true) held 23 (.slice a n c) d p) :
    ∃ (f : Nat → Sl) (g : Nat → Nat → Int), Rd W a n (fun i => (f i).val) ∧ (∀ i, i < n → Rd W (f i).ad (f i).len (fun j => .int .u8 (g i j)) ∧ (∀ j, j < (f i).len → 0 ≤ g i j ∧ g i j < 256)) ∧ n ≤ maxLen := by
  obtain ⟨fuel, hf⟩ := h
  rcases Go.Deep.open_slice1 Try.underlying23 (by kernel_rfl) hf with ⟨hcs, _⟩ | ⟨x, l, c', m, k, V, D, Pl, hcs, _, hl, hm, hmm, _, hV⟩
  · simp [Value.cells] at hcs
    obtain ⟨rfl, rfl, rfl⟩ := hcs
    exact ⟨fun _ => ⟨none, 0, 0⟩, fun _ _ => 0, fun i hi => by omega, fun i hi => by omega, by unfold maxLen; omega⟩
  · simp [Value.cells] at hcs
    obtain ⟨rfl, rfl, rfl⟩ := hcs
    simp only [if_true] at hmm
    have one : ∀ i, i < n → ∃ s : Sl × (Nat → Int), V i = s.1.val ∧ Rd W s.1.ad s.1.len (fun j => .int .u8 (s.2 j)) ∧ ∀ j, j < s.1.len → 0 ≤ s.2 j ∧ s.2 j < 256 := by
      intro i hi
      obtain ⟨hc, ht⟩ := hV i (by omega)
      rcases open_ints Try.underlying37 Try.underlying5 (by kernel_rfl) ht with ⟨h1, _⟩ | ⟨y, l', c'', zs, h1, _⟩
      · have hv : V i = .slice none 0 0 := by simpa using h1
        exact ⟨(⟨none, 0, 0⟩, fun _ => 0), hv, fun j hj => absurd hj (Nat.not_lt_zero _), fun j hj => absurd hj (Nat.not_lt_zero _)⟩
      · have hv : V i = .slice (some y) l' c'' := by simpa using h1
        rw [hv] at ht
        have ht' : DataW.Trod enc Try.prog W base (fun _ => true) held 37 (.slice (some y) l' c'') (D i) (Pl i) := ⟨k, by simpa [Value.cells] using ht⟩
        obtain ⟨f, h2, h3, _⟩ := open_byt ht'
        exact ⟨(⟨some y, l', c''⟩, f), hv, h2, h3⟩
    have ⟨s, hs⟩ : ∃ s : Nat → Sl × (Nat → Int), ∀ i, i < n → V i = (s i).1.val ∧ Rd W (s i).1.ad (s i).1.len (fun j => .int .u8 ((s i).2 j)) ∧ ∀ j, j < (s i).1.len → 0 ≤ (s i).2 j ∧ (s i).2 j < 256 := by
      classical
      refine ⟨fun i => if hi : i < n then Classical.choose (one i hi) else (⟨none, 0, 0⟩, fun _ => 0), fun i hi => ?_⟩
      simp only [dif_pos hi]
      exact Classical.choose_spec (one i hi)
    refine ⟨fun i => (s i).1, fun i => (s i).2, fun i hi => ⟨x, rfl, ?_⟩, fun i hi => (hs i hi).2, by omega⟩
    rw [(hV i (by omega)).1, (hs i hi).1]
end
end Go.Proofs.Qxb6602653a
