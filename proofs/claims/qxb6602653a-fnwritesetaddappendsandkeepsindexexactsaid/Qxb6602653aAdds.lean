/-
  The walk of FnWriteSetAddsFromEmptyKeepOrderAndIndex (function 6), out of its callees' contracts.
-/
import Derived.Test.Qxb6602653aWsOf
import Derived.Test.Qxb6602653aNearest
namespace Go.Proofs.Qxb6602653a
open Go.RowKit Go.Maps
set_option linter.unusedVariables false

theorem Apart.next {kf : Nat → ByteArray} {k : Nat} (h : Apart kf k) (hn : ¬ ∃ i, i < k ∧ kf i = kf k) : Apart kf (k + 1) := by
  intro i j hi hj e
  by_cases h1 : i = k
  · subst h1
    by_cases h2 : j = i
    · exact h2.symm
    · exact absurd ⟨j, by omega, e.symm⟩ hn
  · by_cases h2 : j = k
    · subst h2; exact absurd ⟨i, by omega, e⟩ hn
    · exact h i j (by omega) (by omega) e

theorem SeenAt.made (w : World) (kf : Nat → ByteArray) : SeenAt (w.alloc (.map #[] 0)) w.heap.size kf 0 := World.ownsMap_made (H := Unit) w Try.prog 9 (plainElem Try.prog 4)
theorem IdxAt.made (w : World) (kf : Nat → ByteArray) : IdxAt (w.alloc (.map #[] 0)) w.heap.size kf 0 := World.ownsMap_made (H := Unit) w Try.prog 9 (plainElem Try.prog 3)

/-- The index as a block. -/
theorem IdxAt.block {w : World} {b : Nat} {kf : Nat → ByteArray} {k : Nat} (h : IdxAt w b kf k) (ha : Apart kf k) : ∃ es clock, w.heap[b]? = some (.map es clock) ∧ es.size = k := by
  have hs := h.size ha
  obtain ⟨es, clock, hb, _, _, hD⟩ := h
  refine ⟨es, clock, hb, ?_⟩
  rw [hD] at hs
  simpa [Maps.size, length_sorted] using hs

theorem Rd.alike {w w' : World} {a : Option Addr} {n : Nat} {f : Nat → Value} (h : Rd w a n f) (ha : w'.Alike w) : Rd w' a n f := fun i hi => by
  obtain ⟨x, hx, hc⟩ := h i hi
  exact ⟨x, hx, (ha.cell _).trans hc⟩
/-- The write set stays while new blocks are made. -/
theorem WS.later {B : Nat} {kf : Nat → ByteArray} {vv : Nat → Sl} {w w' : World} {P n : Nat} {idx : Option Nat} (h : WS B kf vv w P n idx) (hb : Below w.heap.size w w') : WS B kf vv w' P n idx := by
  obtain ⟨⟨sa, sc, q1⟩, q2⟩ := h
  have hg : w.grownBy w' none := ⟨hb.os, hb.tape, hb.output, hb.size, fun k hk _ => hb.block k hk⟩
  refine ⟨⟨sa, sc, q1.kept hg (by simp) ?_⟩, fun b hb' => ⟨(q2 b hb').1, ?_⟩⟩
  · cases h : (Value.slice sa n sc).ownBlock <;> simp
  · have h3 := (q2 b hb').2
    obtain ⟨es, clock, hx, _⟩ := h3
    exact (q2 b hb').2.of_block (hb.block b (Array.getElem?_eq_some_iff.1 hx).1)
theorem WS.drewN {B : Nat} {kf : Nat → ByteArray} {vv : Nat → Sl} {w : World} {P n : Nat} {idx : Option Nat} (h : WS B kf vv w P n idx) (m : Nat) : WS B kf vv (w.drewN m) P n idx := h.later ⟨rfl, rfl, rfl, Nat.le_refl _, fun _ _ => rfl⟩

set_option maxHeartbeats 4000000 in
set_option maxRecDepth 100000 in
theorem adds_main (kb ko m kc vb vo vc : Nat) (kf : Nat → ByteArray) (vf : Nat → Sl) (bf : Nat → Nat → Int) (w : World)
    (hm0 : 0 < m) (h1 : ¬ 4096 < (m : Int)) (hkb : kb < w.heap.size)
    (rk : ∀ i, i < m → w.cell? ⟨kb, ko + i, none⟩ = some (.string (kf i))) (ks : ∀ i, i < m → (kf i).size ≤ maxLen)
    (rv : Rd w (some ⟨vb, vo, none⟩) m (fun i => (vf i).val)) (rb : ∀ i, i < m → Rd w (vf i).ad (vf i).len (fun j => .int .u8 (bf i j))) :
    Calls Try.prog 6 #[.slice (some ⟨kb, ko, none⟩) m kc, .slice (some ⟨vb, vo, none⟩) m vc] w (TrueEnd w) := by
  have RK : Hid (∀ i, i < m → w.cell? ⟨kb, ko + i, none⟩ = some (.string (kf i))) := rk
  have KS : Hid (∀ i, i < m → (kf i).size ≤ maxLen) := ks
  have RV : Hid (Rd w (some ⟨vb, vo, none⟩) m (fun i => (vf i).val)) := rv
  have RB : Hid (∀ i, i < m → Rd w (vf i).ad (vf i).len (fun j => .int .u8 (bf i j))) := rb
  clear rk ks rv rb
  have hmm := fun (x : Int) (w : World) => makeMap_hint Try.underlying39 x w
  have qm := neqNilMap
  go_enter Try.func6, Try.ntmps6
  go_wp2_with fail
  refine (zz23 _ m kc kf _ m vc vf _ (Rd.mk RK.out) RV.out).mono ?_
  rintro e w0 ⟨b, rfl, rfl⟩
  cases b
  · go_wp2_with fail
    go_ret
    exact ⟨rfl, Below.refl _ _⟩
  go_wp2_with fail
  refine (strFit _ _ m kc kf _ (by omega) (by omega) (by unfold maxLen; omega) (Rd.mk RK.out)).mono ?_
  rintro e w0 ⟨t, b, rfl, rfl, ht0, ht1, -⟩
  cases b
  · go_wp2_with fail
    go_ret
    exact ⟨rfl, Below.refl _ _⟩
  go_wp2_with fail
  refine (bytFit _ _ m vc vf _ ht0 ht1 (by unfold maxLen; omega) RV.out).mono ?_
  rintro e w0 ⟨t2, b, rfl, rfl, ht20, ht21, hlen⟩
  cases b
  · go_wp2_with fail
    go_ret
    exact ⟨rfl, Below.refl _ _⟩
  have LEN : Hid (∀ i, i < m → (vf i).len ≤ 1048576) := hlen rfl
  clear hlen
  go_wp2_with fail
  go_loopw [8] (fun i wr => ∃ k : Nat, k ≤ m ∧ i = .int .i64 k ∧ Hid (SeenAt wr w0.heap.size kf k) ∧ Hid (Apart kf k) ∧ Hid (Below w0.heap.size w0 wr)) (fun i _ => m - (intOf i).toNat)
  case atStart => exact ⟨0, Nat.zero_le _, rfl, SeenAt.made _ _, fun i j hi => absurd hi (Nat.not_lt_zero _), (Below.refl _ _).alloc (Nat.le_refl _) _⟩
  case round =>
    obtain ⟨k, hk, rfl, HS, HA, HB⟩ := hrel
    by_cases hlt : k < m
    · have c1 : wr.cell? ⟨kb, ko + k, none⟩ = some (.string (kf k)) := (HB.out.cell (p := ⟨kb, ko + k, none⟩) hkb).trans (RK.out k hlt)
      obtain ⟨c, hlook, hc⟩ := HS.out.look (KS.out k hlt)
      obtain ⟨w2, hup, hs2, hg2⟩ := HS.out.store (KS.out k hlt) (by unfold maxLen; omega)
      cases c
      · have NX : Hid (Apart kf (k + 1)) := HA.out.next (fun q => by have := hc.2 q; cases this)
        have HS2 : Hid (SeenAt w2 w0.heap.size kf (k + 1)) := hs2
        have HB2 : Hid (Below w0.heap.size w0 w2) := HB.out.grown hg2 HB.out.size (fun j hj => by cases hj; exact Nat.le_refl _)
        clear hc hs2 hg2 HS HA HB
        go_wp2_with fail
        go_roundw
        case rel => exact ⟨k + 1, by omega, by go_num, HS2, NX, HB2⟩
        case measure => simp [intOf]; omega
      · clear hc hs2 hg2 hup
        go_wp2_with fail
        go_ret
        exact ⟨rfl, HB.out⟩
    · have AP : Hid (Apart kf m) := by have := HA.out; rwa [show k = m by omega] at this
      have RKR : Hid (Rd wr (some ⟨kb, ko, none⟩) m (fun i => .string (kf i))) := (Rd.mk RK.out).later HB.out
      have RVR : Hid (Rd wr (some ⟨vb, vo, none⟩) m (fun i => (vf i).val)) := RV.out.later HB.out
      have RBR : Hid (∀ i, i < m → Rd wr (vf i).ad (vf i).len (fun j => .int .u8 (bf i j))) := fun i hi => (RB.out i hi).later HB.out
      clear HS HA RK RV RB
      go_wp2_with fail
      refine (cloneS_g _ m kc kf _ (by omega) RKR.out).mono ?_
      rintro e w2 ⟨gk, rfl, le2, r2, b2⟩
      have lt2 := r2.lt
      have RK2 : Hid (w2.rowIs gk 9 m (fun j => .string (kf j))) := r2
      have B2 : Hid (Below w0.heap.size w0 w2) := HB.out.trans (b2.mono HB.out.size)
      have RV2 : Hid (Rd w2 (some ⟨vb, vo, none⟩) m (fun i => (vf i).val)) := RVR.out.later b2
      have RB2 : Hid (∀ i, i < m → Rd w2 (vf i).ad (vf i).len (fun j => .int .u8 (bf i j))) := fun i hi => (RBR.out i hi).later b2
      clear r2 b2 RKR RVR RBR HB
      go_wp2_with fail
      refine (cloneA_g _ m vc vf bf _ (by omega) RV2.out LEN.out RB2.out).mono ?_
      rintro e w3 ⟨gV, rfl, le3, b3, v, rv3, rb3⟩
      have lt3 := rv3.lt
      have RK3 : Hid (w3.rowIs gk 9 m (fun j => .string (kf j))) := row_below RK2.out b3 lt2
      have ltk := RK3.out.lt
      have RV3 : Hid (w3.rowIs gV 37 m (fun i => (v i).val)) := rv3
      have RB3 : Hid (∀ i, i < m → (v i).len ≤ 1048576 ∧ Rd w3 (v i).ad (v i).len (fun j => .int .u8 (bf i j))) := fun i hi => ⟨(rb3 i hi).1, by
        rcases (rb3 i hi).2.2.2 with ⟨_, q⟩ | ⟨b, q1, _, q2⟩
        · rw [q]; exact fun j hj => absurd hj (Nat.not_lt_zero _)
        · rw [q1]; exact Rd.row q2 (Nat.le_refl _)⟩
      have B3 : Hid (Below w0.heap.size w0 w3) := B2.out.trans (b3.mono B2.out.size)
      clear b3 rv3 rb3 RK2 RV2 RB2 B2 LEN
      go_wp2_with fail
      refine (zzof_nil w3.heap.size kf v _ (Nat.le_refl _)).mono ?_
      rintro e w4 ⟨P, rfl, ws4, b4⟩
      have WS4 : Hid (WS w3.heap.size kf v w4 P 0 none) := ws4
      have B4 : Hid (Below w3.heap.size w3 w4) := b4
      clear ws4 b4
      go_wp2_with fail
      go_loopw [10] (fun i wr => ∃ (k : Nat) (idx : Option Nat), k ≤ m ∧ i = .int .i64 k ∧ Hid (WS w3.heap.size kf v wr P k idx) ∧ Hid (Below w3.heap.size w3 wr) ∧ Hid (idx = none ↔ k ≤ 16)) (fun i _ => m - (intOf i).toNat)
      case atStart => exact ⟨0, none, Nat.zero_le _, rfl, WS4, B4, by show _ ↔ _; simp⟩
      case round =>
        obtain ⟨k, idx, hk, rfl, WSK, BK, IK⟩ := hrel
        by_cases hlt : k < m
        · obtain ⟨va', vl, vc', HV⟩ : ∃ va' vl vc', Hid (v k = ⟨va', vl, vc'⟩) := ⟨_, _, _, rfl⟩
          have szr : w3.heap.size ≤ wr.heap.size := BK.out.size
          have c1 : wr.cell? ⟨gk, k, none⟩ = some (.string (kf k)) := (row_below RK3.out BK.out ltk).cell hlt
          have c2 : wr.cell? ⟨gV, k, none⟩ = some (.slice va' vl vc') := by rw [(row_below RV3.out BK.out lt3).cell hlt, HV.out]; rfl
          have CALL : Hid (Calls Try.prog 20 #[.pointer (some ⟨P, 0, none⟩), .string (kf k), .slice va' vl vc'] wr.drew fun e w' => e = .returned (.tuple #[]) ∧ w'.cell? ⟨gk, k, none⟩ = some (.string (kf k)) ∧ w'.cell? ⟨gV, k, none⟩ = some (.slice va' vl vc') ∧
              ∃ idx', Hid (WS w3.heap.size kf v w' P (k + 1) idx') ∧ Hid (idx' = none ↔ k + 1 ≤ 16) ∧ Hid (Below w3.heap.size w3 w')) := by
            have wsd : WS w3.heap.size kf v wr.drew P k idx := by
              obtain ⟨⟨sa, sc, q1⟩, q2⟩ := WSK.out
              exact ⟨⟨sa, sc, q1.drew⟩, fun b hb => ⟨(q2 b hb).1, (q2 b hb).2.of_block rfl⟩⟩
            refine (zzadd w3.heap.size P k idx kf v (kf k) va' vl vc' wr.drew wsd rfl HV.out (by omega) szr (fun i hi => KS.out i (by omega))).mono ?_
            rintro e w' ⟨he, idx', q1, q2, q3⟩
            have q4 : Below w3.heap.size w3 w' := BK.out.drew.trans q3
            refine ⟨he, (row_below RK3.out q4 ltk).cell hlt, ?_, idx', q1, ?_, q4⟩
            · rw [(row_below RV3.out q4 lt3).cell hlt, HV.out]; rfl
            · rw [Hid] at IK
              show idx' = none ↔ k + 1 ≤ 16
              rw [q2, IK]
              omega
          clear WSK IK
          go_wp2_with fail
          go_region_held3 (fun w' => w'.cell? ⟨gk, k, none⟩ = some (.string (kf k)) ∧ w'.cell? ⟨gV, k, none⟩ = some (.slice va' vl vc')) (first | exact ⟨by assumption, by assumption⟩ | go_keep) (first | (go_at_call 20; refine CALL.out.mono ?_; rintro e w' ⟨rfl, s1, s2, idx', W5, I5, B5⟩))
          clear CALL
          go_wp2_with fail
          refine (zzview w3.heap.size P (k + 1) idx' kf v _ W5.out (by omega)).mono ?_
          rintro e w6 ⟨gk', gv', rfl, le6, le6', r6, r6', b6⟩
          have R6 : Hid (w6.rowIs gk' 9 (k + 1) (fun j => .string (kf j))) := r6
          have R6' : Hid (w6.rowIs gv' 37 (k + 1) (fun j => (v j).val)) := r6'
          have B36 : Hid (Below w3.heap.size w3 w6) := B5.out.trans (b6.mono B5.out.size)
          have RK6 : Hid (w6.rowIs gk 9 m (fun j => .string (kf j))) := row_below RK3.out B36.out ltk
          have RV6 : Hid (w6.rowIs gV 37 m (fun j => (v j).val)) := row_below RV3.out B36.out lt3
          have W6 : Hid (WS w3.heap.size kf v w6 P (k + 1) idx') := W5.out.later b6
          clear r6 r6' b6 W5 B5 s1 s2
          cases idx' with
          | none =>
            have hd16 : decide ((16 : Int) < (k : Int) + 1) = false := decide_eq_false (by have q := I5.out.1 rfl; omega)
            have h16 : k + 1 ≤ 16 := I5.out.1 rfl
            clear I5
            go_wp2_with fail
            go_loopw [15] (fun i wq => ∃ (j q : Nat), j ≤ k + 1 ∧ i = .int .i64 j ∧ wq = w6.drewN q) (fun i _ => k + 1 - (intOf i).toNat)
            case atStart => exact ⟨0, 0, Nat.zero_le _, rfl, rfl⟩
            case round =>
              obtain ⟨j, q, hj, rfl, rfl⟩ := hrel
              by_cases hjk : j < k + 1
              · obtain ⟨ja, jl, jc, HJ⟩ : ∃ ja jl jc, Hid (v j = ⟨ja, jl, jc⟩) := ⟨_, _, _, rfl⟩
                have x1 : w6.cell? ⟨gk', j, none⟩ = some (.string (kf j)) := R6.out.cell hjk
                have x2 : w6.cell? ⟨gk, j, none⟩ = some (.string (kf j)) := RK6.out.cell (by omega)
                have x3 : w6.cell? ⟨gv', j, none⟩ = some (.slice ja jl jc) := by rw [R6'.out.cell hjk, HJ.out]; rfl
                have x4 : w6.cell? ⟨gV, j, none⟩ = some (.slice ja jl jc) := by rw [RV6.out.cell (by omega), HJ.out]; rfl
                have SAME : Hid (∀ x, Calls Try.prog 22 #[.slice ja jl jc, .slice ja jl jc] (w6.drewN (q + x)) fun e w'' => e = .returned (.bool true) ∧ ∃ n, w'' = w6.drewN (q + n)) := fun x => by
                  have q1 := RB3.out j (by omega)
                  rw [HJ.out] at q1
                  have q2 : Rd (w6.drewN (q + x)) ja jl (fun t => .int .u8 (bf j t)) := (q1.2.later B36.out).alike ⟨rfl, rfl, rfl⟩
                  refine (same_any ja ja jl jc jc (bf j) _ Iff.rfl q1.1 q2 q2).mono ?_
                  rintro e w'' ⟨he, mm, rfl⟩
                  exact ⟨he, x + mm, by rw [World.drewN_drewN, Nat.add_assoc]⟩
                have hji : (j : Int) ≤ (k : Int) := by omega
                have hj1 : (j : Int) < (k : Int) + 1 := by omega
                have hj2 : (j : Int) < (m : Int) := by omega
                go_wp2_with fail
                go_quiet ((go_at_call 22; exact SAME.out _))
                go_wp2_with fail
                go_roundw
                case rel => exact ⟨j + 1, _, by omega, by go_num, rfl⟩
                case measure => simp [intOf]; omega
              · have hji : ¬ (j : Int) ≤ (k : Int) := by omega
                go_wp2_with fail
                go_roundw
                case rel => exact ⟨k + 1, none, by omega, by go_num, W6.out.drewN _, below_drewN B36.out _, by show _ ↔ _; simp; omega⟩
                case measure => simp [intOf]; omega
          | some bm =>
            have hd16 : decide ((16 : Int) < (k : Int) + 1) = true := decide_eq_true (by have q := I5.out; simp at q; omega)
            have h16 : 16 < k + 1 := by have q := I5.out; simp at q; omega
            clear I5
            have IDX : Hid (IdxAt w6 bm kf (k + 1)) := (W6.out.2 bm rfl).2
            have APK : Hid (Apart kf (k + 1)) := fun i j hi hj q => AP.out i j (by omega) (by omega) q
            have hln : (Builtin.len_ #[41] 3 #[.map (some bm)]).run Try.prog w6 = .ok (.int .i64 ((k : Int) + 1)) w6 := by
              have := IDX.out.len APK.out 3
              simpa using this
            go_wp2_with fail
            go_loopw [15] (fun i wq => ∃ (j q : Nat), j ≤ k + 1 ∧ i = .int .i64 j ∧ wq = w6.drewN q) (fun i _ => k + 1 - (intOf i).toNat)
            case atStart => exact ⟨0, 0, Nat.zero_le _, rfl, rfl⟩
            case round =>
              obtain ⟨j, q, hj, rfl, rfl⟩ := hrel
              by_cases hjk : j < k + 1
              · obtain ⟨ja, jl, jc, HJ⟩ : ∃ ja jl jc, Hid (v j = ⟨ja, jl, jc⟩) := ⟨_, _, _, rfl⟩
                have x1 : w6.cell? ⟨gk', j, none⟩ = some (.string (kf j)) := R6.out.cell hjk
                have x2 : w6.cell? ⟨gk, j, none⟩ = some (.string (kf j)) := RK6.out.cell (by omega)
                have x3 : w6.cell? ⟨gv', j, none⟩ = some (.slice ja jl jc) := by rw [R6'.out.cell hjk, HJ.out]; rfl
                have x4 : w6.cell? ⟨gV, j, none⟩ = some (.slice ja jl jc) := by rw [RV6.out.cell (by omega), HJ.out]; rfl
                have SAME : Hid (∀ x, Calls Try.prog 22 #[.slice ja jl jc, .slice ja jl jc] (w6.drewN (q + x)) fun e w'' => e = .returned (.bool true) ∧ ∃ n, w'' = w6.drewN (q + n)) := fun x => by
                  have q1 := RB3.out j (by omega)
                  rw [HJ.out] at q1
                  have q2 : Rd (w6.drewN (q + x)) ja jl (fun t => .int .u8 (bf j t)) := (q1.2.later B36.out).alike ⟨rfl, rfl, rfl⟩
                  refine (same_any ja ja jl jc jc (bf j) _ Iff.rfl q1.1 q2 q2).mono ?_
                  rintro e w'' ⟨he, mm, rfl⟩
                  exact ⟨he, x + mm, by rw [World.drewN_drewN, Nat.add_assoc]⟩
                have hlk : ∀ q, (Instr.lookup 41 (.map (some bm)) (.string (kf j)) true).run Try.prog (w6.drewN q) = .ok (.tuple #[.int .i64 (j : Int), .bool true]) (w6.drewN q) := fun q => (IDX.out.of_block (w' := w6.drewN q) rfl).look APK.out hjk (KS.out j (by omega))
                have hji : (j : Int) ≤ (k : Int) := by omega
                have hj1 : (j : Int) < (k : Int) + 1 := by omega
                have hj2 : (j : Int) < (m : Int) := by omega
                go_wp2_with fail
                go_quiet ((go_at_call 22; exact SAME.out _))
                go_wp2_with fail
                go_roundw
                case rel => exact ⟨j + 1, _, by omega, by go_num, rfl⟩
                case measure => simp [intOf]; omega
              · have hji : ¬ (j : Int) ≤ (k : Int) := by omega
                go_wp2_with fail
                go_roundw
                case rel => exact ⟨k + 1, some bm, by omega, by go_num, W6.out.drewN _, below_drewN B36.out _, by show _ ↔ _; simp; omega⟩
                case measure => simp [intOf]; omega
        · have WM : Hid (WS w3.heap.size kf v wr P m idx) := by have := WSK.out; rwa [show k = m by omega] at this
          have IM : Hid (idx = none ↔ m ≤ 16) := by have := IK.out; rwa [show k = m by omega] at this
          clear WSK IK
          go_wp2_with fail
          refine (zzview w3.heap.size P m idx kf v _ WM.out (by omega)).mono ?_
          rintro e w6 ⟨gk', gv', rfl, le6, le6', r6, r6', b6⟩
          have B6 : Hid (Below w0.heap.size w0 w6) := (B3.out.trans (BK.out.mono B3.out.size)).trans (b6.mono (Nat.le_trans B3.out.size BK.out.size))
          clear r6 r6' b6 WM
          cases idx with
          | none =>
            have hd16 : decide ((16 : Int) < (m : Int)) = false := decide_eq_false (by have q := IM.out.1 rfl; omega)
            clear IM
            go_wp2_with fail
            go_ret
            exact ⟨rfl, B6.out⟩
          | some bm =>
            have hd16 : decide ((16 : Int) < (m : Int)) = true := decide_eq_true (by have q := IM.out; simp at q; omega)
            clear IM
            go_wp2_with fail
            go_ret
            exact ⟨rfl, B6.out⟩
end Go.Proofs.Qxb6602653a
