/-
  The walk of FnSlotLastWriteWinsAndIsOwned (function 8), out of its callees' contracts.
-/
import Derived.Test.Qxb6602653aLastParts
import Derived.Test.Qxb6602653aZz
import Derived.Deep.RegionHeld3
namespace Go.Proofs.Qxb6602653a
open Go.RowKit
set_option linter.unusedVariables false

/-- The blocks that the slot's value may lie in. -/
def okB (w0 w1 w3 : World) (k : Nat) : Prop := (w0.heap.size ≤ k ∧ k < w1.heap.size) ∨ w3.heap.size ≤ k

set_option maxHeartbeats 2000000 in
set_option maxRecDepth 100000 in
theorem last_main (oa : Option Addr) (on oc : Nat) (cp : Int) (ga : Addr) (gc : Nat) (va : Addr) (vc n : Nat) (of : Nat → Int) (gf : Nat → Nat) (vf : Nat → Sl) (bf : Nat → Nat → Int) (w : World)
    (hn0 : 0 < n) (h1 : ¬ 1048576 < (on : Int)) (h2 : ¬ 65536 < (n : Int))
    (ro : Rd w oa on (fun j => .int .u8 (of j))) (rg : Rd w (some ga) n (fun i => .int .u64 (gf i : Int))) (rv : Rd w (some va) n (fun i => (vf i).val)) (rb : ∀ i, i < n → Rd w (vf i).ad (vf i).len (fun j => .int .u8 (bf i j))) :
    Calls Try.prog 8 #[.slice oa on oc, .int .u64 cp, .slice (some ga) n gc, .slice (some va) n vc] w (TrueEnd w) := by
  have RO : Hid (Rd w oa on (fun j => .int .u8 (of j))) := ro
  have RG : Hid (Rd w (some ga) n (fun i => .int .u64 (gf i : Int))) := rg
  have RV : Hid (Rd w (some va) n (fun i => (vf i).val)) := rv
  have RB : Hid (∀ i, i < n → Rd w (vf i).ad (vf i).len (fun j => .int .u8 (bf i j))) := rb
  clear ro rg rv rb
  have ne0 : ((n : Int) == 0) = false := by simp; omega
  go_enter Try.func8, Try.ntmps8
  go_wp2_with fail
  refine (zz26 _ _ _ _ _ _ _ _ n vc vf _ RV.out).mono ?_
  rintro e w0 ⟨b, rfl, rfl⟩
  cases b
  · go_wp2_with fail
    go_ret
    exact ⟨rfl, Below.refl _ _⟩
  go_wp2_with fail
  refine (bytFit _ _ n vc vf _ (by omega) (by omega) (by unfold maxLen; omega) RV.out).mono ?_
  rintro e w0 ⟨t, b, rfl, rfl, ht0, ht1, hlen⟩
  cases b
  · go_wp2_with fail
    go_ret
    exact ⟨rfl, Below.refl _ _⟩
  have LEN : Hid (∀ i, i < n → (vf i).len ≤ 1048576) := hlen rfl
  clear hlen
  go_wp2_with fail
  refine (cloneB_any2 oa on oc of _ (by omega) RO.out).mono ?_
  rintro e w1 ⟨sa, sc, rfl, o1, b1⟩
  have O1 : Hid (OwnB w1 w0.heap.size ⟨sa, on, sc⟩ on (oa = none) of) := o1
  have B1 : Hid (Below w0.heap.size w0 w1) := b1
  have RG1 : Hid (Rd w1 (some ga) n (fun i => .int .u64 (gf i : Int))) := RG.out.later b1
  clear o1 b1
  go_wp2_with fail
  refine (cloneW_g ga n gc (fun i => (gf i : Int)) _ (by omega) RG1.out).mono ?_
  rintro e w2 ⟨gG, rfl, le2, r2, b2⟩
  have RG2 : Hid (w2.rowIs gG 25 n (fun i => .int .u64 (gf i : Int))) := r2
  have B12 : Hid (Below w1.heap.size w1 w2) := b2
  have B2 : Hid (Below w0.heap.size w0 w2) := B1.out.trans (b2.mono B1.out.size)
  have lt2 := r2.lt
  clear r2 b2 RG1
  have RV2 : Hid (Rd w2 (some va) n (fun i => (vf i).val)) := RV.out.later B2.out
  have RB2 : Hid (∀ i, i < n → Rd w2 (vf i).ad (vf i).len (fun j => .int .u8 (bf i j))) := fun i hi => (RB.out i hi).later B2.out
  go_wp2_with fail
  refine (cloneA_g va n vc vf bf _ (by omega) RV2.out LEN.out RB2.out).mono ?_
  rintro e w3 ⟨gV, rfl, le3, b3, v, rv3, rb3⟩
  have lt3 := rv3.lt
  have B23 : Hid (Below w2.heap.size w2 w3) := b3
  have B3 : Hid (Below w0.heap.size w0 w3) := B2.out.trans (b3.mono B2.out.size)
  have sz12 : w1.heap.size ≤ w2.heap.size := B12.out.size
  have sz01 : w0.heap.size ≤ w1.heap.size := B1.out.size
  have VALS : Hid (Vals w3 gG gV n gf v bf) := ⟨row_below RG2.out b3 lt2, rv3, fun i hi => (rb3 i hi).1, fun i hi => (rb3 i hi).2.2.2⟩
  have OK1 : Hid (∀ k, w3.heap.size ≤ k → okB w0 w1 w3 k) := fun k hk => .inr hk
  have OK2 : Hid (¬ okB w0 w1 w3 gG) := by
    rintro (⟨_, h⟩ | h)
    · omega
    · omega
  have OK3 : Hid (∀ b, gV ≤ b → b < w3.heap.size → ¬ okB w0 w1 w3 b) := by
    rintro b hb hb' (⟨_, h⟩ | h)
    · omega
    · omega
  have OK4 : Hid (∀ k, k < w0.heap.size → ¬ okB w0 w1 w3 k) := by
    rintro k hk (⟨h, _⟩ | h)
    · omega
    · omega
  have CUR0 : Hid (∃ nil f, Cur w3 (okB w0 w1 w3) sa on sc nil f) := by
    refine ⟨oa = none, of, ?_⟩
    obtain ⟨_, ⟨q1, _, h3, h4⟩ | ⟨q1, q2, b, h3, h4, h5⟩⟩ := O1.out
    · exact .inl ⟨q1, h3, h4⟩
    · have hbl := h5.lt
      have q2' : sc = on := q2
      subst q2'
      exact .inr ⟨q1, b, h4, .inl ⟨h3, hbl⟩, ownR_of_row (row_below (row_below h5 B12.out hbl) B23.out (by omega))⟩
  clear b3 rv3 rb3 RV2 RB2 RO RG RV RB LEN RG2 B2 O1
  go_wp2_with fail
  go_loopw [11, 12, 13] (fun c x i wr => ∃ (k : Nat) (ca : Option Addr) (cn cc : Nat) (y : Int), k ≤ n ∧ i = .int .i64 k ∧ c = .slice ca cn cc ∧ x = .int .u64 y ∧ Hid (LW (okB w0 w1 w3) w3 gG gV n gf v bf wr k ca cn cc)) (fun _ _ i _ => n - (intOf i).toNat)
  case atStart => exact ⟨0, sa, on, sc, cp, Nat.zero_le _, rfl, rfl, rfl, Kept.refl _ _, VALS.out, CUR0.out, fun j hj => by omega⟩
  case round =>
    obtain ⟨k, ca, cn, cc, y, hk, rfl, rfl, rfl, LH⟩ := hrel
    by_cases hlt : k < n
    · obtain ⟨a', vl, vc', HV⟩ : ∃ a' vl vc', Hid (v k = ⟨a', vl, vc'⟩) := ⟨_, _, _, rfl⟩
      have hl : vl ≤ 1048576 := by have := VALS.out.len k hlt; rwa [HV.out] at this
      obtain ⟨gen, hgen⟩ : ∃ gen : Int, (gf k : Int) = gen := ⟨_, rfl⟩
      have c1 : wr.cell? ⟨gG, k, none⟩ = some (.int .u64 gen) := by rw [← hgen]; exact LH.out.vals.rG.cell hlt
      have c2 : wr.cell? ⟨gV, k, none⟩ = some (.slice a' vl vc') := by rw [LH.out.vals.rV.cell hlt, HV.out]; rfl
      have CALL : Hid (∀ K, Calls Try.prog 25 #[.int .u64 0, .string K, .slice ca cn cc, .int .u64 y, .int .u64 gen, .slice a' vl vc'] wr.drew (WPost (okB w0 w1 w3) w3 gG gV n gf v bf K k a' vl vc' gen)) := fun K => by
        rw [← hgen]; exact (LH.out.drewN 1).write hlt OK1.out OK2.out OK3.out VALS.out K y a' vl vc' HV.out
      clear hgen
      go_wp2_with fail
      go_region_held3 (fun w' => w'.cell? ⟨gG, k, none⟩ = some (.int .u64 gen) ∧ w'.cell? ⟨gV, k, none⟩ = some (.slice a' vl vc')) (first | exact ⟨by assumption, by assumption⟩ | go_keep) (first | (go_at_call 25; refine (CALL.out _).mono ?_; rintro e w' ⟨na, nc, rfl, s1, s2, HL, HC, HR⟩))
      go_wp2_with fail
      refine (same_any na a' vl nc vc' (bf k) _ HC.out.nil_iff hl HC.out.rd HR.out).mono ?_
      rintro e w'' ⟨rfl, m, rfl⟩
      go_wp2_with fail
      go_roundw
      case rel => exact ⟨k + 1, na, vl, nc, gen, by omega, by go_num, rfl, rfl, HL.out.drewN m⟩
      case measure => simp [intOf]; omega
    · obtain ⟨l, hl⟩ : ∃ l, n = l + 1 := ⟨n - 1, by omega⟩
      have HLN : Hid (n = l + 1) := hl
      have hl1 : l < n := by omega
      obtain ⟨a', vl, vc', HV⟩ : ∃ a' vl vc', Hid (v l = ⟨a', vl, vc'⟩) := ⟨_, _, _, rfl⟩
      have HKN : Hid (k = l + 1) := by show k = l + 1; omega
      have hvl : vl ≤ 1048576 := by have := VALS.out.len l hl1; rwa [HV.out] at this
      have hlast := LH.out.last l HKN.out
      rw [HV.out] at hlast
      obtain ⟨hcn, hcl⟩ := hlast
      have hcn' : cn = vl := hcn
      subst hcn'
      have HCL : Hid (Cur wr (okB w0 w1 w3) ca cn cc (a' = none) (bf l)) := hcl
      have hrd := LH.out.vals.rd hl1
      rw [HV.out] at hrd
      have HR : Hid (Rd wr a' cn (fun j => .int .u8 (bf l j))) := hrd
      have c2 : wr.cell? ⟨gV, l, none⟩ = some (.slice a' cn vc') := by rw [LH.out.vals.rV.cell hl1, HV.out]; rfl
      have hnl : (n : Int) - 1 = (l : Int) := by omega
      have KEPT : Hid (Kept (okB w0 w1 w3) w3 wr) := LH.out.kept
      have VW : Hid (Vals wr gG gV n gf v bf) := LH.out.vals
      have szr : w3.heap.size ≤ wr.heap.size := LH.out.kept.size
      clear hl hcn hcl hrd LH
      go_wp2_with fail
      refine (cloneB_any2 a' cn vc' (bf l) _ hvl HR.out).mono ?_
      rintro e w5 ⟨wa, wc, rfl, ow, bw⟩
      have OW : Hid (OwnB w5 wr.heap.size ⟨wa, cn, wc⟩ cn (a' = none) (bf l)) := ow
      have BW : Hid (Below wr.heap.size wr w5) := bw
      have CL5 : Hid (Cur w5 (okB w0 w1 w3) ca cn cc (a' = none) (bf l)) := HCL.out.later bw
      have RV5 : Hid (w5.rowIs gV 37 n (fun i => (v i).val)) := row_below VW.out.rV bw VW.out.rV.lt
      have B5 : Hid (Below w0.heap.size w0 w5) := (KEPT.out.below B3.out OK4.out).trans (bw.mono (by omega))
      have L20 : Hid (L2 (fun b => gV < b ∧ b < w3.heap.size) w5 n v w5) := ⟨Kept.refl _ _, fun i hi => by
        rcases VALS.out.rB i hi with q | ⟨b, q1, q2, q3⟩
        · exact .inl q
        · have hbl := q3.lt
          exact .inr ⟨b, q1, ⟨q2, hbl⟩, bf i, row_below (KEPT.out.row q3 (OK3.out b (by omega) hbl)) bw (by omega)⟩⟩
      have sz5 : wr.heap.size ≤ w5.heap.size := bw.size
      clear ow bw HCL HR KEPT VW BW c2 hnl
      go_wp2_with fail
      go_loopw [17] (fun i wq => ∃ k2 : Nat, k2 ≤ n ∧ i = .int .i64 k2 ∧ Hid (L2 (fun b => gV < b ∧ b < w3.heap.size) w5 n v wq)) (fun i _ => n - (intOf i).toNat)
      case atStart => exact ⟨0, Nat.zero_le _, rfl, L20⟩
      case round =>
        obtain ⟨k2, hk2, rfl, LQ⟩ := hrel
        by_cases hlt2 : k2 < n
        · obtain ⟨ia, il, ic, HI⟩ : ∃ ia il ic, Hid (v k2 = ⟨ia, il, ic⟩) := ⟨_, _, _, rfl⟩
          have hil : il ≤ 1048576 := by have := VALS.out.len k2 hlt2; rwa [HI.out] at this
          go_wp2_with fail
          go_loopw [18] (fun i wq => ∃ j2 : Nat, j2 ≤ il ∧ i = .int .i64 j2 ∧ Hid (L2 (fun b => gV < b ∧ b < w3.heap.size) w5 n v wq)) (fun i _ => il - (intOf i).toNat)
          case atStart => exact ⟨0, Nat.zero_le _, rfl, LQ⟩
          case round =>
            obtain ⟨j2, hj2, rfl, LJ⟩ := hrel
            have RV6 : Hid (wr.rowIs gV 37 n (fun i => (v i).val)) := LJ.out.kept.row RV5.out (fun q => by omega)
            by_cases hjl : j2 < il
            · obtain ⟨b, hia, ⟨hb1, hb2⟩, g, hrow⟩ : ∃ b, ia = some ⟨b, 0, none⟩ ∧ (gV < b ∧ b < w3.heap.size) ∧ ∃ g : Nat → Int, wr.rowIs b 5 il (fun j => .int .u8 (g j)) := by
                have q := LJ.out.rows k2 hlt2
                rw [HI.out] at q
                rcases q with ⟨_, q⟩ | q
                · exact absurd hjl (by have : il = 0 := q; omega)
                · exact q
              have c3 : wr.cell? ⟨gV, k2, none⟩ = some (.slice (some ⟨b, 0, none⟩) il ic) := by rw [RV6.out.cell hlt2, HI.out, hia]; rfl
              have c4 : wr.cell? ⟨b, j2, none⟩ = some (.int .u8 (g j2)) := hrow.cell hjl
              have f4 : wr.frozen? ⟨b, j2, none⟩ = false := hrow.frozen j2
              have HST : Hid (∀ x, L2 (fun b => gV < b ∧ b < w3.heap.size) w5 n v (wr.setCell ⟨b, j2, none⟩ (.int .u8 x))) := fun x => LJ.out.store b j2 ⟨hb1, hb2⟩ x
              clear hrow hia RV6
              go_wp2_with fail
              go_roundw
              case rel => exact ⟨j2 + 1, by omega, by go_num, HST.out _⟩
              case measure => simp [intOf]; omega
            · have c3 : wr.cell? ⟨gV, k2, none⟩ = some (.slice ia il ic) := by rw [RV6.out.cell hlt2, HI.out]; rfl
              clear RV6
              go_wp2_with fail
              go_roundw
              case rel => exact ⟨k2 + 1, by omega, by go_num, LJ⟩
              case measure => simp [intOf]; omega
        · have CL6 : Hid (Cur wr (okB w0 w1 w3) ca cn cc (a' = none) (bf l)) := CL5.out.kept LQ.out.kept (by
            rintro q hq (⟨_, h⟩ | h) ⟨h2, h3⟩
            · omega
            · omega)
          have OW6 : Hid (Rd wr wa cn (fun j => .int .u8 (bf l j)) ∧ (wa = none ↔ a' = none)) := by
            refine ⟨?_, OW.out.nil_iff⟩
            obtain ⟨_, ⟨_, _, q3, _⟩ | ⟨_, _, b, q3, q4, q5⟩⟩ := OW.out
            · exact fun i hi => by omega
            · have q4' : wa = some ⟨b, 0, none⟩ := q4
              rw [q4']
              exact Rd.row (LQ.out.kept.row q5 (fun q => by omega)) (Nat.le_refl _)
          have B6 : Hid (Below w0.heap.size w0 wr) := LQ.out.kept.below B5.out (fun q hq h => by omega)
          clear CL5 OW LQ
          go_wp2_with fail
          refine (same_any ca wa cn cc wc (bf l) _ (CL6.out.nil_iff.trans OW6.out.2.symm) hvl CL6.out.rd OW6.out.1).mono ?_
          rintro e w9 ⟨rfl, m9, rfl⟩
          go_wp2_with fail
          go_ret
          exact ⟨rfl, below_drewN B6.out _⟩
end Go.Proofs.Qxb6602653a
