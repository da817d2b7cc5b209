/-
  The walk of FnWriteSetAddAppendsAndKeepsIndexExact (function 5), out of its callees' contracts.
-/
import Derived.Test.Qxb6602653aAdds
namespace Go.Proofs.Qxb6602653a
open Go.RowKit Go.Maps
set_option linter.unusedVariables false

/-- []string cloned, whatever it was. -/
theorem cloneS_u (a : Option Addr) (n c : Nat) (f : Nat → ByteArray) (w : World) (hn : n ≤ 1048576) (hr : Rd w a n (fun i => .string (f i))) :
    Calls Try.prog 12 #[.slice a n c] w fun e w' => ∃ sa sc, e = .returned (.slice sa n sc) ∧ Rd w' sa n (fun i => .string (f i)) ∧ Below w.heap.size w w' := by
  cases a with
  | none =>
    refine (cloneS_nil n c w).mono ?_
    rintro e w' ⟨rfl, rfl⟩
    have h0 := hr.none_len
    subst h0
    exact ⟨none, 0, rfl, hr, Below.refl _ _⟩
  | some a =>
    refine (cloneS_g a n c f w hn hr).mono ?_
    rintro e w' ⟨g, rfl, _, h, hb⟩
    exact ⟨_, _, rfl, Rd.row h (Nat.le_refl _), hb⟩

/-- [][]byte cloned, whatever it was. -/
theorem cloneA_u (a : Option Addr) (n c : Nat) (f : Nat → Sl) (g : Nat → Nat → Int) (w : World) (hn : n ≤ 1048576) (ha : Rd w a n (fun i => (f i).val))
    (hl : ∀ i, i < n → (f i).len ≤ 1048576) (hr : ∀ i, i < n → Rd w (f i).ad (f i).len (fun j => .int .u8 (g i j))) :
    Calls Try.prog 13 #[.slice a n c] w fun e w' => ∃ sa sc, e = .returned (.slice sa n sc) ∧ (∃ v : Nat → Sl, Rd w' sa n (fun i => (v i).val) ∧ ∀ i, i < n → (v i).len ≤ 1048576 ∧ Rd w' (v i).ad (v i).len (fun j => .int .u8 (g i j))) ∧ Below w.heap.size w w' := by
  cases a with
  | none =>
    refine (cloneA_nil n c w).mono ?_
    rintro e w' ⟨rfl, rfl⟩
    have h0 := ha.none_len
    subst h0
    exact ⟨none, 0, rfl, ⟨f, ha, fun i hi => absurd hi (Nat.not_lt_zero _)⟩, Below.refl _ _⟩
  | some a =>
    refine (cloneA_g a n c f g w hn ha hl hr).mono ?_
    rintro e w' ⟨gV, rfl, _, hb, v, hv, ho⟩
    refine ⟨_, _, rfl, ⟨v, Rd.row hv (Nat.le_refl _), fun i hi => ⟨(ho i hi).1, ?_⟩⟩, hb⟩
    rcases (ho i hi).2.2.2 with ⟨_, q⟩ | ⟨b, q1, _, q2⟩
    · rw [q]; exact fun j hj => absurd hj (Nat.not_lt_zero _)
    · rw [q1]; exact Rd.row q2 (Nat.le_refl _)

theorem zzof_zero (B : Nat) (ga : Option Addr) (gc : Nat) (xa : Option Addr) (xc : Nat) (idx : Option Nat) (kf : Nat → ByteArray) (vv : Nat → Sl) (w : World) (hB : B ≤ w.heap.size) (hi : ∀ bm, idx = some bm → B ≤ bm ∧ IdxAt w bm kf 0) :
    Calls Try.prog 19 #[.slice ga 0 gc, .slice xa 0 xc, .map idx] w (OfEnd B kf vv w 0 idx) := by
  have HI : Hid (∀ bm, idx = some bm → B ≤ bm ∧ IdxAt w bm kf 0) := hi
  clear hi
  go_enter Try.func19, Try.ntmps19
  go_wp2
  go_loop [8] (fun i => i = .int .i64 0) (fun _ => 0)
  case atStart => rfl
  case round =>
    subst hrel
    go_wp2
    go_ret
    refine ⟨_, rfl, ⟨⟨_, _, ws_laid B kf vv w idx hB⟩, fun b hb => ⟨(HI.out b hb).1, ?_⟩⟩, (Below.refl _ w).alloc hB _⟩
    have := (HI.out b hb).2
    obtain ⟨es, clock, hx, _⟩ := this
    exact (HI.out b hb).2.of_block (Below.heap_alloc w _ _ (Array.getElem?_eq_some_iff.1 hx).1)

theorem zzof_any (ga : Option Addr) (m gc : Nat) (xa : Option Addr) (xc : Nat) (idx : Option Nat) (kf : Nat → ByteArray) (vv : Nat → Sl) (w5 w : World) (hb : Below w5.heap.size w5 w) (hm : m ≤ 65536)
    (rk : Rd w5 ga m (fun i => .string (kf i))) (rv : Rd w5 xa m (fun i => (vv i).val)) (hi : ∀ bm, idx = some bm → w5.heap.size ≤ bm ∧ IdxAt w bm kf m) :
    Calls Try.prog 19 #[.slice ga m gc, .slice xa m xc, .map idx] w (OfEnd w5.heap.size kf vv w m idx) := by
  rcases Nat.eq_zero_or_pos m with rfl | h
  · exact zzof_zero w5.heap.size ga gc xa xc idx kf vv w hb.size hi
  · obtain ⟨b1, o1, rfl, l1, c1⟩ := rk.at h
    obtain ⟨b2, o2, rfl, l2, c2⟩ := rv.at h
    exact zzof_full w5.heap.size b1 o1 b2 o2 m gc xc idx kf vv w hb.size hm l1 l2 (fun i hi' => cell_later hb (c1 i hi')) (fun i hi' => cell_later hb (c2 i hi')) hi

set_option maxHeartbeats 8000000 in
set_option maxRecDepth 100000 in
theorem addx_main (ka : Option Addr) (m kc : Nat) (va : Option Addr) (vc : Nat) (ix : Bool) (K : ByteArray) (xa : Option Addr) (xl xc : Nat) (kf : Nat → ByteArray) (vf : Nat → Sl) (bf : Nat → Nat → Int) (xf : Nat → Int) (w : World)
    (hK : kf m = K) (hKs : K.size ≤ maxLen) (h1 : ¬ 65536 < (m : Int)) (h3 : ¬ 1048576 < (K.size : Int)) (h4 : ¬ 1048576 < (xl : Int))
    (rk : Rd w ka m (fun i => .string (kf i))) (ks : ∀ i, i < m → (kf i).size ≤ maxLen)
    (rv : Rd w va m (fun i => (vf i).val)) (rb : ∀ i, i < m → Rd w (vf i).ad (vf i).len (fun j => .int .u8 (bf i j))) (rx : Rd w xa xl (fun j => .int .u8 (xf j))) :
    Calls Try.prog 5 #[.slice ka m kc, .slice va m vc, .bool ix, .string K, .slice xa xl xc] w (TrueEnd w) := by
  have RK : Hid (Rd w ka m (fun i => .string (kf i))) := rk
  have KS : Hid (∀ i, i < m + 1 → (kf i).size ≤ maxLen) := fun i hi => by
    by_cases e : i = m
    · rw [e, hK]; exact hKs
    · exact ks i (by omega)
  have RV : Hid (Rd w va m (fun i => (vf i).val)) := rv
  have RB : Hid (∀ i, i < m → Rd w (vf i).ad (vf i).len (fun j => .int .u8 (bf i j))) := rb
  have RX : Hid (Rd w xa xl (fun j => .int .u8 (xf j))) := rx
  have HK : Hid (kf m = K) := hK
  have HKS : Hid (K.size ≤ maxLen) := hKs
  clear rk ks rv rb rx hK hKs
  have hmm := fun (x : Int) (w : World) => makeMap_hint Try.underlying39 x w
  have hmm2 := fun (x : Int) (w : World) => makeMap_hint Try.underlying41 x w
  have qm := neqNilMap
  go_enter Try.func5, Try.ntmps5
  go_wp2_with fail
  refine (zz17 _ m kc kf _ m vc vf ix K _ xl xc _ RK.out RV.out).mono ?_
  rintro e w0 ⟨b, rfl, rfl⟩
  cases b
  · go_wp2_with fail
    go_ret
    exact ⟨rfl, Below.refl _ _⟩
  go_wp2_with fail
  refine (strFit _ _ m kc kf _ (by omega) (by omega) (by unfold maxLen; omega) RK.out).mono ?_
  rintro e w0 ⟨t, b, rfl, rfl, ht0, ht1, -⟩
  cases b
  · go_wp2_with fail
    go_ret
    exact ⟨rfl, Below.refl _ _⟩
  go_wp2_with fail
  refine (bytFit _ _ m vc vf _ ht0 ht1 (by unfold maxLen; omega) RV.out).mono ?_
  rintro e w0 ⟨t2, b, rfl, rfl, ht20, ht21, hlen⟩
  cases b
  · go_wp2_with fail
    go_ret
    exact ⟨rfl, Below.refl _ _⟩
  have LEN : Hid (∀ i, i < m → (vf i).len ≤ 1048576) := hlen rfl
  clear hlen
  go_wp2_with fail
  go_loopw [14] (fun i wr => ∃ k : Nat, k ≤ m ∧ i = .int .i64 k ∧ Hid (SeenAt wr w0.heap.size kf k) ∧ Hid (Apart kf k) ∧ Hid (Below w0.heap.size w0 wr)) (fun i _ => m - (intOf i).toNat)
  case atStart => exact ⟨0, Nat.zero_le _, rfl, SeenAt.made _ _, fun i j hi => absurd hi (Nat.not_lt_zero _), (Below.refl _ _).alloc (Nat.le_refl _) _⟩
  case round =>
    obtain ⟨k, hk, rfl, HS, HA, HB⟩ := hrel
    by_cases hlt : k < m
    · obtain ⟨kb, ko, rfl, hkb, hkc⟩ := RK.out.at (by omega)
      have c1 : wr.cell? ⟨kb, ko + k, none⟩ = some (.string (kf k)) := (HB.out.cell (p := ⟨kb, ko + k, none⟩) hkb).trans (hkc k hlt)
      clear hkc
      obtain ⟨c, hlook, hc⟩ := HS.out.look (KS.out k (by omega))
      obtain ⟨w2, hup, hs2, hg2⟩ := HS.out.store (KS.out k (by omega)) (by unfold maxLen; omega)
      cases c
      · have NX : Hid (Apart kf (k + 1)) := HA.out.next (fun q => by have := hc.2 q; cases this)
        have HS2 : Hid (SeenAt w2 w0.heap.size kf (k + 1)) := hs2
        have HB2 : Hid (Below w0.heap.size w0 w2) := HB.out.grown hg2 HB.out.size (fun j hj => by cases hj; exact Nat.le_refl _)
        clear hc hs2 hg2 HS HA HB
        go_wp2_with fail
        go_roundw
        case rel => exact ⟨k + 1, by omega, by go_num, HS2, NX, HB2⟩
        case measure => simp [intOf]; omega
      · clear hc hs2 hg2 hup
        go_wp2_with fail
        go_ret
        exact ⟨rfl, HB.out⟩
    · have HSM : Hid (SeenAt wr w0.heap.size kf m) := by have := HS.out; rwa [show k = m by omega] at this
      have HAM : Hid (Apart kf m) := by have := HA.out; rwa [show k = m by omega] at this
      clear HS HA
      obtain ⟨c, hlook, hc⟩ := HSM.out.look HKS.out
      cases c with
      | true =>
        clear hc
        go_wp2_with fail
        go_ret
        exact ⟨rfl, HB.out⟩
      | false =>
      have AP : Hid (Apart kf (m + 1)) := HAM.out.next (fun q => by rw [HK.out] at q; have := hc.2 q; cases this)
      clear hc HAM HSM
      have RKR : Hid (Rd wr ka m (fun i => .string (kf i))) := RK.out.later HB.out
      have RVR : Hid (Rd wr va m (fun i => (vf i).val)) := RV.out.later HB.out
      have RBR : Hid (∀ i, i < m → Rd wr (vf i).ad (vf i).len (fun j => .int .u8 (bf i j))) := fun i hi => (RB.out i hi).later HB.out
      have RXR : Hid (Rd wr xa xl (fun j => .int .u8 (xf j))) := RX.out.later HB.out
      clear RK RV RB RX
      go_wp2_with fail
      refine (cloneS_u _ m kc kf _ (by omega) RKR.out).mono ?_
      rintro e w2 ⟨ga, gc, rfl, r2, b2⟩
      have RK2 : Hid (Rd w2 ga m (fun i => .string (kf i))) := r2
      have B2 : Hid (Below w0.heap.size w0 w2) := HB.out.trans (b2.mono HB.out.size)
      have RV2 : Hid (Rd w2 va m (fun i => (vf i).val)) := RVR.out.later b2
      have RB2 : Hid (∀ i, i < m → Rd w2 (vf i).ad (vf i).len (fun j => .int .u8 (bf i j))) := fun i hi => (RBR.out i hi).later b2
      have RX2 : Hid (Rd w2 xa xl (fun j => .int .u8 (xf j))) := RXR.out.later b2
      clear r2 b2 RKR RVR RBR RXR HB
      go_wp2_with fail
      refine (cloneA_u _ m vc vf bf _ (by omega) RV2.out LEN.out RB2.out).mono ?_
      rintro e w3 ⟨ya, yc, rfl, ⟨v, rv3, rb3⟩, b3⟩
      have RK3 : Hid (Rd w3 ga m (fun i => .string (kf i))) := RK2.out.later b3
      have RV3 : Hid (Rd w3 ya m (fun i => (v i).val)) := rv3
      have RB3 : Hid (∀ i, i < m → (v i).len ≤ 1048576 ∧ Rd w3 (v i).ad (v i).len (fun j => .int .u8 (bf i j))) := rb3
      have RX3 : Hid (Rd w3 xa xl (fun j => .int .u8 (xf j))) := RX2.out.later b3
      have B3 : Hid (Below w0.heap.size w0 w3) := B2.out.trans (b3.mono B2.out.size)
      clear b3 rv3 rb3 RK2 RV2 RB2 RX2 B2 LEN
      go_wp2_with fail
      refine (cloneB_any _ xl xc xf _ (by omega) RX3.out).mono ?_
      rintro e w4 ⟨za, zl, zc, rfl, ho4, b4⟩
      have zle : zl = xl := ho4.1
      have RK4 : Hid (Rd w4 ga m (fun i => .string (kf i))) := RK3.out.later b4
      have RZ4 : Hid (Rd w4 za zl (fun j => .int .u8 (xf j))) := by have q := ho4.rd; rw [← zle] at q; exact q
      have zle' : zl ≤ 1048576 := by omega
      obtain ⟨u, RV4, RB4, UM⟩ : ∃ u : Nat → Sl, Hid (Rd w4 ya m (fun i => (u i).val)) ∧ Hid (∀ i, i < m → (u i).len ≤ 1048576 ∧ Rd w4 (u i).ad (u i).len (fun j => .int .u8 (bf i j))) ∧ Hid (u m = ⟨za, zl, zc⟩) := by
        refine ⟨fun i => if i < m then v i else ⟨za, zl, zc⟩, ?_, ?_, ?_⟩
        · exact (RV3.out.later b4).congr (fun i hi => by simp only [if_pos hi])
        · intro i hi
          simp only [if_pos hi]
          exact ⟨(RB3.out i hi).1, (RB3.out i hi).2.later b4⟩
        · show (if m < m then v m else _) = _
          rw [if_neg (Nat.lt_irrefl _)]
      have B4 : Hid (Below w0.heap.size w0 w4) := B3.out.trans (b4.mono B3.out.size)
      clear b4 ho4 zle RK3 RV3 RB3 RX3 B3
      cases ix with
      | false =>
        go_wp2_with fail
        refine (zzof_any _ m _ _ _ none kf u w4 _ (Below.refl w4.heap.size w4) (by omega) RK4.out RV4.out (fun bm hbm => by cases hbm)).mono ?_
        rintro e w5 ⟨P, rfl, ws5, b5⟩
        have WS5 : Hid (WS w4.heap.size kf u w5 P m none) := ws5
        have B5 : Hid (Below w4.heap.size w4 w5) := Below.trans (Below.refl w4.heap.size w4) b5
        clear ws5 b5
        go_wp2_with fail
        refine (zzadd w4.heap.size P m none kf u K za zl zc _ WS5.out HK.out UM.out (by omega) B5.out.size KS.out).mono ?_
        rintro e w6 ⟨rfl, idx', q1, q2, q3⟩
        have WS6 : Hid (WS w4.heap.size kf u w6 P (m + 1) idx') := q1
        have I6 : Hid (idx' = none ↔ none = none ∧ m + 1 ≤ 16) := q2
        have B6 : Hid (Below w4.heap.size w4 w6) := B5.out.trans q3
        clear q1 q2 q3 WS5 B5
        go_wp2_with fail
        refine (zzview w4.heap.size P (m + 1) idx' kf u _ WS6.out (by omega)).mono ?_
        rintro e w7 ⟨gk, gv, rfl, le7, le7', r7, r7', b7⟩
        have R7 : Hid (w7.rowIs gk 9 (m + 1) (fun j => .string (kf j))) := r7
        have R7' : Hid (w7.rowIs gv 37 (m + 1) (fun j => (u j).val)) := r7'
        have B7 : Hid (Below w4.heap.size w4 w7) := B6.out.trans (b7.mono B6.out.size)
        have WS7 : Hid (WS w4.heap.size kf u w7 P (m + 1) idx') := WS6.out.later b7
        clear r7 r7' b7 WS6 B6 le7 le7'
        cases idx' with
        | none =>
          have hd16 : decide ((16 : Int) < (m : Int) + 1) = false := decide_eq_false (by have q := (I6.out.1 rfl).2; omega)
          have h16 : m + 1 ≤ 16 := (I6.out.1 rfl).2
          clear I6
          go_wp2_with fail
          go_loopw [22] (fun i wq => ∃ (j q : Nat), j ≤ m ∧ i = .int .i64 j ∧ wq = w7.drewN q) (fun i _ => m - (intOf i).toNat)
          case atStart => exact ⟨0, 0, Nat.zero_le _, rfl, rfl⟩
          case round =>
            obtain ⟨j, q, hj, rfl, rfl⟩ := hrel
            by_cases hjm : j < m
            · obtain ⟨ja, jl, jc, HJ⟩ : ∃ ja jl jc, Hid (u j = ⟨ja, jl, jc⟩) := ⟨_, _, _, rfl⟩
              obtain ⟨kb4, ko4, rfl, _, kc4⟩ := RK4.out.at (by omega)
              obtain ⟨vb4, vo4, rfl, _, vc4⟩ := RV4.out.at (by omega)
              have x1 : w7.cell? ⟨gk, j, none⟩ = some (.string (kf j)) := R7.out.cell (by omega)
              have x2 : w7.cell? ⟨kb4, ko4 + j, none⟩ = some (.string (kf j)) := cell_later B7.out (kc4 j hjm)
              have x3 : w7.cell? ⟨gv, j, none⟩ = some (.slice ja jl jc) := by rw [R7'.out.cell (by omega), HJ.out]; rfl
              have x4 : w7.cell? ⟨vb4, vo4 + j, none⟩ = some (.slice ja jl jc) := by have := cell_later B7.out (vc4 j hjm); rw [HJ.out] at this; exact this
              have SAME : Hid (∀ x, Calls Try.prog 22 #[.slice ja jl jc, .slice ja jl jc] (w7.drewN (q + x)) fun e w'' => e = .returned (.bool true) ∧ ∃ n, w'' = w7.drewN (q + n)) := fun x => by
                have q1 := RB4.out j hjm
                rw [HJ.out] at q1
                have q2 : Rd (w7.drewN (q + x)) ja jl (fun t => .int .u8 (bf j t)) := (q1.2.later B7.out).alike ⟨rfl, rfl, rfl⟩
                refine (same_any ja ja jl jc jc (bf j) _ Iff.rfl q1.1 q2 q2).mono ?_
                rintro e w'' ⟨he, mm, rfl⟩
                exact ⟨he, x + mm, by rw [World.drewN_drewN, Nat.add_assoc]⟩
              clear kc4 vc4
              have hji : (j : Int) < (m : Int) := by omega
              have hj1 : (j : Int) < (m : Int) + 1 := by omega
              go_wp2_with fail
              go_quiet ((go_at_call 22; exact SAME.out _))
              go_wp2_with fail
              go_roundw
              case rel => exact ⟨j + 1, _, by omega, by go_num, rfl⟩
              case measure => simp [intOf]; omega
            · have hji : ¬ (j : Int) < (m : Int) := by omega
              have x1 : w7.cell? ⟨gk, m, none⟩ = some (.string K) := by rw [R7.out.cell (by omega), HK.out]
              have x3 : w7.cell? ⟨gv, m, none⟩ = some (.slice za zl zc) := by rw [R7'.out.cell (by omega), UM.out]; rfl
              have SAME : Hid (∀ x, Calls Try.prog 22 #[.slice za zl zc, .slice za zl zc] (w7.drewN x) fun e w'' => e = .returned (.bool true) ∧ ∃ n, w'' = w7.drewN n) := fun x => by
                have q2 : Rd (w7.drewN x) za zl (fun t => .int .u8 (xf t)) := (RZ4.out.later B7.out).alike ⟨rfl, rfl, rfl⟩
                refine (same_any za za zl zc zc xf _ Iff.rfl zle' q2 q2).mono ?_
                rintro e w'' ⟨he, mm, rfl⟩
                exact ⟨he, x + mm, by rw [World.drewN_drewN]⟩
              clear hj hjm
              go_wp2_with fail
              refine (SAME.out _).mono ?_
              rintro e wz ⟨rfl, q', hz⟩
              have B8 : Hid (Below w0.heap.size w0 wz) := by rw [hz]; exact below_drewN (B4.out.trans (B7.out.mono B4.out.size)) _
              clear hz SAME
              go_wp2_with fail
              go_ret
              exact ⟨rfl, B8.out⟩
        | some bm =>
          have hd16 : decide ((16 : Int) < (m : Int) + 1) = true := decide_eq_true (by have q := I6.out; simp at q; omega)
          have h16 : 16 < m + 1 := by have q := I6.out; simp at q; omega
          clear I6
          go_wp2_with fail
          go_loopw [22] (fun i wq => ∃ (j q : Nat), j ≤ m ∧ i = .int .i64 j ∧ wq = w7.drewN q) (fun i _ => m - (intOf i).toNat)
          case atStart => exact ⟨0, 0, Nat.zero_le _, rfl, rfl⟩
          case round =>
            obtain ⟨j, q, hj, rfl, rfl⟩ := hrel
            by_cases hjm : j < m
            · obtain ⟨ja, jl, jc, HJ⟩ : ∃ ja jl jc, Hid (u j = ⟨ja, jl, jc⟩) := ⟨_, _, _, rfl⟩
              obtain ⟨kb4, ko4, rfl, _, kc4⟩ := RK4.out.at (by omega)
              obtain ⟨vb4, vo4, rfl, _, vc4⟩ := RV4.out.at (by omega)
              have x1 : w7.cell? ⟨gk, j, none⟩ = some (.string (kf j)) := R7.out.cell (by omega)
              have x2 : w7.cell? ⟨kb4, ko4 + j, none⟩ = some (.string (kf j)) := cell_later B7.out (kc4 j hjm)
              have x3 : w7.cell? ⟨gv, j, none⟩ = some (.slice ja jl jc) := by rw [R7'.out.cell (by omega), HJ.out]; rfl
              have x4 : w7.cell? ⟨vb4, vo4 + j, none⟩ = some (.slice ja jl jc) := by have := cell_later B7.out (vc4 j hjm); rw [HJ.out] at this; exact this
              have SAME : Hid (∀ x, Calls Try.prog 22 #[.slice ja jl jc, .slice ja jl jc] (w7.drewN (q + x)) fun e w'' => e = .returned (.bool true) ∧ ∃ n, w'' = w7.drewN (q + n)) := fun x => by
                have q1 := RB4.out j hjm
                rw [HJ.out] at q1
                have q2 : Rd (w7.drewN (q + x)) ja jl (fun t => .int .u8 (bf j t)) := (q1.2.later B7.out).alike ⟨rfl, rfl, rfl⟩
                refine (same_any ja ja jl jc jc (bf j) _ Iff.rfl q1.1 q2 q2).mono ?_
                rintro e w'' ⟨he, mm, rfl⟩
                exact ⟨he, x + mm, by rw [World.drewN_drewN, Nat.add_assoc]⟩
              clear kc4 vc4
              have hji : (j : Int) < (m : Int) := by omega
              have hj1 : (j : Int) < (m : Int) + 1 := by omega
              go_wp2_with fail
              go_quiet ((go_at_call 22; exact SAME.out _))
              go_wp2_with fail
              go_roundw
              case rel => exact ⟨j + 1, _, by omega, by go_num, rfl⟩
              case measure => simp [intOf]; omega
            · have hji : ¬ (j : Int) < (m : Int) := by omega
              have x1 : w7.cell? ⟨gk, m, none⟩ = some (.string K) := by rw [R7.out.cell (by omega), HK.out]
              have x3 : w7.cell? ⟨gv, m, none⟩ = some (.slice za zl zc) := by rw [R7'.out.cell (by omega), UM.out]; rfl
              have SAME : Hid (∀ x, Calls Try.prog 22 #[.slice za zl zc, .slice za zl zc] (w7.drewN x) fun e w'' => e = .returned (.bool true) ∧ ∃ n, w'' = w7.drewN n) := fun x => by
                have q2 : Rd (w7.drewN x) za zl (fun t => .int .u8 (xf t)) := (RZ4.out.later B7.out).alike ⟨rfl, rfl, rfl⟩
                refine (same_any za za zl zc zc xf _ Iff.rfl zle' q2 q2).mono ?_
                rintro e w'' ⟨he, mm, rfl⟩
                exact ⟨he, x + mm, by rw [World.drewN_drewN]⟩
              clear hj hjm
              go_wp2_with fail
              refine (SAME.out _).mono ?_
              rintro e wz ⟨rfl, q', hz⟩
              have B8 : Hid (Below w0.heap.size w0 wz) := by rw [hz]; exact below_drewN (B4.out.trans (B7.out.mono B4.out.size)) _
              have IDX : Hid (IdxAt wz bm kf (m + 1)) := by rw [hz]; exact (WS7.out.2 bm rfl).2.of_block rfl
              have RZ : Hid (∀ j, j < m + 1 → wz.cell? ⟨gk, j, none⟩ = some (.string (kf j))) := fun j hj => by rw [hz]; exact R7.out.cell hj
              have hln : (Builtin.len_ #[41] 3 #[.map (some bm)]).run Try.prog wz = .ok (.int .i64 ((m : Int) + 1)) wz := by
                have := IDX.out.len AP.out 3
                simpa using this
              clear hz SAME x1 x3
              go_wp2_with fail
              go_loop [24] (fun i => ∃ j : Nat, j ≤ m + 1 ∧ i = .int .i64 j) (fun i => m + 1 - (intOf i).toNat)
              case atStart => exact ⟨0, Nat.zero_le _, rfl⟩
              case round =>
                obtain ⟨j, hj, rfl⟩ := hrel
                by_cases hjm : j < m + 1
                · have y1 : wz.cell? ⟨gk, j, none⟩ = some (.string (kf j)) := RZ.out j hjm
                  have hlk : (Instr.lookup 41 (.map (some bm)) (.string (kf j)) true).run Try.prog wz = .ok (.tuple #[.int .i64 (j : Int), .bool true]) wz := IDX.out.look AP.out hjm (KS.out j hjm)
                  have hj1 : (j : Int) < (m : Int) + 1 := by omega
                  go_wp2_with fail
                  go_round
                  case rel => exact ⟨j + 1, by omega, by go_num⟩
                  case measure => simp [intOf]; omega
                · have hj1 : ¬ (j : Int) < (m : Int) + 1 := by omega
                  go_wp2_with fail
                  go_ret
                  exact ⟨rfl, B8.out⟩
      | true =>
        go_wp2_with fail
        go_loopw [16] (fun i wr => ∃ k : Nat, k ≤ m ∧ i = .int .i64 k ∧ Hid (IdxAt wr w4.heap.size kf k) ∧ Hid (Below w4.heap.size w4 wr)) (fun i _ => m - (intOf i).toNat)
        case atStart => exact ⟨0, Nat.zero_le _, rfl, IdxAt.made _ _, (Below.refl _ _).alloc (Nat.le_refl _) _⟩
        case round =>
          obtain ⟨k, hk, rfl, HS, HB⟩ := hrel
          by_cases hlt : k < m
          · obtain ⟨kb4, ko4, rfl, hkb, kc4⟩ := RK4.out.at (by omega)
            have c1 : wr.cell? ⟨kb4, ko4 + k, none⟩ = some (.string (kf k)) := cell_later HB.out (kc4 k hlt)
            clear kc4
            obtain ⟨w2, hup, hs2, hg2⟩ := HS.out.store (KS.out k (by omega)) (by omega)
            have HS2 : Hid (IdxAt w2 w4.heap.size kf (k + 1)) := hs2
            have HB2 : Hid (Below w4.heap.size w4 w2) := HB.out.grown hg2 HB.out.size (fun j hj => by cases hj; exact Nat.le_refl _)
            clear hs2 hg2 HS HB
            go_wp2_with fail
            go_roundw
            case rel => exact ⟨k + 1, by omega, by go_num, HS2, HB2⟩
            case measure => simp [intOf]; omega
          · have HSM : Hid (IdxAt wr w4.heap.size kf m) := by have := HS.out; rwa [show k = m by omega] at this
            clear HS
            go_wp2_with fail
            refine (zzof_any _ m _ _ _ (some w4.heap.size) kf u w4 _ HB.out (by omega) RK4.out RV4.out (fun bm hbm => by cases hbm; exact ⟨Nat.le_refl _, HSM.out⟩)).mono ?_
            rintro e w5 ⟨P, rfl, ws5, b5⟩
            have WS5 : Hid (WS w4.heap.size kf u w5 P m (some w4.heap.size)) := ws5
            have B5 : Hid (Below w4.heap.size w4 w5) := Below.trans HB.out b5
            clear ws5 b5
            go_wp2_with fail
            refine (zzadd w4.heap.size P m (some w4.heap.size) kf u K za zl zc _ WS5.out HK.out UM.out (by omega) B5.out.size KS.out).mono ?_
            rintro e w6 ⟨rfl, idx', q1, q2, q3⟩
            have WS6 : Hid (WS w4.heap.size kf u w6 P (m + 1) idx') := q1
            have I6 : Hid (idx' = none ↔ (some w4.heap.size) = none ∧ m + 1 ≤ 16) := q2
            have B6 : Hid (Below w4.heap.size w4 w6) := B5.out.trans q3
            clear q1 q2 q3 WS5 B5
            go_wp2_with fail
            refine (zzview w4.heap.size P (m + 1) idx' kf u _ WS6.out (by omega)).mono ?_
            rintro e w7 ⟨gk, gv, rfl, le7, le7', r7, r7', b7⟩
            have R7 : Hid (w7.rowIs gk 9 (m + 1) (fun j => .string (kf j))) := r7
            have R7' : Hid (w7.rowIs gv 37 (m + 1) (fun j => (u j).val)) := r7'
            have B7 : Hid (Below w4.heap.size w4 w7) := B6.out.trans (b7.mono B6.out.size)
            have WS7 : Hid (WS w4.heap.size kf u w7 P (m + 1) idx') := WS6.out.later b7
            clear r7 r7' b7 WS6 B6 le7 le7'
            cases idx' with
            | none => exact absurd (I6.out.1 rfl).1 (by simp)
            | some bm =>
              clear I6
              go_wp2_with fail
              go_loopw [22] (fun i wq => ∃ (j q : Nat), j ≤ m ∧ i = .int .i64 j ∧ wq = w7.drewN q) (fun i _ => m - (intOf i).toNat)
              case atStart => exact ⟨0, 0, Nat.zero_le _, rfl, rfl⟩
              case round =>
                obtain ⟨j, q, hj, rfl, rfl⟩ := hrel
                by_cases hjm : j < m
                · obtain ⟨ja, jl, jc, HJ⟩ : ∃ ja jl jc, Hid (u j = ⟨ja, jl, jc⟩) := ⟨_, _, _, rfl⟩
                  obtain ⟨kb4, ko4, rfl, _, kc4⟩ := RK4.out.at (by omega)
                  obtain ⟨vb4, vo4, rfl, _, vc4⟩ := RV4.out.at (by omega)
                  have x1 : w7.cell? ⟨gk, j, none⟩ = some (.string (kf j)) := R7.out.cell (by omega)
                  have x2 : w7.cell? ⟨kb4, ko4 + j, none⟩ = some (.string (kf j)) := cell_later B7.out (kc4 j hjm)
                  have x3 : w7.cell? ⟨gv, j, none⟩ = some (.slice ja jl jc) := by rw [R7'.out.cell (by omega), HJ.out]; rfl
                  have x4 : w7.cell? ⟨vb4, vo4 + j, none⟩ = some (.slice ja jl jc) := by have := cell_later B7.out (vc4 j hjm); rw [HJ.out] at this; exact this
                  have SAME : Hid (∀ x, Calls Try.prog 22 #[.slice ja jl jc, .slice ja jl jc] (w7.drewN (q + x)) fun e w'' => e = .returned (.bool true) ∧ ∃ n, w'' = w7.drewN (q + n)) := fun x => by
                    have q1 := RB4.out j hjm
                    rw [HJ.out] at q1
                    have q2 : Rd (w7.drewN (q + x)) ja jl (fun t => .int .u8 (bf j t)) := (q1.2.later B7.out).alike ⟨rfl, rfl, rfl⟩
                    refine (same_any ja ja jl jc jc (bf j) _ Iff.rfl q1.1 q2 q2).mono ?_
                    rintro e w'' ⟨he, mm, rfl⟩
                    exact ⟨he, x + mm, by rw [World.drewN_drewN, Nat.add_assoc]⟩
                  clear kc4 vc4
                  have hji : (j : Int) < (m : Int) := by omega
                  have hj1 : (j : Int) < (m : Int) + 1 := by omega
                  go_wp2_with fail
                  go_quiet ((go_at_call 22; exact SAME.out _))
                  go_wp2_with fail
                  go_roundw
                  case rel => exact ⟨j + 1, _, by omega, by go_num, rfl⟩
                  case measure => simp [intOf]; omega
                · have hji : ¬ (j : Int) < (m : Int) := by omega
                  have x1 : w7.cell? ⟨gk, m, none⟩ = some (.string K) := by rw [R7.out.cell (by omega), HK.out]
                  have x3 : w7.cell? ⟨gv, m, none⟩ = some (.slice za zl zc) := by rw [R7'.out.cell (by omega), UM.out]; rfl
                  have SAME : Hid (∀ x, Calls Try.prog 22 #[.slice za zl zc, .slice za zl zc] (w7.drewN x) fun e w'' => e = .returned (.bool true) ∧ ∃ n, w'' = w7.drewN n) := fun x => by
                    have q2 : Rd (w7.drewN x) za zl (fun t => .int .u8 (xf t)) := (RZ4.out.later B7.out).alike ⟨rfl, rfl, rfl⟩
                    refine (same_any za za zl zc zc xf _ Iff.rfl zle' q2 q2).mono ?_
                    rintro e w'' ⟨he, mm, rfl⟩
                    exact ⟨he, x + mm, by rw [World.drewN_drewN]⟩
                  clear hj hjm
                  go_wp2_with fail
                  refine (SAME.out _).mono ?_
                  rintro e wz ⟨rfl, q', hz⟩
                  have B8 : Hid (Below w0.heap.size w0 wz) := by rw [hz]; exact below_drewN (B4.out.trans (B7.out.mono B4.out.size)) _
                  have IDX : Hid (IdxAt wz bm kf (m + 1)) := by rw [hz]; exact (WS7.out.2 bm rfl).2.of_block rfl
                  have RZ : Hid (∀ j, j < m + 1 → wz.cell? ⟨gk, j, none⟩ = some (.string (kf j))) := fun j hj => by rw [hz]; exact R7.out.cell hj
                  have hln : (Builtin.len_ #[41] 3 #[.map (some bm)]).run Try.prog wz = .ok (.int .i64 ((m : Int) + 1)) wz := by
                    have := IDX.out.len AP.out 3
                    simpa using this
                  clear hz SAME x1 x3
                  go_wp2_with fail
                  go_loop [24] (fun i => ∃ j : Nat, j ≤ m + 1 ∧ i = .int .i64 j) (fun i => m + 1 - (intOf i).toNat)
                  case atStart => exact ⟨0, Nat.zero_le _, rfl⟩
                  case round =>
                    obtain ⟨j, hj, rfl⟩ := hrel
                    by_cases hjm : j < m + 1
                    · have y1 : wz.cell? ⟨gk, j, none⟩ = some (.string (kf j)) := RZ.out j hjm
                      have hlk : (Instr.lookup 41 (.map (some bm)) (.string (kf j)) true).run Try.prog wz = .ok (.tuple #[.int .i64 (j : Int), .bool true]) wz := IDX.out.look AP.out hjm (KS.out j hjm)
                      have hj1 : (j : Int) < (m : Int) + 1 := by omega
                      go_wp2_with fail
                      go_round
                      case rel => exact ⟨j + 1, by omega, by go_num⟩
                      case measure => simp [intOf]; omega
                    · have hj1 : ¬ (j : Int) < (m : Int) + 1 := by omega
                      go_wp2_with fail
                      go_ret
                      exact ⟨rfl, B8.out⟩
end Go.Proofs.Qxb6602653a
