/-
  The walk of FnProbeGivesNearestStopInProbeOrder (function 3) where there is no key; the bounds that say no; every input.
-/
import Derived.Test.Qxb6602653aNearest
namespace Go.Proofs.Qxb6602653a
open Go.RowKit
set_option linter.unusedVariables false

set_option maxHeartbeats 2000000 in
set_option maxRecDepth 100000 in
theorem near_none (ka : Option Addr) (m kc : Nat) (va : Option Addr) (vn vc : Nat) (sb so n sc : Nat) (H : Nat) (K : ByteArray) (kf : Nat → ByteArray) (vf : Nat → Sl) (bf : Nat → Nat → Int) (sf : Nat → Nat) (w : World)
    (hm0 : m ≤ 0) (h1 : ¬ 1048576 < (m : Int)) (h2 : ¬ 1048576 < (vn : Int)) (h3 : ¬ 131072 < (n : Int)) (h4 : ¬ 1048576 < (K.size : Int)) (hn0 : 0 < n)
    (POW : Hid (∃ L, n = 2 ^ L)) (hand : bits .and .i64 (n : Int) ((n : Int) - 1) = 0) (hH : H < 18446744073709551616)
    (rk : Rd w ka m (fun i => .string (kf i))) (rv : Rd w va vn (fun i => (vf i).val)) (rb : ∀ i, i < vn → Rd w (vf i).ad (vf i).len (fun j => .int .u8 (bf i j)))
    (rs : ∀ i, i < n → w.cell? ⟨sb, so + i, none⟩ = some (.int .u64 (sf i : Int))) (ws : ∀ i, i < n → sf i < 18446744073709551616) :
    Calls Try.prog 3 #[.slice ka m kc, .slice va vn vc, .slice (some ⟨sb, so, none⟩) n sc, .int .u64 (H : Int), .string K] w (TrueEnd w) := by
  have RK : Hid (Rd w ka m (fun i => .string (kf i))) := rk
  have RV : Hid (Rd w va vn (fun i => (vf i).val)) := rv
  have RB : Hid (∀ i, i < vn → Rd w (vf i).ad (vf i).len (fun j => .int .u8 (bf i j))) := rb
  have RS : Hid (∀ i, i < n → w.cell? ⟨sb, so + i, none⟩ = some (.int .u64 (sf i : Int))) := rs
  have WS : Hid (∀ i, i < n → sf i < 18446744073709551616) := ws
  clear rk rv rb rs ws
  have ne0 : ((n : Int) == 0) = false := by simp; omega
  go_enter Try.func3, Try.ntmps3
  go_wp2_with fail
  refine (zz9 _ m kc kf _ vn vc vf _ _ _ _ _ _ RK.out RV.out).mono ?_
  rintro e w0 ⟨b, rfl, rfl⟩
  cases b
  · go_wp2_with fail
    go_ret
    exact ⟨rfl, Below.refl _ _⟩
  go_wp2_with fail
  refine (strFit _ _ m kc kf _ (by omega) (by omega) (by unfold maxLen; omega) RK.out).mono ?_
  rintro e w0 ⟨t, b, rfl, rfl, ht0, ht1, -⟩
  cases b
  · go_wp2_with fail
    go_ret
    exact ⟨rfl, Below.refl _ _⟩
  go_wp2_with fail
  refine (bytFit _ _ vn vc vf _ ht0 ht1 (by unfold maxLen; omega) RV.out).mono ?_
  rintro e w0 ⟨t2, b, rfl, rfl, ht20, ht21, hlen⟩
  cases b
  · go_wp2_with fail
    go_ret
    exact ⟨rfl, Below.refl _ _⟩
  have LEN : Hid (∀ i, i < vn → (vf i).len ≤ 1048576) := hlen rfl
  clear hlen
  go_wp2_with fail
  obtain ⟨yH, hyH⟩ : ∃ y : Int, (H : Int) / 4294967296 = y := ⟨_, rfl⟩
  have HYH : Hid (((H / 4294967296 : Nat) : Int) = yH) := by rw [← hyH]; show ((H / 4294967296 : Nat) : Int) = _; omega
  go_loop [14, 15] (fun b i => ∃ (k : Nat) (e : Bool), k ≤ n ∧ i = .int .i64 k ∧ b = .bool e ∧ Hid (Scan sf H m k e)) (fun _ i => n - (intOf i).toNat)
  case atStart => exact ⟨0, false, Nat.zero_le _, rfl, rfl, Scan.start _ _ _⟩
  case round =>
    obtain ⟨k, e, hk, rfl, rfl, SC⟩ := hrel
    by_cases hlt : k < n
    · obtain ⟨s, hs, HSF⟩ : ∃ s : Nat, w0.cell? ⟨sb, so + k, none⟩ = some (.int .u64 (s : Int)) ∧ Hid (sf k = s) := ⟨_, RS.out k hlt, rfl⟩
      have hsw : s < 18446744073709551616 := by rw [← HSF.out]; exact WS.out k hlt
      by_cases h0 : s = 0
      · have e0 : ((s : Int) == 0) = true := by simp [h0]
        have NX : Hid (Scan sf H m (k + 1) true) := SC.out.zero (by rw [HSF.out, h0])
        clear h0
        go_wp2_with fail
        go_round
        case rel => exact ⟨k + 1, true, by omega, by go_num, rfl, NX⟩
        case measure => simp [intOf]; omega
      · have e0 : ((s : Int) == 0) = false := by simp; exact h0
        obtain ⟨y, hy⟩ : ∃ y : Int, (s : Int) / 4294967296 = y := ⟨_, rfl⟩
        have HY : Hid (((s / 4294967296 : Nat) : Int) = y) := by rw [← hy]; show ((s / 4294967296 : Nat) : Int) = _; omega
        by_cases hhi : s / 4294967296 = H / 4294967296
        · have eyy : y = yH := by rw [← HY.out, ← HYH.out, hhi]
          subst eyy
          obtain ⟨l, hlow, HLO⟩ : ∃ l : Nat, bits .and .u64 (s : Int) 4294967295 = (l : Int) ∧ Hid (s % 4294967296 = l) := ⟨_, bits_low s hsw, rfl⟩
          by_cases hl0 : l = 0
          · have e1 : ((l : Int) == 0) = true := by simp [hl0]
            clear hl0
            go_wp2_with fail
            go_ret
            exact ⟨rfl, Below.refl _ _⟩
          · have e1 : ((l : Int) == 0) = false := by simp; exact hl0
            by_cases hlm : m < l
            · go_wp2_with fail
              go_ret
              exact ⟨rfl, Below.refl _ _⟩
            · have NX : Hid (Scan sf H m (k + 1) e) := SC.out.other (by rw [HSF.out]; exact h0) (fun _ => by rw [HSF.out, HLO.out]; omega)
              go_wp2_with fail
              go_round
              case rel => exact ⟨k + 1, e, by omega, by go_num, rfl, NX⟩
              case measure => simp [intOf]; omega
        · have eyy : (y == yH) = false := by
            rw [beq_eq_false_iff_ne, ← HY.out, ← HYH.out]
            intro h
            apply hhi
            omega
          have NX : Hid (Scan sf H m (k + 1) e) := SC.out.other (by rw [HSF.out]; exact h0) (fun q => absurd (by rw [HSF.out] at q; exact q) hhi)
          clear hhi h0
          go_wp2_with fail
          go_round
          case rel => exact ⟨k + 1, e, by omega, by go_num, rfl, NX⟩
          case measure => simp [intOf]; omega
    · have SN : Hid (Scan sf H m n e) := by have := SC.out; rwa [show k = n by omega] at this
      clear SC
      cases e
      · go_wp2_with fail
        go_ret
        exact ⟨rfl, Below.refl _ _⟩
      go_wp2_with fail
      refine (cloneS_len ka m kc kf _ (by omega) RK.out).mono ?_
      rintro e w2 ⟨sa, sc2, rfl, b2⟩
      have B2 : Hid (Below w0.heap.size w0 w2) := b2
      have RV2 : Hid (Rd w2 va vn (fun i => (vf i).val)) := RV.out.later b2
      have RB2 : Hid (∀ i, i < vn → Rd w2 (vf i).ad (vf i).len (fun j => .int .u8 (bf i j))) := fun i hi => (RB.out i hi).later b2
      clear b2
      go_wp2_with fail
      refine (cloneA_len va vn vc vf bf _ (by omega) RV2.out LEN.out RB2.out).mono ?_
      rintro e w3 ⟨xa, xc, rfl, b3⟩
      have B3 : Hid (Below w0.heap.size w0 w3) := B2.out.trans (b3.mono B2.out.size)
      have RS3 : Hid (Rd w3 (some ⟨sb, so, none⟩) n (fun i => .int .u64 (sf i : Int))) := (Rd.mk RS.out).later B3.out
      clear b3 B2 RV2 RB2
      go_wp2_with fail
      refine (cloneW_g _ n sc (fun i => (sf i : Int)) _ (by omega) RS3.out).mono ?_
      rintro e w4 ⟨gs, rfl, le4, r4, b4⟩
      have RS4 : Hid (w4.rowIs gs 25 n (fun j => .int .u64 (sf j : Int))) := r4
      have B4 : Hid (Below w0.heap.size w0 w4) := B3.out.trans (b4.mono B3.out.size)
      clear r4 b4 B3 RS3
      obtain ⟨hm, hmask, HM⟩ : ∃ hm : Nat, bits .and .u64 (H : Int) ((n : Int) - 1) = (hm : Int) ∧ Hid (H % n = hm) := by
        obtain ⟨L, hL⟩ := POW.out
        exact ⟨_, bits_mask H n L hH hL (by omega), rfl⟩
      have hmn : hm < n := by rw [← HM.out]; exact Nat.mod_lt _ hn0
      go_wp2_with fail
      go_loop [20, 21, 22, 23] (fun a d f i => ∃ (k : Nat) (wv dv : Int) (fv : Bool), k ≤ n ∧ i = .int .i64 k ∧ a = .int .i64 wv ∧ d = .int .u64 dv ∧ f = .bool fv ∧
          Hid ((wv = -1 ∧ ∀ j, j < k → ¬ Stop sf kf H K j) ∨ ∃ b : Nat, wv = b ∧ Best sf kf H K n k b ∧ dv = dist H n b ∧ fv = decide (sf b ≠ 0))) (fun _ _ _ i => n - (intOf i).toNat)
      case atStart => exact ⟨0, -1, 0, false, Nat.zero_le _, rfl, rfl, rfl, rfl, .inl ⟨rfl, fun j hj => by omega⟩⟩
      case round =>
        obtain ⟨k, wv, dv, fv, hk, rfl, rfl, rfl, rfl, BST⟩ := hrel
        by_cases hlt : k < n
        · obtain ⟨s, hs, HSF⟩ : ∃ s : Nat, w4.cell? ⟨gs, k, none⟩ = some (.int .u64 (s : Int)) ∧ Hid (sf k = s) := ⟨_, RS4.out.cell hlt, rfl⟩
          have hsw : s < 18446744073709551616 := by rw [← HSF.out]; exact WS.out k hlt
          obtain ⟨dk, hdist, HDK⟩ : ∃ dk : Nat, bits .and .u64 (IntKind.u64.wrap ((k : Int) - (hm : Int))) ((n : Int) - 1) = (dk : Int) ∧ Hid (dist H n k = dk) := by
            obtain ⟨L, hL⟩ := POW.out
            exact ⟨_, dist_bits H k n L hm hlt hL (by omega) HM.out, rfl⟩
          by_cases h0 : s = 0
          · have e0 : ((s : Int) == 0) = true := by simp [h0]
            have H0 : Hid (s = 0) := h0
            clear h0
            have STP : Stop sf kf H K k := .inl (by rw [HSF.out, H0.out])
            have HMT : Hid (decide (sf k ≠ 0) = false) := by
              rw [HSF.out, H0.out]; rfl
            rcases BST.out with ⟨rfl, hno⟩ | ⟨b, rfl, hb, hdv, hfv⟩
            · have NX : Hid (Best sf kf H K n (k + 1) k) := Best.first hno STP
              clear hno STP BST
              go_wp2_with fail
              go_round
              case rel => exact ⟨k + 1, k, dk, false, by omega, by go_num, rfl, rfl, rfl, .inr ⟨k, rfl, NX.out, by rw [HDK.out], HMT.out.symm⟩⟩
              case measure => simp [intOf]; omega
            · obtain ⟨db, hdb⟩ : ∃ db : Nat, dist H n b = db := ⟨_, rfl⟩
              rw [hdb] at hdv
              subst hdv
              have HDB : Hid (dist H n b = db) := hdb
              have HFV : Hid (fv = decide (sf b ≠ 0)) := hfv
              clear hfv
              by_cases hd : dk < db
              · have NX : Hid (Best sf kf H K n (k + 1) k) := hb.next STP (by rw [HDK.out, HDB.out]; exact hd)
                clear hb STP BST hdb
                go_wp2_with fail
                go_round
                case rel => exact ⟨k + 1, k, dk, false, by omega, by go_num, rfl, rfl, rfl, .inr ⟨k, rfl, NX.out, by rw [HDK.out], HMT.out.symm⟩⟩
                case measure => simp [intOf]; omega
              · have NX : Hid (Best sf kf H K n (k + 1) b) := hb.stay (fun _ => by rw [HDK.out, HDB.out]; omega)
                clear hb STP BST hdb
                go_wp2_with fail
                go_round
                case rel => exact ⟨k + 1, b, db, fv, by omega, by go_num, rfl, rfl, rfl, .inr ⟨b, rfl, NX.out, by rw [HDB.out], HFV.out⟩⟩
                case measure => simp [intOf]; omega
          · have e0 : ((s : Int) == 0) = false := by simp; exact h0
            have HN0 : Hid (s ≠ 0) := h0
            obtain ⟨y, hy⟩ : ∃ y : Int, (s : Int) / 4294967296 = y := ⟨_, rfl⟩
            have HY : Hid (((s / 4294967296 : Nat) : Int) = y) := by rw [← hy]; show ((s / 4294967296 : Nat) : Int) = _; omega
            by_cases hhi : s / 4294967296 = H / 4294967296
            · have eyy : y = yH := by rw [← HY.out, ← HYH.out, hhi]
              subst eyy
              have hl := SN.out.2 k hlt (by rw [HSF.out]; exact h0) (by rw [HSF.out]; exact hhi)
              rw [HSF.out] at hl
              exfalso
              omega
            · have eyy : (y == yH) = false := by
                rw [beq_eq_false_iff_ne, ← HY.out, ← HYH.out]
                intro h
                apply hhi
                omega
              have HHN : Hid (¬ s / 4294967296 = H / 4294967296) := hhi
              clear hhi h0
              have NS : ¬ Stop sf kf H K k := by
                rintro (q | ⟨q, _⟩)
                · exact HN0.out (by rw [← HSF.out]; exact q)
                · rw [HSF.out] at q
                  exact HHN.out q
              have NX : Hid ((wv = -1 ∧ ∀ j, j < k + 1 → ¬ Stop sf kf H K j) ∨ ∃ b : Nat, wv = b ∧ Best sf kf H K n (k + 1) b ∧ dv = dist H n b ∧ fv = decide (sf b ≠ 0)) := by
                rcases BST.out with ⟨q1, hno⟩ | ⟨b, q1, hb, q2, q3⟩
                · refine .inl ⟨q1, fun j hj => ?_⟩
                  by_cases q : j = k
                  · subst q; exact NS
                  · exact hno j (by omega)
                · exact .inr ⟨b, q1, hb.stay (fun q => absurd q NS), q2, q3⟩
              clear NS BST
              go_wp2_with fail
              go_round
              case rel => exact ⟨k + 1, wv, dv, fv, by omega, by go_num, rfl, rfl, rfl, NX⟩
              case measure => simp [intOf]; omega
        · obtain ⟨j0, hj0, hz0⟩ := SN.out.1.1 rfl
          have BN : ∃ b : Nat, wv = b ∧ Best sf kf H K n n b ∧ fv = decide (sf b ≠ 0) := by
            have q := BST.out
            rw [show k = n by omega] at q
            rcases q with ⟨_, hno⟩ | ⟨b, q1, q2, _, q3⟩
            · exact absurd (.inl hz0) (hno j0 hj0)
            · exact ⟨b, q1, q2, q3⟩
          obtain ⟨b, rfl, hbest, hfv⟩ := BN
          obtain ⟨p1, p2, p3⟩ := hbest.probe
          have CALL : Hid (Calls Try.prog 15 #[.slice sa m sc2, .slice xa vn xc, .slice (some ⟨gs, 0, none⟩) n n, .int .u64 (H : Int), .string K] w4 fun e w' => e = .returned (.tuple #[.int .i64 (b : Int), .bool fv]) ∧ Below w4.heap.size w4 w') := by
            have hp : Prb w4 sa m sc2 gs 0 n H K kf sf (dist H n b) :=
              ⟨POW.out, by omega, by omega, hH, (fun i hi => absurd hi (by omega)), fun i hi => by rw [Nat.zero_add]; exact RS4.out.cell hi, WS.out, SN.out.2, p1, by rw [p2]; exact hbest.2.1, p3⟩
            have := zzprobe sa m sc2 xa vn xc gs 0 n n H K kf sf (dist H n b) w4 hp fv (by rw [p2]; exact hfv)
            rw [p2] at this
            exact this
          clear hbest hfv p1 p2 p3 BST hz0 hj0
          go_wp2_with fail
          refine CALL.out.mono ?_
          rintro e w9 ⟨rfl, hb9⟩
          have B9 : Hid (Below w0.heap.size w0 w9) := B4.out.trans (hb9.mono B4.out.size)
          clear hb9
          go_wp2_with fail
          go_ret
          exact ⟨by simp, B9.out⟩

set_option maxHeartbeats 1000000 in
set_option maxRecDepth 100000 in
theorem near_big (ka : Option Addr) (m kc : Nat) (va : Option Addr) (vn vc : Nat) (sa : Option Addr) (n sc : Nat) (H : Int) (K : ByteArray) (kf : Nat → ByteArray) (vf : Nat → Sl) (w : World)
    (hbig : 1048576 < (m : Int) ∨ (¬ 1048576 < (m : Int) ∧ 1048576 < (vn : Int)) ∨ (¬ 1048576 < (m : Int) ∧ ¬ 1048576 < (vn : Int) ∧ 131072 < (n : Int)) ∨ (¬ 1048576 < (m : Int) ∧ ¬ 1048576 < (vn : Int) ∧ ¬ 131072 < (n : Int) ∧ 1048576 < (K.size : Int)))
    (rk : Rd w ka m (fun i => .string (kf i))) (rv : Rd w va vn (fun i => (vf i).val)) :
    Calls Try.prog 3 #[.slice ka m kc, .slice va vn vc, .slice sa n sc, .int .u64 H, .string K] w (TrueEnd w) := by
  have RK : Hid (Rd w ka m (fun i => .string (kf i))) := rk
  have RV : Hid (Rd w va vn (fun i => (vf i).val)) := rv
  clear rk rv
  rcases hbig with h1 | ⟨h1, h2⟩ | ⟨h1, h2, h3⟩ | ⟨h1, h2, h3, h4⟩
  all_goals
    go_enter Try.func3, Try.ntmps3
    go_wp2_with fail
    refine (zz9 _ m kc kf _ vn vc vf _ _ _ _ _ _ RK.out RV.out).mono ?_
    rintro e w0 ⟨b, rfl, rfl⟩
    cases b
    all_goals
      go_wp2_with fail
      go_ret
      exact ⟨rfl, Below.refl _ _⟩

set_option maxHeartbeats 1000000 in
set_option maxRecDepth 100000 in
theorem near_off (ka : Option Addr) (m kc : Nat) (va : Option Addr) (vn vc : Nat) (sa : Option Addr) (n sc : Nat) (H : Int) (K : ByteArray) (kf : Nat → ByteArray) (vf : Nat → Sl) (w : World)
    (h1 : ¬ 1048576 < (m : Int)) (h2 : ¬ 1048576 < (vn : Int)) (h3 : ¬ 131072 < (n : Int)) (h4 : ¬ 1048576 < (K.size : Int))
    (hoff : ((n : Int) == 0) = true ∨ (((n : Int) == 0) = false ∧ (bits .and .i64 (n : Int) ((n : Int) - 1) != 0) = true))
    (rk : Rd w ka m (fun i => .string (kf i))) (rv : Rd w va vn (fun i => (vf i).val)) :
    Calls Try.prog 3 #[.slice ka m kc, .slice va vn vc, .slice sa n sc, .int .u64 H, .string K] w (TrueEnd w) := by
  have RK : Hid (Rd w ka m (fun i => .string (kf i))) := rk
  have RV : Hid (Rd w va vn (fun i => (vf i).val)) := rv
  clear rk rv
  rcases hoff with h5 | ⟨h5, h6⟩
  all_goals
    go_enter Try.func3, Try.ntmps3
    go_wp2_with fail
    refine (zz9 _ m kc kf _ vn vc vf _ _ _ _ _ _ RK.out RV.out).mono ?_
    rintro e w0 ⟨b, rfl, rfl⟩
    cases b
    · go_wp2_with fail
      go_ret
      exact ⟨rfl, Below.refl _ _⟩
    go_wp2_with fail
    refine (strFit _ _ m kc kf _ (by omega) (by omega) (by unfold maxLen; omega) RK.out).mono ?_
    rintro e w0 ⟨t, b, rfl, rfl, ht0, ht1, -⟩
    cases b
    · go_wp2_with fail
      go_ret
      exact ⟨rfl, Below.refl _ _⟩
    go_wp2_with fail
    refine (bytFit _ _ vn vc vf _ ht0 ht1 (by unfold maxLen; omega) RV.out).mono ?_
    rintro e w0 ⟨t2, b, rfl, rfl, ht20, ht21, -⟩
    cases b
    all_goals
      go_wp2_with fail
      go_ret
      exact ⟨rfl, Below.refl _ _⟩

theorem near (ka : Option Addr) (m kc : Nat) (va : Option Addr) (vn vc : Nat) (sa : Option Addr) (n sc : Nat) (H : Int) (K : ByteArray) (kf : Nat → ByteArray) (vf : Nat → Sl) (bf : Nat → Nat → Int) (sf : Nat → Nat) (w : World)
    (hH0 : 0 ≤ H) (hH : H ≤ 18446744073709551615)
    (rk : Rd w ka m (fun i => .string (kf i))) (rv : Rd w va vn (fun i => (vf i).val)) (rb : ∀ i, i < vn → Rd w (vf i).ad (vf i).len (fun j => .int .u8 (bf i j)))
    (rs : Rd w sa n (fun i => .int .u64 (sf i : Int))) (ws : ∀ i, i < n → sf i < 18446744073709551616) :
    Calls Try.prog 3 #[.slice ka m kc, .slice va vn vc, .slice sa n sc, .int .u64 H, .string K] w (TrueEnd w) := by
  by_cases h1 : 1048576 < (m : Int)
  · exact near_big ka m kc va vn vc sa n sc H K kf vf w (.inl h1) rk rv
  by_cases h2 : 1048576 < (vn : Int)
  · exact near_big ka m kc va vn vc sa n sc H K kf vf w (.inr (.inl ⟨h1, h2⟩)) rk rv
  by_cases h3 : 131072 < (n : Int)
  · exact near_big ka m kc va vn vc sa n sc H K kf vf w (.inr (.inr (.inl ⟨h1, h2, h3⟩))) rk rv
  by_cases h4 : 1048576 < (K.size : Int)
  · exact near_big ka m kc va vn vc sa n sc H K kf vf w (.inr (.inr (.inr ⟨h1, h2, h3, h4⟩))) rk rv
  by_cases h5 : n = 0
  · exact near_off ka m kc va vn vc sa n sc H K kf vf w h1 h2 h3 h4 (.inl (by simp [h5])) rk rv
  have e1 : bits .and .i64 (n : Int) ((n : Int) - 1) = ((n &&& (n - 1) : Nat) : Int) := by
    have := i64_and_nat n (n - 1) (by omega) (by omega)
    rwa [show ((n - 1 : Nat) : Int) = (n : Int) - 1 by omega] at this
  by_cases h6 : n &&& (n - 1) = 0
  · obtain ⟨H', rfl⟩ := Int.eq_ofNat_of_zero_le hH0
    obtain ⟨b, o, rfl, _, hc⟩ := rs.at (by omega)
    have hp := pow_of_and n (by omega) h6
    rw [h6] at e1
    by_cases h7 : 0 < m
    · obtain ⟨b1, o1, rfl, _, _⟩ := rk.at h7
      exact near_main _ m kc va vn vc b o n sc H' K kf vf bf sf w h7 h1 h2 h3 h4 (by omega) hp e1 (by omega) rk rv rb hc ws
    · exact near_none ka m kc va vn vc b o n sc H' K kf vf bf sf w (by omega) h1 h2 h3 h4 (by omega) hp e1 (by omega) rk rv rb hc ws
  · exact near_off ka m kc va vn vc sa n sc H K kf vf w h1 h2 h3 h4 (.inr ⟨by simp; exact h5, by rw [e1, bne_iff_ne]; omega⟩) rk rv
end Go.Proofs.Qxb6602653a
