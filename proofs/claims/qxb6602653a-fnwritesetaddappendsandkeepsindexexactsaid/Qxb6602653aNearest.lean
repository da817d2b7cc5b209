/-
  The walk of FnProbeGivesNearestStopInProbeOrder (function 3), out of its callees' contracts.
-/
import Derived.Test.Qxb6602653aLastParts
import Derived.Test.Qxb6602653aZz
import Derived.Test.Qxb6602653aProbe
import Derived.Test.Qxb6602653aNear
namespace Go.Proofs.Qxb6602653a
open Go.RowKit
set_option linter.unusedVariables false

/-- [][]byte cloned, whatever it was: the length stays. -/
theorem cloneA_len (a : Option Addr) (n c : Nat) (f : Nat → Sl) (g : Nat → Nat → Int) (w : World) (hn : n ≤ 1048576) (ha : Rd w a n (fun i => (f i).val))
    (hl : ∀ i, i < n → (f i).len ≤ 1048576) (hr : ∀ i, i < n → Rd w (f i).ad (f i).len (fun j => .int .u8 (g i j))) :
    Calls Try.prog 13 #[.slice a n c] w fun e w' => ∃ sa sc, e = .returned (.slice sa n sc) ∧ Below w.heap.size w w' := by
  cases a with
  | none =>
    refine (cloneA_nil n c w).mono ?_
    rintro e w' ⟨rfl, rfl⟩
    have h0 := ha.none_len
    subst h0
    exact ⟨none, 0, rfl, Below.refl _ _⟩
  | some a =>
    refine (cloneA_g a n c f g w hn ha hl hr).mono ?_
    rintro e w' ⟨gV, rfl, _, h, _⟩
    exact ⟨_, _, rfl, h⟩

/-- What the first loop knows of the first k slots. -/
def Scan (sf : Nat → Nat) (H m k : Nat) (e : Bool) : Prop :=
  (e = true ↔ ∃ j, j < k ∧ sf j = 0) ∧ ∀ j, j < k → sf j ≠ 0 → sf j / 4294967296 = H / 4294967296 → 1 ≤ sf j % 4294967296 ∧ sf j % 4294967296 ≤ m
theorem Scan.start (sf : Nat → Nat) (H m : Nat) : Scan sf H m 0 false := ⟨⟨fun h => absurd h (by simp), fun ⟨j, hj, _⟩ => absurd hj (by omega)⟩, fun j hj => absurd hj (by omega)⟩
theorem Scan.zero {sf : Nat → Nat} {H m k : Nat} {e : Bool} (h : Scan sf H m k e) (h0 : sf k = 0) : Scan sf H m (k + 1) true := by
  refine ⟨⟨fun _ => ⟨k, by omega, h0⟩, fun _ => rfl⟩, fun j hj hne hh => ?_⟩
  by_cases q : j = k
  · subst q; exact absurd h0 hne
  · exact h.2 j (by omega) hne hh
theorem Scan.other {sf : Nat → Nat} {H m k : Nat} {e : Bool} (h : Scan sf H m k e) (h0 : sf k ≠ 0) (hv : sf k / 4294967296 = H / 4294967296 → 1 ≤ sf k % 4294967296 ∧ sf k % 4294967296 ≤ m) : Scan sf H m (k + 1) e := by
  refine ⟨⟨fun q => ?_, fun ⟨j, hj, hz⟩ => ?_⟩, fun j hj hne hh => ?_⟩
  · obtain ⟨j, hj, hz⟩ := h.1.1 q; exact ⟨j, by omega, hz⟩
  · by_cases q : j = k
    · subst q; exact absurd hz h0
    · exact h.1.2 ⟨j, by omega, hz⟩
  · by_cases q : j = k
    · subst q; exact hv hh
    · exact h.2 j (by omega) hne hh

set_option maxHeartbeats 2000000 in
set_option maxRecDepth 100000 in
theorem near_main (ka : Addr) (m kc : Nat) (va : Option Addr) (vn vc : Nat) (sb so n sc : Nat) (H : Nat) (K : ByteArray) (kf : Nat → ByteArray) (vf : Nat → Sl) (bf : Nat → Nat → Int) (sf : Nat → Nat) (w : World)
    (hm0 : 0 < m) (h1 : ¬ 1048576 < (m : Int)) (h2 : ¬ 1048576 < (vn : Int)) (h3 : ¬ 131072 < (n : Int)) (h4 : ¬ 1048576 < (K.size : Int)) (hn0 : 0 < n)
    (POW : Hid (∃ L, n = 2 ^ L)) (hand : bits .and .i64 (n : Int) ((n : Int) - 1) = 0) (hH : H < 18446744073709551616)
    (rk : Rd w (some ka) m (fun i => .string (kf i))) (rv : Rd w va vn (fun i => (vf i).val)) (rb : ∀ i, i < vn → Rd w (vf i).ad (vf i).len (fun j => .int .u8 (bf i j)))
    (rs : ∀ i, i < n → w.cell? ⟨sb, so + i, none⟩ = some (.int .u64 (sf i : Int))) (ws : ∀ i, i < n → sf i < 18446744073709551616) :
    Calls Try.prog 3 #[.slice (some ka) m kc, .slice va vn vc, .slice (some ⟨sb, so, none⟩) n sc, .int .u64 (H : Int), .string K] w (TrueEnd w) := by
  have RK : Hid (Rd w (some ka) m (fun i => .string (kf i))) := rk
  have RV : Hid (Rd w va vn (fun i => (vf i).val)) := rv
  have RB : Hid (∀ i, i < vn → Rd w (vf i).ad (vf i).len (fun j => .int .u8 (bf i j))) := rb
  have RS : Hid (∀ i, i < n → w.cell? ⟨sb, so + i, none⟩ = some (.int .u64 (sf i : Int))) := rs
  have WS : Hid (∀ i, i < n → sf i < 18446744073709551616) := ws
  clear rk rv rb rs ws
  have ne0 : ((n : Int) == 0) = false := by simp; omega
  go_enter Try.func3, Try.ntmps3
  go_wp2_with fail
  refine (zz9 _ m kc kf _ vn vc vf _ _ _ _ _ _ RK.out RV.out).mono ?_
  rintro e w0 ⟨b, rfl, rfl⟩
  cases b
  · go_wp2_with fail
    go_ret
    exact ⟨rfl, Below.refl _ _⟩
  go_wp2_with fail
  refine (strFit _ _ m kc kf _ (by omega) (by omega) (by unfold maxLen; omega) RK.out).mono ?_
  rintro e w0 ⟨t, b, rfl, rfl, ht0, ht1, -⟩
  cases b
  · go_wp2_with fail
    go_ret
    exact ⟨rfl, Below.refl _ _⟩
  go_wp2_with fail
  refine (bytFit _ _ vn vc vf _ ht0 ht1 (by unfold maxLen; omega) RV.out).mono ?_
  rintro e w0 ⟨t2, b, rfl, rfl, ht20, ht21, hlen⟩
  cases b
  · go_wp2_with fail
    go_ret
    exact ⟨rfl, Below.refl _ _⟩
  have LEN : Hid (∀ i, i < vn → (vf i).len ≤ 1048576) := hlen rfl
  clear hlen
  go_wp2_with fail
  obtain ⟨yH, hyH⟩ : ∃ y : Int, (H : Int) / 4294967296 = y := ⟨_, rfl⟩
  have HYH : Hid (((H / 4294967296 : Nat) : Int) = yH) := by rw [← hyH]; show ((H / 4294967296 : Nat) : Int) = _; omega
  go_loop [14, 15] (fun b i => ∃ (k : Nat) (e : Bool), k ≤ n ∧ i = .int .i64 k ∧ b = .bool e ∧ Hid (Scan sf H m k e)) (fun _ i => n - (intOf i).toNat)
  case atStart => exact ⟨0, false, Nat.zero_le _, rfl, rfl, Scan.start _ _ _⟩
  case round =>
    obtain ⟨k, e, hk, rfl, rfl, SC⟩ := hrel
    by_cases hlt : k < n
    · obtain ⟨s, hs, HSF⟩ : ∃ s : Nat, w0.cell? ⟨sb, so + k, none⟩ = some (.int .u64 (s : Int)) ∧ Hid (sf k = s) := ⟨_, RS.out k hlt, rfl⟩
      have hsw : s < 18446744073709551616 := by rw [← HSF.out]; exact WS.out k hlt
      by_cases h0 : s = 0
      · have e0 : ((s : Int) == 0) = true := by simp [h0]
        have NX : Hid (Scan sf H m (k + 1) true) := SC.out.zero (by rw [HSF.out, h0])
        clear h0
        go_wp2_with fail
        go_round
        case rel => exact ⟨k + 1, true, by omega, by go_num, rfl, NX⟩
        case measure => simp [intOf]; omega
      · have e0 : ((s : Int) == 0) = false := by simp; exact h0
        obtain ⟨y, hy⟩ : ∃ y : Int, (s : Int) / 4294967296 = y := ⟨_, rfl⟩
        have HY : Hid (((s / 4294967296 : Nat) : Int) = y) := by rw [← hy]; show ((s / 4294967296 : Nat) : Int) = _; omega
        by_cases hhi : s / 4294967296 = H / 4294967296
        · have eyy : y = yH := by rw [← HY.out, ← HYH.out, hhi]
          subst eyy
          obtain ⟨l, hlow, HLO⟩ : ∃ l : Nat, bits .and .u64 (s : Int) 4294967295 = (l : Int) ∧ Hid (s % 4294967296 = l) := ⟨_, bits_low s hsw, rfl⟩
          by_cases hl0 : l = 0
          · have e1 : ((l : Int) == 0) = true := by simp [hl0]
            clear hl0
            go_wp2_with fail
            go_ret
            exact ⟨rfl, Below.refl _ _⟩
          · have e1 : ((l : Int) == 0) = false := by simp; exact hl0
            by_cases hlm : m < l
            · go_wp2_with fail
              go_ret
              exact ⟨rfl, Below.refl _ _⟩
            · have NX : Hid (Scan sf H m (k + 1) e) := SC.out.other (by rw [HSF.out]; exact h0) (fun _ => by rw [HSF.out, HLO.out]; omega)
              go_wp2_with fail
              go_round
              case rel => exact ⟨k + 1, e, by omega, by go_num, rfl, NX⟩
              case measure => simp [intOf]; omega
        · have eyy : (y == yH) = false := by
            rw [beq_eq_false_iff_ne, ← HY.out, ← HYH.out]
            intro h
            apply hhi
            omega
          have NX : Hid (Scan sf H m (k + 1) e) := SC.out.other (by rw [HSF.out]; exact h0) (fun q => absurd (by rw [HSF.out] at q; exact q) hhi)
          clear hhi h0
          go_wp2_with fail
          go_round
          case rel => exact ⟨k + 1, e, by omega, by go_num, rfl, NX⟩
          case measure => simp [intOf]; omega
    · have SN : Hid (Scan sf H m n e) := by have := SC.out; rwa [show k = n by omega] at this
      clear SC
      cases e
      · go_wp2_with fail
        go_ret
        exact ⟨rfl, Below.refl _ _⟩
      go_wp2_with fail
      refine (cloneS_g ka m kc kf _ (by omega) RK.out).mono ?_
      rintro e w2 ⟨gk, rfl, le2, r2, b2⟩
      have lt2 := r2.lt
      have RK2 : Hid (w2.rowIs gk 9 m (fun j => .string (kf j))) := r2
      have B2 : Hid (Below w0.heap.size w0 w2) := b2
      have RV2 : Hid (Rd w2 va vn (fun i => (vf i).val)) := RV.out.later b2
      have RB2 : Hid (∀ i, i < vn → Rd w2 (vf i).ad (vf i).len (fun j => .int .u8 (bf i j))) := fun i hi => (RB.out i hi).later b2
      clear r2 b2
      go_wp2_with fail
      refine (cloneA_len va vn vc vf bf _ (by omega) RV2.out LEN.out RB2.out).mono ?_
      rintro e w3 ⟨xa, xc, rfl, b3⟩
      have RK3 : Hid (w3.rowIs gk 9 m (fun j => .string (kf j))) := row_below RK2.out b3 lt2
      have B3 : Hid (Below w0.heap.size w0 w3) := B2.out.trans (b3.mono B2.out.size)
      have RS3 : Hid (Rd w3 (some ⟨sb, so, none⟩) n (fun i => .int .u64 (sf i : Int))) := (Rd.mk RS.out).later B3.out
      have lt3 := RK3.out.lt
      clear b3 RK2 B2 RV2 RB2
      go_wp2_with fail
      refine (cloneW_g _ n sc (fun i => (sf i : Int)) _ (by omega) RS3.out).mono ?_
      rintro e w4 ⟨gs, rfl, le4, r4, b4⟩
      have RS4 : Hid (w4.rowIs gs 25 n (fun j => .int .u64 (sf j : Int))) := r4
      have RK4 : Hid (w4.rowIs gk 9 m (fun j => .string (kf j))) := row_below RK3.out b4 lt3
      have B4 : Hid (Below w0.heap.size w0 w4) := B3.out.trans (b4.mono B3.out.size)
      clear r4 b4 RK3 B3 RS3
      obtain ⟨hm, hmask, HM⟩ : ∃ hm : Nat, bits .and .u64 (H : Int) ((n : Int) - 1) = (hm : Int) ∧ Hid (H % n = hm) := by
        obtain ⟨L, hL⟩ := POW.out
        exact ⟨_, bits_mask H n L hH hL (by omega), rfl⟩
      have hmn : hm < n := by rw [← HM.out]; exact Nat.mod_lt _ hn0
      go_wp2_with fail
      go_loop [20, 21, 22, 23] (fun a d f i => ∃ (k : Nat) (wv dv : Int) (fv : Bool), k ≤ n ∧ i = .int .i64 k ∧ a = .int .i64 wv ∧ d = .int .u64 dv ∧ f = .bool fv ∧
          Hid ((wv = -1 ∧ ∀ j, j < k → ¬ Stop sf kf H K j) ∨ ∃ b : Nat, wv = b ∧ Best sf kf H K n k b ∧ dv = dist H n b ∧ fv = decide (sf b ≠ 0))) (fun _ _ _ i => n - (intOf i).toNat)
      case atStart => exact ⟨0, -1, 0, false, Nat.zero_le _, rfl, rfl, rfl, rfl, .inl ⟨rfl, fun j hj => by omega⟩⟩
      case round =>
        obtain ⟨k, wv, dv, fv, hk, rfl, rfl, rfl, rfl, BST⟩ := hrel
        by_cases hlt : k < n
        · obtain ⟨s, hs, HSF⟩ : ∃ s : Nat, w4.cell? ⟨gs, k, none⟩ = some (.int .u64 (s : Int)) ∧ Hid (sf k = s) := ⟨_, RS4.out.cell hlt, rfl⟩
          have hsw : s < 18446744073709551616 := by rw [← HSF.out]; exact WS.out k hlt
          obtain ⟨dk, hdist, HDK⟩ : ∃ dk : Nat, bits .and .u64 (IntKind.u64.wrap ((k : Int) - (hm : Int))) ((n : Int) - 1) = (dk : Int) ∧ Hid (dist H n k = dk) := by
            obtain ⟨L, hL⟩ := POW.out
            exact ⟨_, dist_bits H k n L hm hlt hL (by omega) HM.out, rfl⟩
          by_cases h0 : s = 0
          · have e0 : ((s : Int) == 0) = true := by simp [h0]
            have H0 : Hid (s = 0) := h0
            clear h0
            have STP : Stop sf kf H K k := .inl (by rw [HSF.out, H0.out])
            have HMT : Hid (decide (sf k ≠ 0) = false) := by
              rw [HSF.out, H0.out]; rfl
            rcases BST.out with ⟨rfl, hno⟩ | ⟨b, rfl, hb, hdv, hfv⟩
            · have NX : Hid (Best sf kf H K n (k + 1) k) := Best.first hno STP
              clear hno STP BST
              go_wp2_with fail
              go_round
              case rel => exact ⟨k + 1, k, dk, false, by omega, by go_num, rfl, rfl, rfl, .inr ⟨k, rfl, NX.out, by rw [HDK.out], HMT.out.symm⟩⟩
              case measure => simp [intOf]; omega
            · obtain ⟨db, hdb⟩ : ∃ db : Nat, dist H n b = db := ⟨_, rfl⟩
              rw [hdb] at hdv
              subst hdv
              have HDB : Hid (dist H n b = db) := hdb
              have HFV : Hid (fv = decide (sf b ≠ 0)) := hfv
              clear hfv
              by_cases hd : dk < db
              · have NX : Hid (Best sf kf H K n (k + 1) k) := hb.next STP (by rw [HDK.out, HDB.out]; exact hd)
                clear hb STP BST hdb
                go_wp2_with fail
                go_round
                case rel => exact ⟨k + 1, k, dk, false, by omega, by go_num, rfl, rfl, rfl, .inr ⟨k, rfl, NX.out, by rw [HDK.out], HMT.out.symm⟩⟩
                case measure => simp [intOf]; omega
              · have NX : Hid (Best sf kf H K n (k + 1) b) := hb.stay (fun _ => by rw [HDK.out, HDB.out]; omega)
                clear hb STP BST hdb
                go_wp2_with fail
                go_round
                case rel => exact ⟨k + 1, b, db, fv, by omega, by go_num, rfl, rfl, rfl, .inr ⟨b, rfl, NX.out, by rw [HDB.out], HFV.out⟩⟩
                case measure => simp [intOf]; omega
          · have e0 : ((s : Int) == 0) = false := by simp; exact h0
            have HN0 : Hid (s ≠ 0) := h0
            obtain ⟨y, hy⟩ : ∃ y : Int, (s : Int) / 4294967296 = y := ⟨_, rfl⟩
            have HY : Hid (((s / 4294967296 : Nat) : Int) = y) := by rw [← hy]; show ((s / 4294967296 : Nat) : Int) = _; omega
            by_cases hhi : s / 4294967296 = H / 4294967296
            · have eyy : y = yH := by rw [← HY.out, ← HYH.out, hhi]
              subst eyy
              have hl := SN.out.2 k hlt (by rw [HSF.out]; exact h0) (by rw [HSF.out]; exact hhi)
              rw [HSF.out] at hl
              obtain ⟨t', ht⟩ : ∃ t', s % 4294967296 = t' + 1 := ⟨s % 4294967296 - 1, by omega⟩
              have htm : t' < m := by omega
              obtain ⟨z, hz, HZ⟩ : ∃ z, w4.cell? ⟨gk, t', none⟩ = some (.string z) ∧ Hid (kf t' = z) := ⟨_, RK4.out.cell htm, rfl⟩
              have hlow : bits .and .u64 (s : Int) 4294967295 = (t' : Int) + 1 := by rw [bits_low s hsw, ht]; rfl
              have HT : Hid (s % 4294967296 = t' + 1) := ht
              have HH : Hid (s / 4294967296 = H / 4294967296) := hhi
              clear ht hhi hl h0
              by_cases hkey : z = K
              · have HK : Hid (kf t' = K) := by rw [← hkey]; exact HZ.out
                rw [hkey] at hz
                clear hkey
                have STP : Stop sf kf H K k := .inr ⟨by rw [HSF.out]; exact HH.out, by rw [HSF.out, HT.out, Nat.add_sub_cancel]; exact HK.out⟩
                have HMT : Hid (decide (sf k ≠ 0) = true) := by
                  rw [HSF.out]; exact decide_eq_true (HN0.out)
                rcases BST.out with ⟨rfl, hno⟩ | ⟨b, rfl, hb, hdv, hfv⟩
                · have NX : Hid (Best sf kf H K n (k + 1) k) := Best.first hno STP
                  clear hno STP BST
                  go_wp2_with fail
                  go_round
                  case rel => exact ⟨k + 1, k, dk, true, by omega, by go_num, rfl, rfl, rfl, .inr ⟨k, rfl, NX.out, by rw [HDK.out], HMT.out.symm⟩⟩
                  case measure => simp [intOf]; omega
                · obtain ⟨db, hdb⟩ : ∃ db : Nat, dist H n b = db := ⟨_, rfl⟩
                  rw [hdb] at hdv
                  subst hdv
                  have HDB : Hid (dist H n b = db) := hdb
                  have HFV : Hid (fv = decide (sf b ≠ 0)) := hfv
                  clear hfv
                  by_cases hd : dk < db
                  · have NX : Hid (Best sf kf H K n (k + 1) k) := hb.next STP (by rw [HDK.out, HDB.out]; exact hd)
                    clear hb STP BST hdb
                    go_wp2_with fail
                    go_round
                    case rel => exact ⟨k + 1, k, dk, true, by omega, by go_num, rfl, rfl, rfl, .inr ⟨k, rfl, NX.out, by rw [HDK.out], HMT.out.symm⟩⟩
                    case measure => simp [intOf]; omega
                  · have NX : Hid (Best sf kf H K n (k + 1) b) := hb.stay (fun _ => by rw [HDK.out, HDB.out]; omega)
                    clear hb STP BST hdb
                    go_wp2_with fail
                    go_round
                    case rel => exact ⟨k + 1, b, db, fv, by omega, by go_num, rfl, rfl, rfl, .inr ⟨b, rfl, NX.out, by rw [HDB.out], HFV.out⟩⟩
                    case measure => simp [intOf]; omega
              · have hks := str_ne hkey
                have HKN : Hid (¬ z = K) := hkey
                clear hkey
                have NS : ¬ Stop sf kf H K k := by
                  rintro (q | ⟨_, q⟩)
                  · exact HN0.out (by rw [← HSF.out]; exact q)
                  · rw [HSF.out, HT.out, Nat.add_sub_cancel, HZ.out] at q
                    exact HKN.out q
                have NX : Hid ((wv = -1 ∧ ∀ j, j < k + 1 → ¬ Stop sf kf H K j) ∨ ∃ b : Nat, wv = b ∧ Best sf kf H K n (k + 1) b ∧ dv = dist H n b ∧ fv = decide (sf b ≠ 0)) := by
                  rcases BST.out with ⟨q1, hno⟩ | ⟨b, q1, hb, q2, q3⟩
                  · refine .inl ⟨q1, fun j hj => ?_⟩
                    by_cases q : j = k
                    · subst q; exact NS
                    · exact hno j (by omega)
                  · exact .inr ⟨b, q1, hb.stay (fun q => absurd q NS), q2, q3⟩
                clear NS BST
                go_wp2_with fail
                go_round
                case rel => exact ⟨k + 1, wv, dv, fv, by omega, by go_num, rfl, rfl, rfl, NX⟩
                case measure => simp [intOf]; omega
            · have eyy : (y == yH) = false := by
                rw [beq_eq_false_iff_ne, ← HY.out, ← HYH.out]
                intro h
                apply hhi
                omega
              have HHN : Hid (¬ s / 4294967296 = H / 4294967296) := hhi
              clear hhi h0
              have NS : ¬ Stop sf kf H K k := by
                rintro (q | ⟨q, _⟩)
                · exact HN0.out (by rw [← HSF.out]; exact q)
                · rw [HSF.out] at q
                  exact HHN.out q
              have NX : Hid ((wv = -1 ∧ ∀ j, j < k + 1 → ¬ Stop sf kf H K j) ∨ ∃ b : Nat, wv = b ∧ Best sf kf H K n (k + 1) b ∧ dv = dist H n b ∧ fv = decide (sf b ≠ 0)) := by
                rcases BST.out with ⟨q1, hno⟩ | ⟨b, q1, hb, q2, q3⟩
                · refine .inl ⟨q1, fun j hj => ?_⟩
                  by_cases q : j = k
                  · subst q; exact NS
                  · exact hno j (by omega)
                · exact .inr ⟨b, q1, hb.stay (fun q => absurd q NS), q2, q3⟩
              clear NS BST
              go_wp2_with fail
              go_round
              case rel => exact ⟨k + 1, wv, dv, fv, by omega, by go_num, rfl, rfl, rfl, NX⟩
              case measure => simp [intOf]; omega
        · obtain ⟨j0, hj0, hz0⟩ := SN.out.1.1 rfl
          have BN : ∃ b : Nat, wv = b ∧ Best sf kf H K n n b ∧ fv = decide (sf b ≠ 0) := by
            have q := BST.out
            rw [show k = n by omega] at q
            rcases q with ⟨_, hno⟩ | ⟨b, q1, q2, _, q3⟩
            · exact absurd (.inl hz0) (hno j0 hj0)
            · exact ⟨b, q1, q2, q3⟩
          obtain ⟨b, rfl, hbest, hfv⟩ := BN
          obtain ⟨p1, p2, p3⟩ := hbest.probe
          have CALL : Hid (Calls Try.prog 15 #[.slice (some ⟨gk, 0, none⟩) m m, .slice xa vn xc, .slice (some ⟨gs, 0, none⟩) n n, .int .u64 (H : Int), .string K] w4 fun e w' => e = .returned (.tuple #[.int .i64 (b : Int), .bool fv]) ∧ Below w4.heap.size w4 w') := by
            have hp : Prb w4 (some ⟨gk, 0, none⟩) m m gs 0 n H K kf sf (dist H n b) :=
              ⟨POW.out, by omega, by omega, hH, Rd.row RK4.out (Nat.le_refl _), fun i hi => by rw [Nat.zero_add]; exact RS4.out.cell hi, WS.out, SN.out.2, p1, by rw [p2]; exact hbest.2.1, p3⟩
            have := zzprobe (some ⟨gk, 0, none⟩) m m xa vn xc gs 0 n n H K kf sf (dist H n b) w4 hp fv (by rw [p2]; exact hfv)
            rw [p2] at this
            exact this
          clear hbest hfv p1 p2 p3 BST hz0 hj0
          go_wp2_with fail
          refine CALL.out.mono ?_
          rintro e w9 ⟨rfl, hb9⟩
          have B9 : Hid (Below w0.heap.size w0 w9) := B4.out.trans (hb9.mono B4.out.size)
          clear hb9
          go_wp2_with fail
          go_ret
          exact ⟨by simp, B9.out⟩
end Go.Proofs.Qxb6602653a
