/-
  The walk of FnProbeFindsWhatItPlaced (function 4), out of its callees' contracts.
-/
import Derived.Test.Qxb6602653aExt
import Derived.Test.Qxb6602653aZz
import Derived.Test.Qxb6602653aProbe
import Derived.Test.Qxb6602653aPlace
namespace Go.Proofs.Qxb6602653a
open Go.RowKit
set_option linter.unusedVariables false

/-- The memory of the law, after k keys have been placed. -/
structure LI (w0 : World) (gk gh gs gp n m : Nat) (kf : Nat → ByteArray) (hf : Nat → Nat) (wr : World) (k : Nat) (sf pl : Nat → Nat) : Prop where
  rk : wr.rowIs gk 9 m (fun j => .string (kf j))
  rh : wr.rowIs gh 25 m (fun j => .int .u64 (hf j : Int))
  rs : wr.rowIs gs 25 n (fun j => .int .u64 (sf j : Int))
  rp : wr.rowIs gp 3 m (fun j => .int .i64 (pl j : Int))
  bel : Below w0.heap.size w0 wr
  tab : Tab n m kf hf k sf pl

/-- The probe of the law, in whatever world has come of wr. -/
theorem LI.call {w0 : World} {gk gh gs gp n m : Nat} {kf : Nat → ByteArray} {hf : Nat → Nat} {wr : World} {k : Nat} {sf pl : Nat → Nat} (h : LI w0 gk gh gs gp n m kf hf wr k sf pl)
    (hpow : ∃ L, n = 2 ^ L) (hn : n ≤ 1048576) (hm : m ≤ 1048576) (H : Nat) (K : ByteArray) (hH : H < 18446744073709551616) (d a : Nat) (hd : d < n) (ha : (H + d) % n = a) (hst : Stop sf kf H K a) (hno : ∀ e, e < d → ¬ Stop sf kf H K ((H + e) % n)) (r : Bool) (hr : r = decide (sf a ≠ 0)) (x : Ext wr) :
    Calls Try.prog 15 #[.slice (some ⟨gk, 0, none⟩) m m, .slice none 0 0, .slice (some ⟨gs, 0, none⟩) n n, .int .u64 (H : Int), .string K] x.w fun e w'' => e = .returned (.tuple #[.int .i64 (a : Int), .bool r]) ∧ ∃ y : Ext wr, w'' = y.w := by
  have hp : Prb x.w (some ⟨gk, 0, none⟩) m m gs 0 n H K kf sf d :=
    ⟨hpow, hn, hm, hH, Rd.row (row_below h.rk x.below h.rk.lt) (Nat.le_refl _), fun i hi => by rw [Nat.zero_add]; exact (row_below h.rs x.below h.rs.lt).cell hi, h.tab.word, fun j hj h0 _ => h.tab.valid j hj h0, hd, by rw [ha]; exact hst, hno⟩
  have := zzprobe (some ⟨gk, 0, none⟩) m m none 0 0 gs 0 n n H K kf sf d x.w hp r (by rw [ha]; exact hr)
  rw [ha] at this
  refine this.mono ?_
  rintro e w'' ⟨he, hb⟩
  exact ⟨he, ⟨w'', x.below.trans (hb.mono x.below.size)⟩, rfl⟩

theorem LI.hit {w0 : World} {gk gh gs gp n m : Nat} {kf : Nat → ByteArray} {hf : Nat → Nat} {wr : World} {k : Nat} {sf pl : Nat → Nat} (h : LI w0 gk gh gs gp n m kf hf wr k sf pl)
    (h0 : w0.heap.size ≤ gp) (n1 : gk ≠ gp) (n2 : gh ≠ gp) (n3 : gs ≠ gp) (a d : Nat) (hd : d < n) (ha : (hf k + d) % n = a) (hs : Stop sf kf (hf k) (kf k) a) (hno : ∀ e, e < d → ¬ Stop sf kf (hf k) (kf k) ((hf k + e) % n)) (hne : sf a ≠ 0) (x : Ext wr) (q : Nat) :
    LI w0 gk gh gs gp n m kf hf ((x.w.setCell ⟨gp, k, none⟩ (.int .i64 (a : Int))).drewN q) (k + 1) sf (put pl k a) := by
  have sz : w0.heap.size ≤ wr.heap.size := h.bel.size
  refine ⟨row_drewN (row_set_other (row_below h.rk x.below h.rk.lt) gp k n1 _) q, row_drewN (row_set_other (row_below h.rh x.below h.rh.lt) gp k n2 _) q, row_drewN (row_set_other (row_below h.rs x.below h.rs.lt) gp k n3 _) q, ?_,
    below_drewN ((h.bel.trans (x.below.mono sz)).setCell h0 _) q, h.tab.hit a d hd ha hs hno hne⟩
  refine row_drewN (((row_below h.rp x.below h.rp.lt).set k (.int .i64 (a : Int))).congr (fun j hj => ?_)) q
  by_cases e : j = k
  · subst e; simp [put_same]
  · simp [put_other _ _ _ _ e, e]

theorem LI.miss {w0 : World} {gk gh gs gp n m : Nat} {kf : Nat → ByteArray} {hf : Nat → Nat} {wr : World} {k : Nat} {sf pl : Nat → Nat} (h : LI w0 gk gh gs gp n m kf hf wr k sf pl) (hk : k < m)
    (h0 : w0.heap.size ≤ gp) (h0' : w0.heap.size ≤ gs) (n1 : gk ≠ gp) (n2 : gh ≠ gp) (n3 : gs ≠ gp) (n4 : gk ≠ gs) (n5 : gh ≠ gs) (a d : Nat) (hd : d < n) (ha : (hf k + d) % n = a) (hno : ∀ e, e < d → ¬ Stop sf kf (hf k) (kf k) ((hf k + e) % n)) (hz : sf a = 0) (x : Ext wr)
    (v : Nat) (hv : v < 18446744073709551616) (hv1 : v / 4294967296 = hf k / 4294967296) (hv2 : v % 4294967296 = k + 1) :
    LI w0 gk gh gs gp n m kf hf ((x.w.setCell ⟨gp, k, none⟩ (.int .i64 (a : Int))).setCell ⟨gs, a, none⟩ (.int .u64 (v : Int))) (k + 1) (put sf a v) (put pl k a) := by
  have sz : w0.heap.size ≤ wr.heap.size := h.bel.size
  refine ⟨row_set_other (row_set_other (row_below h.rk x.below h.rk.lt) gp k n1 _) gs a n4 _, row_set_other (row_set_other (row_below h.rh x.below h.rh.lt) gp k n2 _) gs a n5 _, ?_, ?_,
    ((h.bel.trans (x.below.mono sz)).setCell h0 _).setCell h0' _, h.tab.miss hk a d hd ha hno hz v hv hv1 hv2⟩
  · refine ((row_set_other (row_below h.rs x.below h.rs.lt) gp k n3 _).set a (.int .u64 (v : Int))).congr (fun j hj => ?_)
    by_cases e : j = a
    · subst e; simp [put_same]
    · simp [put_other _ _ _ _ e, e]
  · refine row_set_other (((row_below h.rp x.below h.rp.lt).set k (.int .i64 (a : Int))).congr (fun j hj => ?_)) gs a (Ne.symm n3) _
    by_cases e : j = k
    · subst e; simp [put_same]
    · simp [put_other _ _ _ _ e, e]

theorem LI.ext {w0 : World} {gk gh gs gp n m : Nat} {kf : Nat → ByteArray} {hf : Nat → Nat} {wr : World} {k : Nat} {sf pl : Nat → Nat} (h : LI w0 gk gh gs gp n m kf hf wr k sf pl) (x : Ext wr) : LI w0 gk gh gs gp n m kf hf x.w k sf pl :=
  ⟨row_below h.rk x.below h.rk.lt, row_below h.rh x.below h.rh.lt, row_below h.rs x.below h.rs.lt, row_below h.rp x.below h.rp.lt, h.bel.trans (x.below.mono h.bel.size), h.tab⟩

theorem LI.start {w0 w3 : World} {gk gh n m : Nat} {kf : Nat → ByteArray} {hf : Nat → Nat} (rk : w3.rowIs gk 9 m (fun j => .string (kf j))) (rh : w3.rowIs gh 25 m (fun j => .int .u64 (hf j : Int))) (hb : Below w0.heap.size w0 w3) :
    LI w0 gk gh w3.heap.size (w3.heap.size + 1) n m kf hf ((w3.alloc (.cells (madeCells #[.int .u64 0] n) 25)).alloc (.cells (madeCells #[.int .i64 0] m) 3)) 0 (fun _ => 0) (fun _ => 0) := by
  refine ⟨(rk.alloc _).alloc _, (rh.alloc _).alloc _, (World.rowIs_made w3 _ _ _).alloc _, ?_, (hb.alloc hb.size _).alloc (by have := hb.size; simp; omega) _, Tab.start n m kf hf _⟩
  have := World.rowIs_made (w3.alloc (.cells (madeCells #[.int .u64 0] n) 25)) (.int .i64 0) m 3
  simpa using this

theorem wrap_pow (lg : Int) (h0 : 0 ≤ lg) (h : lg ≤ 16) : ∃ n : Nat, wrap64 (2 ^ lg.toNat) = (n : Int) ∧ (∃ L, n = 2 ^ L) ∧ n ≤ 65536 := by
  have hl : lg.toNat ≤ 16 := by omega
  generalize lg.toNat = L at hl
  have h2 : 2 ^ L ≤ 2 ^ 16 := Nat.pow_le_pow_right (by omega) hl
  refine ⟨2 ^ L, ?_, ⟨L, rfl⟩, by simpa using h2⟩
  have h3 : ((2 : Int) ^ L) = ((2 ^ L : Nat) : Int) := by simp
  rw [h3]
  generalize 2 ^ L = x at h2
  unfold wrap64
  omega

set_option maxHeartbeats 1000000 in
set_option maxRecDepth 100000 in
theorem finds_main (ka : Addr) (m kc : Nat) (ha : Addr) (hc : Nat) (lg : Int) (n : Nat) (kf : Nat → ByteArray) (hf : Nat → Nat) (w : World)
    (hm0 : 0 < m) (hm : ¬ 4096 < (m : Int)) (hl0 : 0 ≤ lg) (hl : ¬ 16 < lg) (hpow : wrap64 (2 ^ lg.toNat) = (n : Int)) (POW : Hid (∃ L, n = 2 ^ L)) (hn : n ≤ 65536) (hmn : m < n)
    (WH : Hid (∀ i, i < m → hf i < 18446744073709551616))
    (rk : Rd w (some ka) m (fun i => .string (kf i))) (rh : Rd w (some ha) m (fun i => .int .u64 (hf i : Int))) :
    Calls Try.prog 4 #[.slice (some ka) m kc, .slice (some ha) m hc, .int .u8 lg] w (TrueEnd w) := by
  have HRK : Hid (Rd w (some ka) m (fun i => .string (kf i))) := rk
  have HRH : Hid (Rd w (some ha) m (fun i => .int .u64 (hf i : Int))) := rh
  clear rk rh
  have hmk1 := run_make_row' (P := Try.prog) 24 25 (.int .u64 0) 8 Try.underlying24 info25 rfl .i64 .i64 n (by omega) (by omega)
  have hmk2 := run_make_row' (P := Try.prog) 36 3 (.int .i64 0) 8 Try.underlying36 info3 rfl .i64 .i64 m (by omega) (by omega)
  go_enter Try.func4, Try.ntmps4
  go_wp2_with fail
  refine (zz16 _ m kc kf _ _ _ _ _ HRK.out).mono ?_
  rintro e w0 ⟨b, rfl, rfl⟩
  cases b
  · go_wp2_with fail
    go_ret
    exact ⟨rfl, Below.refl _ _⟩
  go_wp2_with fail
  refine (strFit _ _ m kc kf _ (by omega) (by omega) (by unfold maxLen; omega) HRK.out).mono ?_
  rintro e w1 ⟨t, b, rfl, rfl, ht0, ht1, -⟩
  cases b
  · go_wp2_with fail
    go_ret
    exact ⟨rfl, Below.refl _ _⟩
  go_wp2_with fail
  refine (cloneS_g ka m kc kf _ (by omega) HRK.out).mono ?_
  rintro e w2 ⟨gk, rfl, le2, r2, b2⟩
  have RK2 : Hid (w2.rowIs gk 9 m (fun j => .string (kf j))) := r2
  have RH2 : Hid (Rd w2 (some ha) m (fun i => .int .u64 (hf i : Int))) := HRH.out.later b2
  have B2 : Hid (Below w1.heap.size w1 w2) := b2
  have lt2 := r2.lt
  clear r2 b2 HRK HRH
  go_wp2_with fail
  refine (cloneW_g ha m hc (fun i => (hf i : Int)) _ (by omega) RH2.out).mono ?_
  rintro e w3 ⟨gh, rfl, le3, r3, b3⟩
  have RH3 : Hid (w3.rowIs gh 25 m (fun j => .int .u64 (hf j : Int))) := r3
  have RK3 : Hid (w3.rowIs gk 9 m (fun j => .string (kf j))) := row_below RK2.out b3 lt2
  have B3 : Hid (Below w1.heap.size w1 w3) := B2.out.trans (b3.mono B2.out.size)
  have lt3 := r3.lt
  have lek := RK3.out.lt
  have sz3 : w1.heap.size ≤ w3.heap.size := B3.out.size
  clear r3 b3 RK2 RH2 B2
  go_wp2_with fail
  go_loopw [12] (fun i wr => ∃ k : Nat, k ≤ m ∧ i = .int .i64 k ∧ ∃ sf pl, Hid (LI w1 gk gh w3.heap.size (w3.heap.size + 1) n m kf hf wr k sf pl)) (fun i _ => m - (intOf i).toNat)
  case atStart =>
    exact ⟨0, Nat.zero_le _, rfl, fun _ => 0, fun _ => 0, LI.start RK3.out RH3.out B3.out⟩
  case round =>
    obtain ⟨k, hk, rfl, sf, pl, LH⟩ := hrel
    by_cases hlt : k < m
    · obtain ⟨d, hd, hst, hno⟩ := LH.out.tab.probe (by omega) (hf k) (kf k)
      obtain ⟨a, ha⟩ : ∃ a, (hf k + d) % n = a := ⟨_, rfl⟩
      rw [ha] at hst
      have han : a < n := by rw [← ha]; exact Nat.mod_lt _ (by omega)
      have hcall := fun r hr x => LH.out.call POW.out (by omega) (by omega) (hf k) (kf k) (WH.out k hlt) d a hd ha hst hno r hr x
      have ch : ∀ x : Ext wr, x.w.cell? ⟨gh, k, none⟩ = some (.int .u64 (hf k : Int)) := fun x => x.cell (LH.out.rh.cell hlt)
      have ck : ∀ x : Ext wr, x.w.cell? ⟨gk, k, none⟩ = some (.string (kf k)) := fun x => x.cell (LH.out.rk.cell hlt)
      have ST : Hid (Stop sf kf (hf k) (kf k) a) := hst
      have NO : Hid (∀ e, e < d → ¬ Stop sf kf (hf k) (kf k) ((hf k + e) % n)) := hno
      have HA : Hid ((hf k + d) % n = a) := ha
      obtain ⟨s, cs0⟩ : ∃ s, sf a = s := ⟨_, rfl⟩
      have HS : Hid (sf a = s) := cs0
      have cs : ∀ (x : Ext wr) v, (x.w.setCell ⟨w3.heap.size + 1, k, none⟩ v).cell? ⟨w3.heap.size, a, none⟩ = some (.int .u64 (s : Int)) := fun x v => by
        rw [← HS.out]; exact (row_set_other (row_below LH.out.rs x.below LH.out.rs.lt) _ k (by omega) v).cell han
      have cp : ∀ x : Ext wr, x.w.cell? ⟨w3.heap.size + 1, k, none⟩ = some (.int .i64 (pl k : Int)) := fun x => x.cell (LH.out.rp.cell hlt)
      have fp : ∀ x : Ext wr, x.w.frozen? ⟨w3.heap.size + 1, k, none⟩ = false := fun x => (row_below LH.out.rp x.below LH.out.rp.lt).frozen k
      have fs : ∀ (x : Ext wr) v, (x.w.setCell ⟨w3.heap.size + 1, k, none⟩ v).frozen? ⟨w3.heap.size, a, none⟩ = false := fun x v => (row_set_other (row_below LH.out.rs x.below LH.out.rs.lt) _ k (by omega) v).frozen a
      clear hst hno ha
      by_cases h0 : s = 0
      · have HC := hcall false (by rw [HS.out, h0]; rfl)
        have CALL : Hid _ := HC
        obtain ⟨v, hval, hv0, hv1, hv2⟩ := slot_word (hf k) k (WH.out k hlt) (by omega)
        have MISS : Hid (∀ x : Ext wr, LI w1 gk gh w3.heap.size (w3.heap.size + 1) n m kf hf ((x.w.setCell ⟨w3.heap.size + 1, k, none⟩ (.int .i64 (a : Int))).setCell ⟨w3.heap.size, a, none⟩ (.int .u64 (v : Int))) (k + 1) (put sf a v) (put pl k a)) := fun x =>
          LH.out.miss hlt (by omega) (by omega) (by omega) (by omega) (by omega) (by omega) (by omega) a d hd HA.out NO.out (by rw [HS.out, h0]) x v hv0 hv1 hv2
        have e0 : ((s : Int) != 0) = false := by simp [h0]
        clear HC hcall cs0 hv1 hv2 h0
        have inst := Ext.held wr
        go_wp2_with fail
        refine wp_region_ext (by kernel_rfl) (by kernel_rfl) ?_
        repeat (go_big_quiet_step ((go_at_call 15; exact CALL.out _)))
        refine wpQuiet_nil ?_
        intro _ hw'
        obtain ⟨x, hw''⟩ := hw'
        subst hw''
        go_wp2_with fail
        go_roundw
        case rel => exact ⟨k + 1, by omega, by go_num, _, _, MISS.out x⟩
        case measure => simp [intOf]; omega
      · have HIT := (show sf a / 4294967296 = hf k / 4294967296 ∧ kf (sf a % 4294967296 - 1) = kf k from by
          rcases ST.out with h | h
          · rw [HS.out] at h; exact absurd h h0
          · exact h)
        rw [HS.out] at HIT
        have hval := LH.out.tab.valid a han (by rw [HS.out]; exact h0)
        have hwrd := LH.out.tab.word a han
        rw [HS.out] at hval hwrd
        obtain ⟨t', ht'⟩ : ∃ t', s % 4294967296 = t' + 1 := ⟨s % 4294967296 - 1, by omega⟩
        have htm : t' < m := by omega
        have hlow : bits .and .u64 (s : Int) 4294967295 = (t' : Int) + 1 := by rw [bits_low s hwrd, ht']; rfl
        have hkey : kf t' = kf k := by have := HIT.2; rwa [ht', Nat.add_sub_cancel] at this
        have ch' : ∀ (x : Ext wr) v, (x.w.setCell ⟨w3.heap.size + 1, k, none⟩ v).cell? ⟨gh, k, none⟩ = some (.int .u64 (hf k : Int)) := fun x v => (row_set_other (row_below LH.out.rh x.below LH.out.rh.lt) _ k (by omega) v).cell hlt
        have ck' : ∀ (x : Ext wr) v, (x.w.setCell ⟨w3.heap.size + 1, k, none⟩ v).cell? ⟨gk, k, none⟩ = some (.string (kf k)) := fun x v => (row_set_other (row_below LH.out.rk x.below LH.out.rk.lt) _ k (by omega) v).cell hlt
        have ct' : ∀ (x : Ext wr) v, (x.w.setCell ⟨w3.heap.size + 1, k, none⟩ v).cell? ⟨gk, t', none⟩ = some (.string (kf k)) := fun x v => by
          rw [← hkey]; exact (row_set_other (row_below LH.out.rk x.below LH.out.rk.lt) _ k (by omega) v).cell htm
        have HC := hcall true (by rw [HS.out]; exact (decide_eq_true h0).symm)
        have CALL : Hid _ := HC
        have HITL : Hid (∀ (x : Ext wr) q, LI w1 gk gh w3.heap.size (w3.heap.size + 1) n m kf hf ((x.w.setCell ⟨w3.heap.size + 1, k, none⟩ (.int .i64 (a : Int))).drewN q) (k + 1) sf (put pl k a)) := fun x q =>
          LH.out.hit (by omega) (by omega) (by omega) (by omega) a d hd HA.out ST.out NO.out (by rw [HS.out]; exact h0) x q
        have e0 : ((s : Int) == 0) = false := by simp; exact h0
        obtain ⟨y, hy1, hy2⟩ : ∃ y : Int, (s : Int) / 4294967296 = y ∧ (hf k : Int) / 4294967296 = y := ⟨((hf k / 4294967296 : Nat) : Int), by rw [← HIT.1]; simp, by simp⟩
        clear HC hcall cs0 h0 HIT hval ht' hkey
        have inst := Ext.held wr
        go_wp2_with fail
        refine wp_region_ext (by kernel_rfl) (by kernel_rfl) ?_
        repeat (go_big_quiet_step ((go_at_call 15; exact CALL.out _)))
        refine wpQuiet_nil ?_
        intro _ hw'
        obtain ⟨x, hw''⟩ := hw'
        subst hw''
        go_wp2_with fail
        go_quiet (fail)
        go_wp2_with fail
        go_roundw
        case rel => exact ⟨k + 1, by omega, by go_num, _, _, HITL.out x nq⟩
        case measure => simp [intOf]; omega
    · have KM : Hid (k = m) := by show k = m; omega
      have LM : Hid (LI w1 gk gh w3.heap.size (w3.heap.size + 1) n m kf hf wr m sf pl) := by have := LH.out; rwa [KM.out] at this
      clear LH
      go_wp2_with fail
      go_loopw [16] (fun i wq => ∃ j : Nat, j ≤ m ∧ i = .int .i64 j ∧ Hid (LI w1 gk gh w3.heap.size (w3.heap.size + 1) n m kf hf wq m sf pl)) (fun i _ => m - (intOf i).toNat)
      case atStart => exact ⟨0, Nat.zero_le _, rfl, LM⟩
      case round =>
        obtain ⟨j, hj, rfl, LJ⟩ := hrel
        by_cases hlj : j < m
        · obtain ⟨hpl, d, hd, ha, hit, hno⟩ := LJ.out.tab.found j hlj
          obtain ⟨a, hpa⟩ : ∃ a, pl j = a := ⟨_, rfl⟩
          rw [hpa] at ha hit hpl
          have HC := LJ.out.call POW.out (by omega) (by omega) (hf j) (kf j) (WH.out j hlj) d a hd ha hit.stop hno true (decide_eq_true hit.1).symm
          have CALL : Hid _ := HC
          have ch : ∀ x : Ext wr, x.w.cell? ⟨gh, j, none⟩ = some (.int .u64 (hf j : Int)) := fun x => x.cell (LJ.out.rh.cell hlj)
          have ck : ∀ x : Ext wr, x.w.cell? ⟨gk, j, none⟩ = some (.string (kf j)) := fun x => x.cell (LJ.out.rk.cell hlj)
          have cp : ∀ x : Ext wr, x.w.cell? ⟨w3.heap.size + 1, j, none⟩ = some (.int .i64 (a : Int)) := fun x => by rw [← hpa]; exact x.cell (LJ.out.rp.cell hlj)
          have LE : Hid (∀ x : Ext wr, LI w1 gk gh w3.heap.size (w3.heap.size + 1) n m kf hf x.w m sf pl) := fun x => LJ.out.ext x
          clear HC ha hit hno hpa LJ
          have inst := Ext.held wr
          go_wp2_with fail
          refine wp_region_ext (by kernel_rfl) (by kernel_rfl) ?_
          repeat (go_big_quiet_step ((go_at_call 15; exact CALL.out _)))
          refine wpQuiet_nil ?_
          intro _ hw'
          obtain ⟨x, hw''⟩ := hw'
          subst hw''
          go_wp2_with fail
          go_roundw
          case rel => exact ⟨j + 1, by omega, by go_num, LE.out x⟩
          case measure => simp [intOf]; omega
        · go_wp2_with fail
          go_ret
          exact ⟨rfl, LJ.out.bel⟩
end Go.Proofs.Qxb6602653a
