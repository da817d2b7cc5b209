/-
  What FnSlotLastWriteWinsAndIsOwned leans on: ZZSlotWrite at whatever slot and value; which blocks stay.
-/
import Derived.Test.Qxb6602653aExt
namespace Go.Proofs.Qxb6602653a
open Go.RowKit
set_option linter.unusedVariables false

/-- The blocks of w of which 'ok' does not hold are as they were; the streams too. -/
structure Kept (ok : Nat → Prop) (w w' : World) : Prop where
  os : w'.os = w.os
  tape : w'.tape = w.tape
  output : w'.output = w.output
  size : w.heap.size ≤ w'.heap.size
  block : ∀ k, k < w.heap.size → ¬ ok k → w'.heap[k]? = w.heap[k]?

theorem Kept.refl (ok : Nat → Prop) (w : World) : Kept ok w w := ⟨rfl, rfl, rfl, Nat.le_refl _, fun _ _ _ => rfl⟩
theorem Kept.trans {ok : Nat → Prop} {a b c : World} (h : Kept ok a b) (k : Kept ok b c) : Kept ok a c :=
  ⟨k.os.trans h.os, k.tape.trans h.tape, k.output.trans h.output, Nat.le_trans h.size k.size, fun i hi hn => (k.block i (Nat.lt_of_lt_of_le hi h.size) hn).trans (h.block i hi hn)⟩
theorem Kept.drewN {ok : Nat → Prop} {a b : World} (h : Kept ok a b) (n : Nat) : Kept ok a (b.drewN n) := ⟨h.os, h.tape, h.output, h.size, h.block⟩
theorem Kept.of_below {ok : Nat → Prop} {a b : World} (h : Below a.heap.size a b) : Kept ok a b := ⟨h.os, h.tape, h.output, h.size, fun k hk _ => h.block k hk⟩
theorem Kept.of_grown {ok : Nat → Prop} {a b : World} {g : Nat} (h : a.grownBy b (some g)) (hg : ok g) : Kept ok a b := ⟨h.os, h.tape, h.output, h.size, fun k hk hn => h.block k hk (by rintro ⟨⟩; exact hn hg)⟩
theorem Kept.setCell {ok : Nat → Prop} {a b : World} (h : Kept ok a b) {p : Addr} (hp : ok p.block) (v : Value) : Kept ok a (b.setCell p v) :=
  ⟨h.os, h.tape, h.output, by simpa using h.size, fun k hk hn => (Below.heap_setCell b p v k (by rintro rfl; exact hn hp)).trans (h.block k hk hn)⟩
theorem Kept.row {ok : Nat → Prop} {w w' : World} (h : Kept ok w w') {b t n : Nat} {f : Nat → Value} (hr : w.rowIs b t n f) (hn : ¬ ok b) : w'.rowIs b t n f := hr.of_block (h.block b hr.lt hn)
theorem Kept.own {ok : Nat → Prop} {w w' : World} (h : Kept ok w w') {b n c : Nat} {f : Nat → Int} (hr : OwnR w b n c f) (hn : ¬ ok b) : OwnR w' b n c f := hr.of_block (h.block b hr.lt hn)
theorem Kept.below {ok : Nat → Prop} {w0 w w' : World} (h : Kept ok w w') (hb : Below w0.heap.size w0 w) (hn : ∀ k, k < w0.heap.size → ¬ ok k) : Below w0.heap.size w0 w' :=
  ⟨h.os.trans hb.os, h.tape.trans hb.tape, h.output.trans hb.output, Nat.le_trans hb.size h.size, fun k hk => (h.block k (Nat.lt_of_lt_of_le hk hb.size) (hn k hk)).trans (hb.block k hk)⟩

/-- The slot's value: nil, or the head of a row of its own at a block that is 'ok'. -/
def Cur (w : World) (ok : Nat → Prop) (a : Option Addr) (n c : Nat) (nil : Prop) (f : Nat → Int) : Prop :=
  (a = none ∧ n = 0 ∧ nil) ∨ (¬ nil ∧ ∃ g, a = some ⟨g, 0, none⟩ ∧ ok g ∧ OwnR w g n c f)

theorem Cur.rd {w : World} {ok : Nat → Prop} {a : Option Addr} {n c : Nat} {nil : Prop} {f : Nat → Int} (h : Cur w ok a n c nil f) : Rd w a n (fun j => .int .u8 (f j)) := by
  rcases h with ⟨_, rfl, _⟩ | ⟨_, g, rfl, _, h⟩
  · exact fun i hi => by omega
  · exact h.rd
theorem Cur.nil_iff {w : World} {ok : Nat → Prop} {a : Option Addr} {n c : Nat} {nil : Prop} {f : Nat → Int} (h : Cur w ok a n c nil f) : a = none ↔ nil := by
  rcases h with ⟨h1, _, h2⟩ | ⟨h1, g, rfl, _, h⟩
  · exact ⟨fun _ => h2, fun _ => h1⟩
  · exact ⟨fun h => absurd h (by simp), fun h => absurd h h1⟩
theorem Cur.drewN {w : World} {ok : Nat → Prop} {a : Option Addr} {n c : Nat} {nil : Prop} {f : Nat → Int} (h : Cur w ok a n c nil f) (k : Nat) : Cur (w.drewN k) ok a n c nil f := by
  rcases h with h | ⟨h1, g, h2, h3, h4⟩
  · exact .inl h
  · exact .inr ⟨h1, g, h2, h3, h4.of_block rfl⟩
theorem Cur.later {w w' : World} {ok : Nat → Prop} {a : Option Addr} {n c : Nat} {nil : Prop} {f : Nat → Int} (h : Cur w ok a n c nil f) (hb : Below w.heap.size w w') : Cur w' ok a n c nil f := by
  rcases h with h | ⟨h1, g, h2, h3, h4⟩
  · exact .inl h
  · exact .inr ⟨h1, g, h2, h3, h4.of_block (hb.block g h4.lt)⟩
/-- .. while blocks of another kind are written. -/
theorem Cur.kept {w w' : World} {ok ok' : Nat → Prop} {a : Option Addr} {n c : Nat} {nil : Prop} {f : Nat → Int} (h : Cur w ok a n c nil f) (hb : Kept ok' w w') (hd : ∀ k, k < w.heap.size → ok k → ¬ ok' k) : Cur w' ok a n c nil f := by
  rcases h with h | ⟨h1, g, h2, h3, h4⟩
  · exact .inl h
  · exact .inr ⟨h1, g, h2, h3, hb.own h4 (hd g h4.lt h3)⟩

theorem zslot_any (ok : Nat → Prop) (a : Option Addr) (n c : Nat) (nil : Prop) (f : Nat → Int) (K : ByteArray) (cp gen : Int) (va : Option Addr) (vl vc : Nat) (vf : Nat → Int) (w : World) (hc : Cur w ok a n c nil f) (hok : ∀ k, w.heap.size ≤ k → ok k)
    (hl : vl ≤ 1048576) (hv : Rd w va vl (fun j => .int .u8 (vf j))) :
    Calls Try.prog 25 #[.int .u64 0, .string K, .slice a n c, .int .u64 cp, .int .u64 gen, .slice va vl vc] w fun e w' =>
      ∃ na nc, e = .returned (.tuple #[.int .u64 0, .string K, .slice na vl nc, .int .u64 gen]) ∧ Cur w' ok na vl nc (va = none) vf ∧ Kept ok w w' := by
  cases va with
  | none =>
    have h0 := hv.none_len
    subst h0
    refine (zslot_nil 0 K a n c cp gen 0 vc w).mono ?_
    rintro e w' ⟨rfl, hb⟩
    exact ⟨none, 0, rfl, .inl ⟨rfl, rfl, rfl⟩, Kept.of_below hb⟩
  | some va =>
    by_cases hr : a ≠ none ∧ cp = gen ∧ n = vl
    · obtain ⟨ha, rfl, rfl⟩ := hr
      rcases hc with ⟨h, _⟩ | ⟨_, g, rfl, hg, ho⟩
      · exact absurd h ha
      · refine (zslot_reuse 0 K g n c cp va vc f vf w ho hv).mono ?_
        rintro e w' ⟨rfl, h1, h2⟩
        exact ⟨_, _, rfl, .inr ⟨by simp, g, rfl, hg, h1⟩, Kept.of_grown h2 hg⟩
    · refine (zslot_fresh 0 K a n c vl cp gen va vc vf w hl hr hv).mono ?_
      rintro e w' ⟨g, cap, rfl, h1, h2, h3⟩
      exact ⟨_, _, rfl, .inr ⟨by simp, g, rfl, hok g h1, h2⟩, Kept.of_below h3⟩

/-- [][]byte cloned: at a block that is given a name; the slices told by themselves. -/
theorem cloneA_g (a : Addr) (n c : Nat) (f : Nat → Sl) (g : Nat → Nat → Int) (w : World) (hn : n ≤ 1048576) (ha : Rd w (some a) n (fun i => (f i).val))
    (hl : ∀ i, i < n → (f i).len ≤ 1048576) (hr : ∀ i, i < n → Rd w (f i).ad (f i).len (fun j => .int .u8 (g i j))) :
    Calls Try.prog 13 #[.slice (some a) n c] w fun e w' => ∃ gV, e = .returned (.slice (some ⟨gV, 0, none⟩) n n) ∧ w.heap.size ≤ gV ∧ Below w.heap.size w w' ∧
      ∃ v : Nat → Sl, w'.rowIs gV 37 n (fun i => (v i).val) ∧ ∀ i, i < n → (v i).len ≤ 1048576 ∧ ((v i).ad = none ↔ (f i).ad = none) ∧ (v i).len = (f i).len ∧
        (((v i).ad = none ∧ (v i).len = 0) ∨ ∃ b, (v i).ad = some ⟨b, 0, none⟩ ∧ gV < b ∧ w'.rowIs b 5 (v i).len (fun j => .int .u8 (g i j))) := by
  refine (cloneA_some a n c f g w hn ha hl hr).mono ?_
  rintro e w' ⟨rfl, hb, v, hv, ho⟩
  refine ⟨_, rfl, Nat.le_refl _, hb, v, hv, fun i hi => ?_⟩
  have h := ho i hi
  have hnil := h.nil_iff
  obtain ⟨h1, ⟨h2, _, h3, _⟩ | ⟨_, _, b, h5, h6, h7⟩⟩ := h
  · exact ⟨by rw [h1]; exact hl i hi, hnil, h1, .inl ⟨h2, by omega⟩⟩
  · exact ⟨by rw [h1]; exact hl i hi, hnil, h1, .inr ⟨b, h6, by omega, by rw [h1]; exact h7⟩⟩

/-- The clones that the script of writes goes on with, as they lie in w. -/
structure Vals (w : World) (gG gV n : Nat) (gf : Nat → Nat) (v : Nat → Sl) (bf : Nat → Nat → Int) : Prop where
  rG : w.rowIs gG 25 n (fun i => .int .u64 (gf i : Int))
  rV : w.rowIs gV 37 n (fun i => (v i).val)
  len : ∀ i, i < n → (v i).len ≤ 1048576
  rB : ∀ i, i < n → ((v i).ad = none ∧ (v i).len = 0) ∨ ∃ b, (v i).ad = some ⟨b, 0, none⟩ ∧ gV < b ∧ w.rowIs b 5 (v i).len (fun j => .int .u8 (bf i j))

theorem Vals.kept {w w' : World} {gG gV n : Nat} {gf : Nat → Nat} {v : Nat → Sl} {bf : Nat → Nat → Int} {ok : Nat → Prop} (h : Vals w gG gV n gf v bf) (hk : Kept ok w w') (h1 : ¬ ok gG) (h2 : ∀ b, gV ≤ b → b < w.heap.size → ¬ ok b) : Vals w' gG gV n gf v bf := by
  refine ⟨hk.row h.rG h1, hk.row h.rV (h2 gV (Nat.le_refl _) h.rV.lt), h.len, fun i hi => ?_⟩
  rcases h.rB i hi with h3 | ⟨b, h3, h4, h5⟩
  · exact .inl h3
  · exact .inr ⟨b, h3, h4, hk.row h5 (h2 b (by omega) h5.lt)⟩

theorem Vals.rd {w : World} {gG gV n : Nat} {gf : Nat → Nat} {v : Nat → Sl} {bf : Nat → Nat → Int} (h : Vals w gG gV n gf v bf) {i : Nat} (hi : i < n) : Rd w (v i).ad (v i).len (fun j => .int .u8 (bf i j)) := by
  rcases h.rB i hi with ⟨_, h2⟩ | ⟨b, h3, h4, h5⟩
  · rw [h2]; exact fun j hj => by omega
  · rw [h3]; exact Rd.row h5 (Nat.le_refl _)

/-- After k writes: the clones, and the slot's value (ca, cn, cc): the (k-1)st value where there was one. -/
structure LW (ok : Nat → Prop) (w3 : World) (gG gV n : Nat) (gf : Nat → Nat) (v : Nat → Sl) (bf : Nat → Nat → Int) (wr : World) (k : Nat) (ca : Option Addr) (cn cc : Nat) : Prop where
  kept : Kept ok w3 wr
  vals : Vals wr gG gV n gf v bf
  cur : ∃ nil f, Cur wr ok ca cn cc nil f
  last : ∀ j, k = j + 1 → cn = (v j).len ∧ Cur wr ok ca cn cc ((v j).ad = none) (bf j)

theorem LW.drewN {ok : Nat → Prop} {w3 : World} {gG gV n : Nat} {gf : Nat → Nat} {v : Nat → Sl} {bf : Nat → Nat → Int} {wr : World} {k : Nat} {ca : Option Addr} {cn cc : Nat} (h : LW ok w3 gG gV n gf v bf wr k ca cn cc) (m : Nat) : LW ok w3 gG gV n gf v bf (wr.drewN m) k ca cn cc := by
  obtain ⟨nil, f, hc⟩ := h.cur
  refine ⟨h.kept.drewN m, ⟨row_drewN h.vals.rG m, row_drewN h.vals.rV m, h.vals.len, fun i hi => ?_⟩, ⟨nil, f, hc.drewN m⟩, fun j hj => ⟨(h.last j hj).1, (h.last j hj).2.drewN m⟩⟩
  rcases h.vals.rB i hi with h3 | ⟨b, h3, h4, h5⟩
  · exact .inl h3
  · exact .inr ⟨b, h3, h4, row_drewN h5 m⟩

/-- What one write of the script leaves. -/
def WPost (ok : Nat → Prop) (w3 : World) (gG gV n : Nat) (gf : Nat → Nat) (v : Nat → Sl) (bf : Nat → Nat → Int) (K : ByteArray) (k : Nat) (va : Option Addr) (vl vc : Nat) (gen : Int) (e : Ending) (w' : World) : Prop :=
  ∃ na nc, e = .returned (.tuple #[.int .u64 0, .string K, .slice na vl nc, .int .u64 gen]) ∧ w'.cell? ⟨gG, k, none⟩ = some (.int .u64 gen) ∧ w'.cell? ⟨gV, k, none⟩ = some (.slice va vl vc) ∧
    Hid (LW ok w3 gG gV n gf v bf w' (k + 1) na vl nc) ∧ Hid (Cur w' ok na vl nc (va = none) (bf k)) ∧ Hid (Rd w' va vl (fun j => .int .u8 (bf k j)))

theorem LW.write {ok : Nat → Prop} {w3 : World} {gG gV n : Nat} {gf : Nat → Nat} {v : Nat → Sl} {bf : Nat → Nat → Int} {wr : World} {k : Nat} {ca : Option Addr} {cn cc : Nat} (h : LW ok w3 gG gV n gf v bf wr k ca cn cc) (hk : k < n)
    (hok : ∀ k, w3.heap.size ≤ k → ok k) (hG : ¬ ok gG) (hV : ∀ b, gV ≤ b → b < w3.heap.size → ¬ ok b) (hVl : Vals w3 gG gV n gf v bf) (K : ByteArray) (cp : Int) (va : Option Addr) (vl vc : Nat) (hv : v k = ⟨va, vl, vc⟩) :
    Calls Try.prog 25 #[.int .u64 0, .string K, .slice ca cn cc, .int .u64 cp, .int .u64 (gf k : Int), .slice va vl vc] wr (WPost ok w3 gG gV n gf v bf K k va vl vc (gf k : Int)) := by
  obtain ⟨nil, f, hc⟩ := h.cur
  have hl := h.vals.len k hk
  have hr := h.vals.rd hk
  rw [hv] at hl hr
  refine (zslot_any ok ca cn cc nil f K cp (gf k : Int) va vl vc (bf k) wr hc (fun j hj => hok j (Nat.le_trans h.kept.size hj)) hl hr).mono ?_
  rintro e w' ⟨na, nc, rfl, hc', hk'⟩
  have kept : Kept ok w3 w' := h.kept.trans hk'
  have vals : Vals w' gG gV n gf v bf := hVl.kept kept hG hV
  have hr' := vals.rd hk
  rw [hv] at hr'
  refine ⟨na, nc, rfl, vals.rG.cell hk, ?_, ⟨kept, vals, ⟨_, _, hc'⟩, fun j hj => ?_⟩, hc', hr'⟩
  · rw [vals.rV.cell hk, hv]; rfl
  · obtain rfl : k = j := by omega
    rw [hv]; exact ⟨rfl, hc'⟩


/-- The second half: only the values' own blocks are written, and they stay rows of bytes. -/
structure L2 (vB : Nat → Prop) (w5 : World) (n : Nat) (v : Nat → Sl) (wq : World) : Prop where
  kept : Kept vB w5 wq
  rows : ∀ i, i < n → ((v i).ad = none ∧ (v i).len = 0) ∨ ∃ b, (v i).ad = some ⟨b, 0, none⟩ ∧ vB b ∧ ∃ g : Nat → Int, wq.rowIs b 5 (v i).len (fun j => .int .u8 (g j))

theorem L2.store {vB : Nat → Prop} {w5 : World} {n : Nat} {v : Nat → Sl} {wq : World} (h : L2 vB w5 n v wq) (b j : Nat) (hb : vB b) (x : Int) : L2 vB w5 n v (wq.setCell ⟨b, j, none⟩ (.int .u8 x)) := by
  refine ⟨h.kept.setCell hb _, fun i hi => ?_⟩
  rcases h.rows i hi with h1 | ⟨b', h1, h2, g, h3⟩
  · exact .inl h1
  · refine .inr ⟨b', h1, h2, ?_⟩
    by_cases e : b' = b
    · subst e
      refine ⟨fun t => if t = j then x else g t, (h3.set j (.int .u8 x)).congr (fun t _ => ?_)⟩
      by_cases e2 : t = j <;> simp [e2]
    · exact ⟨g, row_set_other h3 b j e _⟩

end Go.Proofs.Qxb6602653a
