/-
  The walks of (*slot).write (function 29) and of ZZSlotWrite (25): a nil value; a value written over what the slot holds; a value in new memory.
-/
import Derived.Test.Qxb6602653aCloneAll
import Derived.Laws.CopyOwn
namespace Go.Proofs.Qxb6602653a
open Go.RowKit

/-- A row of the call's own, of 'cap' cells, the first n of them the bytes g. -/
def OwnR (w : World) (b n cap : Nat) (g : Nat → Int) : Prop := n ≤ cap ∧ ∃ h, w.rowIs b 5 cap h ∧ ∀ j, j < n → h j = .int .u8 (g j)
theorem OwnR.of_block {w w' : World} {b n cap : Nat} {g : Nat → Int} (h : OwnR w b n cap g) (e : w'.heap[b]? = w.heap[b]?) : OwnR w' b n cap g := by
  obtain ⟨h1, f, h2, h3⟩ := h
  exact ⟨h1, f, h2.of_block e, h3⟩
theorem OwnR.rd {w : World} {b n cap : Nat} {g : Nat → Int} (h : OwnR w b n cap g) : Rd w (some ⟨b, 0, none⟩) n (fun j => .int .u8 (g j)) := by
  obtain ⟨h1, f, h2, h3⟩ := h
  exact (Rd.row h2 h1).congr h3
theorem OwnR.lt {w : World} {b n cap : Nat} {g : Nat → Int} (h : OwnR w b n cap g) : b < w.heap.size := by
  obtain ⟨h1, f, h2, h3⟩ := h
  exact h2.lt

/-- The cells of a slot. -/
def slotF (h : Int) (k : ByteArray) (v : Value) (cp : Int) : Nat → Value
  | 0 => .pointer none
  | 1 => .int .u64 h
  | 2 => .string k
  | 3 => v
  | _ => .int .u64 cp

theorem grownBy_set {w w1 : World} {row : Option Nat} (h : w.grownBy w1 row) (a : Addr) (ha : row = some a.block) (v : Value) : w.grownBy (w1.setCell a v) row :=
  ⟨h.os, h.tape, h.output, by simpa using h.size, fun k hk hne => (Below.heap_setCell w1 a v k (by rintro rfl; exact hne ha.symm)).trans (h.block k hk hne)⟩

/-- The slot's value and generation written. -/
theorem slot_set {w : World} {S : Nat} {h : Int} {k : ByteArray} {v : Value} {cp : Int} (hs : w.rowIs S 67 5 (slotF h k v cp)) (x : Value) (gen : Int) :
    ((w.setCell ⟨S, 3, none⟩ x).setCell ⟨S, 4, none⟩ (.int .u64 gen)).rowIs S 67 5 (slotF h k x gen) ∧ w.grownBy ((w.setCell ⟨S, 3, none⟩ x).setCell ⟨S, 4, none⟩ (.int .u64 gen)) (some S) := by
  refine ⟨((hs.set 3 x).set 4 (.int .u64 gen)).congr ?_, ?_⟩
  · intro i hi
    rcases (by omega : i = 0 ∨ i = 1 ∨ i = 2 ∨ i = 3 ∨ i = 4) with rfl | rfl | rfl | rfl | rfl <;> simp [slotF]
  · exact grownBy_set (grownBy_set (World.grownBy.refl w (some S)) ⟨S, 3, none⟩ rfl x) ⟨S, 4, none⟩ rfl (.int .u64 gen)

theorem write_nil (S : Nat) (h : Int) (k : ByteArray) (v : Value) (cp gen : Int) (n c : Nat) (w : World) (hs : w.rowIs S 67 5 (slotF h k v cp)) :
    Calls Try.prog 29 #[.pointer (some ⟨S, 0, none⟩), .int .u64 gen, .slice none n c] w fun e w' => e = .returned (.tuple #[]) ∧ w'.rowIs S 67 5 (slotF h k (.slice none 0 0) gen) ∧ w.grownBy w' (some S) := by
  have q := eqlNil Try.underlying37
  have c3 := hs.cell (i := 3) (by omega)
  have c4 := hs.cell (i := 4) (by omega)
  have f3 := hs.frozen 3
  have f4 := hs.frozen 4
  simp only [slotF] at c3 c4
  have HS : Hid (w.rowIs S 67 5 (slotF h k v cp)) := hs
  clear hs
  go_enter Try.func29, Try.ntmps29
  go_wp2
  refine bodyPost_ret (results_none rfl _ _ _) rfl ?_
  exact ⟨rfl, slot_set HS.out _ _⟩

/-- 'copy' over a row of the call's own, as an equation for the walk. -/
theorem copy_run (g n cap : Nat) (va : Addr) (c : Nat) (old vf : Nat → Int) (w : World) (ho : OwnR w g n cap old) (hv : Rd w (some va) n (fun j => .int .u8 (vf j))) :
    ∃ w2, (∀ ty, (Builtin.copy_ #[37, 37] ty #[.slice (some ⟨g, 0, none⟩) n cap, .slice (some va) n c]).run Try.prog w = .ok (.int .i64 n) w2) ∧ OwnR w2 g n cap vf ∧ w.grownBy w2 (some g) := by
  obtain ⟨h1, f, ⟨cur, hb, hsz, hc⟩, h3⟩ := ho
  have hl : ((List.range n).map fun j => Value.int .u8 (vf j)).length = n := by simp
  have hg : ∀ j, j < n → ((List.range n).map fun j => Value.int .u8 (vf j))[j]? = some (.int .u8 (vf j)) := fun j hj => by simp [hj]
  have hm : ∀ u ∈ ((List.range n).map fun j => Value.int .u8 (vf j)), u.oneCell' = true := by
    intro u hu
    obtain ⟨_, _, rfl⟩ := List.mem_map.1 hu
    rfl
  generalize ((List.range n).map fun j => Value.int .u8 (vf j)) = cs at hl hg hm
  have hsrc : ∀ j v, cs[j]? = some v → w.cell? (va.add j) = some v := by
    intro j v hj
    have hjn : j < n := by
      have := (List.getElem?_eq_some_iff.1 hj).1
      omega
    rw [hg j hjn] at hj
    obtain ⟨x, hx, hcx⟩ := hv j hjn
    obtain rfl := Option.some.inj hx
    rw [hcx]; exact hj
  have hr := fun ty => run_copy_row (P := Try.prog) w 37 37 ty 5 g 0 n cap va n c cur 5 cs Try.underlying37 (by kernel_rfl) hb (by simp [hl]) hsrc (by omega) hm
  rw [hl] at hr
  refine ⟨_, hr, ⟨h1, fun j => ((cur.toList.take 0 ++ cs ++ cur.toList.drop (0 + n))[j]?).getD undef, ⟨_, setRow_heap w g cur _ 5 _ hb, ?_, ?_⟩, ?_⟩, ⟨rfl, rfl, rfl, by simp, fun k _ hk => setRow_other w g k _ (fun e => hk (by simp [e]))⟩⟩
  · simp [hl]; omega
  · intro i hi
    have hlt : i < (cur.toList.take 0 ++ cs ++ cur.toList.drop (0 + n)).length := by simp [hl]; omega
    rw [List.getElem?_toArray]
    simp only [List.getElem?_eq_getElem hlt, Option.getD_some]
  · intro j hj
    have : (cur.toList.take 0 ++ cs ++ cur.toList.drop (0 + n))[j]? = some (.int .u8 (vf j)) := by
      simp only [List.take_zero, List.nil_append]
      rw [List.getElem?_append_left (by omega)]
      exact hg j hj
    simp only [this, Option.getD_some]

theorem write_reuse (S : Nat) (h : Int) (k : ByteArray) (g n cap : Nat) (gen : Int) (va : Addr) (c : Nat) (old vf : Nat → Int) (w : World) (hs : w.rowIs S 67 5 (slotF h k (.slice (some ⟨g, 0, none⟩) n cap) gen))
    (ho : OwnR w g n cap old) (hv : Rd w (some va) n (fun j => .int .u8 (vf j))) :
    Calls Try.prog 29 #[.pointer (some ⟨S, 0, none⟩), .int .u64 gen, .slice (some va) n c] w fun e w' => e = .returned (.tuple #[]) ∧ OwnR w' g n cap vf ∧ w.grownBy w' (some g) := by
  have q := eqlNil Try.underlying37
  have c3 := hs.cell (i := 3) (by omega)
  have c4 := hs.cell (i := 4) (by omega)
  simp only [slotF] at c3 c4
  obtain ⟨w2, hcp, h1, h2⟩ := copy_run g n cap va c old vf w ho hv
  clear hs ho hv
  go_enter Try.func29, Try.ntmps29
  go_wp2
  refine bodyPost_ret (results_none rfl _ _ _) rfl ?_
  exact ⟨rfl, h1, h2⟩

/-- A list's bytes as a function. -/
theorem vals_of (n : Nat) (vf : Nat → Int) : ∃ cs : List Value, cs.length = n ∧ (∀ j, j < n → cs[j]? = some (.int .u8 (vf j))) ∧ ∀ u ∈ cs, u.oneCell' = true :=
  ⟨(List.range n).map fun j => Value.int .u8 (vf j), by simp, fun j hj => by simp [hj], fun u hu => by obtain ⟨_, _, rfl⟩ := List.mem_map.1 hu; rfl⟩

/-- 'append([]byte{}, value...)', as an equation for the walk. -/
theorem append_run (n : Nat) (va : Addr) (c : Nat) (vf : Nat → Int) (w : World) (hn : n ≤ 1048576) (hv : Rd w (some va) n (fun j => .int .u8 (vf j))) :
    ∃ g cap w2, (Builtin.append_ #[37, 37] 37 #[.slice (some ⟨w.heap.size, 0, none⟩) 0 0, .slice (some va) n c]).run Try.prog (w.alloc (.cells #[] 5)) = .ok (.slice (some ⟨g, 0, none⟩) n cap) w2 ∧ w.heap.size ≤ g ∧ OwnR w2 g n cap vf ∧ Below w.heap.size w w2 := by
  obtain ⟨cs, hl, hg, hm⟩ := vals_of n vf
  obtain ⟨i0, hi, hz0, hz1, hz2⟩ := info_parts info5
  have hsrc : ∀ j v, cs[j]? = some v → (w.alloc (.cells #[] 5)).cell? (va.add j) = some v := by
    intro j v hj
    have hjn : j < n := by
      have := (List.getElem?_eq_some_iff.1 hj).1
      omega
    rw [hg j hjn] at hj
    obtain ⟨x, hx, hcx⟩ := hv j hjn
    obtain rfl := Option.some.inj hx
    rw [cell_later ((Below.refl _ w).alloc (Nat.le_refl _) _) hcx]; exact hj
  have hown : (w.alloc (.cells #[] 5)).ownsRow w.heap.size 5 1 (.slice (some ⟨w.heap.size, 0, none⟩) 0 0) 0 [] := World.ownsRow_made w #[] 0 (Nat.le_refl _) (by unfold maxLen; omega) (by simp)
  obtain ⟨v', w2, hrun, hown2, hgr, hnil⟩ := run_append_own (P := Try.prog) (w.alloc (.cells #[] 5)) w.heap.size 37 37 5 i0 (.int .u8 0) 1 1 Try.underlying37 hi hz0 hz1 hz2 rfl (by decide) _ 0 [] hown va n c cs (by omega) hsrc hm (by unfold maxLen; omega) (by omega) (by simp)
  simp only [Nat.zero_add, List.nil_append] at hown2
  obtain ⟨hlen, ⟨rfl, hn0⟩ | ⟨g, cap, cur, rfl, hge, hblk, hnc, hcm, hcs, htk⟩⟩ := hown2
  · exact absurd (hnil.1 rfl).1 (by simp)
  · refine ⟨g, cap, w2, hrun, hge, ⟨hnc, fun j => (cur[j]?).getD undef, ⟨cur, hblk, by omega, fun i hi => ?_⟩, fun j hj => ?_⟩, ?_⟩
    · have : i < cur.size := by omega
      simp [this]
    · have h1 : cs[j]? = cur[j]? := by
        rw [← htk, List.getElem?_take, if_pos (by omega)]
        simp
      simp only [← h1, hg j hj, Option.getD_some]
    · exact ((Below.refl _ w).alloc (Nat.le_refl _) _).grown hgr (by simp) (fun k hk => by simp [Value.ownBlock] at hk; omega)

/-- A built-in append whose run is known. -/
theorem wpList_append_run {P : Program} {w w2 : World} {ops : Array Oper} {rest : List Oper} {o : Oper} {a : Act} {Q : Exit → Act → World → Prop} (hg : o.guard = none) (s x : Operand) (t : TypeId)
    (hop : o.op = Op.call { callee := Callee.builtin Builtin.append, args := #[s, x], argTypes := #[t, t] }) (vs vx v' : Value) (hs : a.eval s = vs) (hx : a.eval x = vx)
    (hrun : (Builtin.append_ #[t, t] o.type #[vs, vx]).run P w = .ok v' w2) (hK : wpList P ops Q rest (a.put o.dst v') w2) : wpList P ops Q (o :: rest) a w := by
  refine wpList_plain hg fun K hK' => ?_
  unfold Oper.wp
  simp [execOp, hop, resolve, invoke, builtin, hs, hx, hrun, Result.andThen]
  exact hK' _ _ hK

/-- What a write into new memory leaves. -/
def FreshEnd (S : Nat) (h : Int) (k : ByteArray) (n : Nat) (gen : Int) (vf : Nat → Int) (w : World) (e : Ending) (w' : World) : Prop :=
  e = .returned (.tuple #[]) ∧ ∃ g cap, w'.rowIs S 67 5 (slotF h k (.slice (some ⟨g, 0, none⟩) n cap) gen) ∧ w.heap.size ≤ g ∧ OwnR w' g n cap vf ∧ w.grownBy w' (some S)

theorem fresh_mk {S : Nat} {h : Int} {k : ByteArray} {n : Nat} {v : Value} {cp gen : Int} {vf : Nat → Int} {w w2 : World} {g cap : Nat} (hs : w.rowIs S 67 5 (slotF h k v cp)) (hg : w.heap.size ≤ g) (ho : OwnR w2 g n cap vf) (hb : Below w.heap.size w w2) :
    FreshEnd S h k n gen vf w (.returned (.tuple #[])) ((w2.setCell ⟨S, 3, none⟩ (.slice (some ⟨g, 0, none⟩) n cap)).setCell ⟨S, 4, none⟩ (.int .u64 gen)) := by
  have hS := hs.lt
  have h2 := slot_set (hs.of_block (hb.block S hS)) (.slice (some ⟨g, 0, none⟩) n cap) gen
  refine ⟨rfl, g, cap, h2.1, hg, ho.of_block (h2.2.block g ho.lt (by simp; omega)), ?_⟩
  exact ⟨h2.2.os.trans hb.os, h2.2.tape.trans hb.tape, h2.2.output.trans hb.output, Nat.le_trans hb.size h2.2.size, fun j hj hne => (h2.2.block j (Nat.lt_of_lt_of_le hj hb.size) hne).trans (hb.block j hj)⟩

theorem write_fresh_nil (S : Nat) (h : Int) (k : ByteArray) (on oc n : Nat) (cp gen : Int) (va : Addr) (c : Nat) (vf : Nat → Int) (w : World) (hs : w.rowIs S 67 5 (slotF h k (.slice none on oc) cp)) (hn : n ≤ 1048576)
    (hv : Rd w (some va) n (fun j => .int .u8 (vf j))) :
    Calls Try.prog 29 #[.pointer (some ⟨S, 0, none⟩), .int .u64 gen, .slice (some va) n c] w (FreshEnd S h k n gen vf w) := by
  have q := eqlNil Try.underlying37
  have c3 := hs.cell (i := 3) (by omega)
  have c4 := hs.cell (i := 4) (by omega)
  have f3 := hs.frozen 3
  have f4 := hs.frozen 4
  simp only [slotF] at c3 c4
  have hS := hs.lt
  obtain ⟨g, cap, w2, hap, hg, ho, hb⟩ := append_run n va c vf w hn hv
  have c3' : w2.cell? ⟨S, 3, none⟩ = some (.slice none on oc) := (hb.cell (p := ⟨S, 3, none⟩) hS).trans c3
  have c4' : w2.cell? ⟨S, 4, none⟩ = some (.int .u64 cp) := (hb.cell (p := ⟨S, 4, none⟩) hS).trans c4
  have f3' : w2.frozen? ⟨S, 3, none⟩ = false := (hb.frozen (p := ⟨S, 3, none⟩) hS).trans f3
  have f4' : w2.frozen? ⟨S, 4, none⟩ = false := (hb.frozen (p := ⟨S, 4, none⟩) hS).trans f4
  have HF : Hid (∀ gen, FreshEnd S h k n gen vf w (.returned (.tuple #[])) ((w2.setCell ⟨S, 3, none⟩ (.slice (some ⟨g, 0, none⟩) n cap)).setCell ⟨S, 4, none⟩ (.int .u64 gen))) := fun gen => fresh_mk hs hg ho hb
  clear hs hv ho hb
  go_enter Try.func29, Try.ntmps29
  go_wp2_with (at_builtin; refine wpList_append_run rfl (.tmp 46) (.tmp 47) 37 rfl _ _ _ rfl rfl hap ?_)
  go_end0
  exact HF.out _
theorem write_fresh_gen (S : Nat) (h : Int) (k : ByteArray) (oa : Addr) (on oc n : Nat) (cp gen : Int) (va : Addr) (c : Nat) (vf : Nat → Int) (w : World) (hs : w.rowIs S 67 5 (slotF h k (.slice (some oa) on oc) cp)) (hn : n ≤ 1048576) (hne : (cp == gen) = false)
    (hv : Rd w (some va) n (fun j => .int .u8 (vf j))) :
    Calls Try.prog 29 #[.pointer (some ⟨S, 0, none⟩), .int .u64 gen, .slice (some va) n c] w (FreshEnd S h k n gen vf w) := by
  have q := eqlNil Try.underlying37
  have c3 := hs.cell (i := 3) (by omega)
  have c4 := hs.cell (i := 4) (by omega)
  have f3 := hs.frozen 3
  have f4 := hs.frozen 4
  simp only [slotF] at c3 c4
  have hS := hs.lt
  obtain ⟨g, cap, w2, hap, hg, ho, hb⟩ := append_run n va c vf w hn hv
  have c3' : w2.cell? ⟨S, 3, none⟩ = some (.slice (some oa) on oc) := (hb.cell (p := ⟨S, 3, none⟩) hS).trans c3
  have c4' : w2.cell? ⟨S, 4, none⟩ = some (.int .u64 cp) := (hb.cell (p := ⟨S, 4, none⟩) hS).trans c4
  have f3' : w2.frozen? ⟨S, 3, none⟩ = false := (hb.frozen (p := ⟨S, 3, none⟩) hS).trans f3
  have f4' : w2.frozen? ⟨S, 4, none⟩ = false := (hb.frozen (p := ⟨S, 4, none⟩) hS).trans f4
  have HF : Hid (∀ gen, FreshEnd S h k n gen vf w (.returned (.tuple #[])) ((w2.setCell ⟨S, 3, none⟩ (.slice (some ⟨g, 0, none⟩) n cap)).setCell ⟨S, 4, none⟩ (.int .u64 gen))) := fun gen => fresh_mk hs hg ho hb
  clear hs hv ho hb
  go_enter Try.func29, Try.ntmps29
  go_wp2_with (at_builtin; refine wpList_append_run rfl (.tmp 46) (.tmp 47) 37 rfl _ _ _ rfl rfl hap ?_)
  go_end0
  exact HF.out _
theorem write_fresh_len (S : Nat) (h : Int) (k : ByteArray) (oa : Addr) (on oc n : Nat) (gen : Int) (va : Addr) (c : Nat) (vf : Nat → Int) (w : World) (hs : w.rowIs S 67 5 (slotF h k (.slice (some oa) on oc) gen)) (hn : n ≤ 1048576) (hne : ((on : Int) == (n : Int)) = false)
    (hv : Rd w (some va) n (fun j => .int .u8 (vf j))) :
    Calls Try.prog 29 #[.pointer (some ⟨S, 0, none⟩), .int .u64 gen, .slice (some va) n c] w (FreshEnd S h k n gen vf w) := by
  have q := eqlNil Try.underlying37
  have c3 := hs.cell (i := 3) (by omega)
  have c4 := hs.cell (i := 4) (by omega)
  have f3 := hs.frozen 3
  have f4 := hs.frozen 4
  simp only [slotF] at c3 c4
  have hS := hs.lt
  obtain ⟨g, cap, w2, hap, hg, ho, hb⟩ := append_run n va c vf w hn hv
  have c3' : w2.cell? ⟨S, 3, none⟩ = some (.slice (some oa) on oc) := (hb.cell (p := ⟨S, 3, none⟩) hS).trans c3
  have c4' : w2.cell? ⟨S, 4, none⟩ = some (.int .u64 gen) := (hb.cell (p := ⟨S, 4, none⟩) hS).trans c4
  have f3' : w2.frozen? ⟨S, 3, none⟩ = false := (hb.frozen (p := ⟨S, 3, none⟩) hS).trans f3
  have f4' : w2.frozen? ⟨S, 4, none⟩ = false := (hb.frozen (p := ⟨S, 4, none⟩) hS).trans f4
  have HF : Hid (∀ gen, FreshEnd S h k n gen vf w (.returned (.tuple #[])) ((w2.setCell ⟨S, 3, none⟩ (.slice (some ⟨g, 0, none⟩) n cap)).setCell ⟨S, 4, none⟩ (.int .u64 gen))) := fun gen => fresh_mk hs hg ho hb
  clear hs hv ho hb
  go_enter Try.func29, Try.ntmps29
  go_wp2_with (at_builtin; refine wpList_append_run rfl (.tmp 46) (.tmp 47) 37 rfl _ _ _ rfl rfl hap ?_)
  go_end0
  exact HF.out _

theorem write_fresh (S : Nat) (h : Int) (k : ByteArray) (oa : Option Addr) (on oc n : Nat) (cp gen : Int) (va : Addr) (c : Nat) (vf : Nat → Int) (w : World) (hs : w.rowIs S 67 5 (slotF h k (.slice oa on oc) cp)) (hn : n ≤ 1048576)
    (hno : ¬ (oa ≠ none ∧ cp = gen ∧ on = n)) (hv : Rd w (some va) n (fun j => .int .u8 (vf j))) :
    Calls Try.prog 29 #[.pointer (some ⟨S, 0, none⟩), .int .u64 gen, .slice (some va) n c] w (FreshEnd S h k n gen vf w) := by
  cases oa with
  | none => exact write_fresh_nil S h k on oc n cp gen va c vf w hs hn hv
  | some oa =>
    by_cases hg : cp = gen
    · subst hg
      exact write_fresh_len S h k oa on oc n cp va c vf w hs hn (by simp at hno ⊢; omega) hv
    · exact write_fresh_gen S h k oa on oc n cp gen va c vf w hs hn (by simpa using hg) hv

/-- The slot that ZZSlotWrite lays. -/
theorem slot_laid (w : World) (h : Int) (k : ByteArray) (v : Value) (cp : Int) : (w.alloc (.cells #[.pointer none, .int .u64 h, .string k, v, .int .u64 cp] 67)).rowIs w.heap.size 67 5 (slotF h k v cp) :=
  World.rowIs_alloc w #[.pointer none, .int .u64 h, .string k, v, .int .u64 cp] 67 (slotF h k v cp) (by
    intro i hi
    rcases (by simp at hi; omega : i = 0 ∨ i = 1 ∨ i = 2 ∨ i = 3 ∨ i = 4) with rfl | rfl | rfl | rfl | rfl <;> simp [slotF])

theorem zslot_nil (h : Int) (k : ByteArray) (oa : Option Addr) (ol oc : Nat) (cp gen : Int) (n c : Nat) (w : World) :
    Calls Try.prog 25 #[.int .u64 h, .string k, .slice oa ol oc, .int .u64 cp, .int .u64 gen, .slice none n c] w fun e w' => e = .returned (.tuple #[.int .u64 h, .string k, .slice none 0 0, .int .u64 gen]) ∧ Below w.heap.size w w' := by
  go_enter Try.func25, Try.ntmps25
  go_wp2_with fail
  refine (write_nil w.heap.size h k (.slice oa ol oc) cp gen n c _ (slot_laid w h k _ cp)).mono ?_
  rintro e w1 ⟨rfl, hs, hg⟩
  have c1 := hs.cell (i := 1) (by omega)
  have c2 := hs.cell (i := 2) (by omega)
  have c3 := hs.cell (i := 3) (by omega)
  have c4 := hs.cell (i := 4) (by omega)
  simp only [slotF] at c1 c2 c3 c4
  have HB : Hid (Below w.heap.size w w1) := ((Below.refl _ w).alloc (Nat.le_refl _) _).grown hg (by simp) (fun k hk => by cases hk; exact Nat.le_refl _)
  clear hs hg
  go_wp2
  go_quiet (fail)
  go_wp2
  exact bodyPost_ret (v := .tuple #[.int .u64 h, .string k, .slice none 0 0, .int .u64 gen]) (by simp [results, Try.results25, go_sem]) rfl ⟨rfl, below_drewN HB.out _⟩

theorem grownBy_drewN {w w1 : World} {row : Option Nat} (h : w.grownBy w1 row) (k : Nat) : w.grownBy (w1.drewN k) row := ⟨h.os, h.tape, h.output, h.size, h.block⟩

theorem zslot_reuse (h : Int) (k : ByteArray) (g n cap : Nat) (gen : Int) (va : Addr) (c : Nat) (old vf : Nat → Int) (w : World) (ho : OwnR w g n cap old) (hv : Rd w (some va) n (fun j => .int .u8 (vf j))) :
    Calls Try.prog 25 #[.int .u64 h, .string k, .slice (some ⟨g, 0, none⟩) n cap, .int .u64 gen, .int .u64 gen, .slice (some va) n c] w fun e w' => e = .returned (.tuple #[.int .u64 h, .string k, .slice (some ⟨g, 0, none⟩) n cap, .int .u64 gen]) ∧ OwnR w' g n cap vf ∧ w.grownBy w' (some g) := by
  have hlt := ho.lt
  have HO : Hid (∀ o, OwnR (w.alloc o) g n cap old) := fun o => ho.of_block (Below.heap_alloc w o g hlt)
  have HV : Hid (∀ o, Rd (w.alloc o) (some va) n (fun j => .int .u8 (vf j))) := fun o => hv.later ((Below.refl _ w).alloc (Nat.le_refl _) o)
  clear ho hv
  go_enter Try.func25, Try.ntmps25
  go_wp2_with fail
  refine (write_reuse w.heap.size h k g n cap gen va c old vf _ (slot_laid w h k _ gen) (HO.out _) (HV.out _)).mono ?_
  rintro e w1 ⟨rfl, ho1, hg⟩
  have hs := (slot_laid w h k (.slice (some ⟨g, 0, none⟩) n cap) gen).of_block (hg.block w.heap.size (by simp) (by simp; omega))
  have c1 := hs.cell (i := 1) (by omega)
  have c2 := hs.cell (i := 2) (by omega)
  have c3 := hs.cell (i := 3) (by omega)
  have c4 := hs.cell (i := 4) (by omega)
  simp only [slotF] at c1 c2 c3 c4
  have HB : Hid (w.grownBy w1 (some g)) := (World.grownBy_alloc w _ (some g)).trans hg
  have HO1 : Hid (∀ m, OwnR (w1.drewN m) g n cap vf) := fun m => ho1.of_block rfl
  clear hs hg ho1
  go_wp2
  go_quiet (fail)
  go_wp2
  exact bodyPost_ret (v := .tuple #[.int .u64 h, .string k, .slice (some ⟨g, 0, none⟩) n cap, .int .u64 gen]) (by simp [results, Try.results25, go_sem]) rfl ⟨rfl, HO1.out _, grownBy_drewN HB.out _⟩

/-- What ZZSlotWrite leaves where it makes a new value. -/
def ZFreshEnd (h : Int) (k : ByteArray) (n : Nat) (gen : Int) (vf : Nat → Int) (w : World) (e : Ending) (w' : World) : Prop :=
  ∃ g cap, e = .returned (.tuple #[.int .u64 h, .string k, .slice (some ⟨g, 0, none⟩) n cap, .int .u64 gen]) ∧ w.heap.size ≤ g ∧ OwnR w' g n cap vf ∧ Below w.heap.size w w'

theorem zslot_fresh (h : Int) (k : ByteArray) (oa : Option Addr) (on oc n : Nat) (cp gen : Int) (va : Addr) (c : Nat) (vf : Nat → Int) (w : World) (hn : n ≤ 1048576) (hno : ¬ (oa ≠ none ∧ cp = gen ∧ on = n)) (hv : Rd w (some va) n (fun j => .int .u8 (vf j))) :
    Calls Try.prog 25 #[.int .u64 h, .string k, .slice oa on oc, .int .u64 cp, .int .u64 gen, .slice (some va) n c] w (ZFreshEnd h k n gen vf w) := by
  have HV : Hid (∀ o, Rd (w.alloc o) (some va) n (fun j => .int .u8 (vf j))) := fun o => hv.later ((Below.refl _ w).alloc (Nat.le_refl _) o)
  have HN : Hid (¬ (oa ≠ none ∧ cp = gen ∧ on = n)) := hno
  clear hv hno
  go_enter Try.func25, Try.ntmps25
  go_wp2_with fail
  refine (write_fresh w.heap.size h k oa on oc n cp gen va c vf _ (slot_laid w h k _ cp) hn HN.out (HV.out _)).mono ?_
  rintro e w1 ⟨rfl, g, cap, hs, hge, ho1, hg⟩
  have c1 := hs.cell (i := 1) (by omega)
  have c2 := hs.cell (i := 2) (by omega)
  have c3 := hs.cell (i := 3) (by omega)
  have c4 := hs.cell (i := 4) (by omega)
  simp only [slotF] at c1 c2 c3 c4
  have HB : Hid (Below w.heap.size w w1) := ((Below.refl _ w).alloc (Nat.le_refl _) _).grown hg (by simp) (fun k hk => by cases hk; exact Nat.le_refl _)
  have HO1 : Hid (∀ m, OwnR (w1.drewN m) g n cap vf) := fun m => ho1.of_block rfl
  have hge' : w.heap.size ≤ g := by simp at hge; omega
  clear hs hg ho1 hge
  go_wp2
  go_quiet (fail)
  go_wp2
  exact bodyPost_ret (v := .tuple #[.int .u64 h, .string k, .slice (some ⟨g, 0, none⟩) n cap, .int .u64 gen]) (by simp [results, Try.results25, go_sem]) rfl ⟨g, cap, rfl, hge', HO1.out _, below_drewN HB.out _⟩
end Go.Proofs.Qxb6602653a
