/- FnBatchGroupsEachNodesNotesInOrder (3): its loops' relations. -/
import Derived.Test.Qxb6000535aSeek
import Derived.Test.Qxb6000535aRead
import Derived.Deep.MidRow
namespace Go.Proofs.Qxb6000535a
open Go.ChangeShapes Go.WideShapes Go.ChangeAt Go.RowKit

/-- 'm[s]' on a map of the call's own that is the function f. -/
theorem wpList_look1 (w : World) {ops : Array Oper} {rest : List Oper} {o : Oper} {a : Act} {Q : Exit → Act → World → Prop} (hg : o.guard = none) (m x : Operand) (hop : o.op = Op.lookup 30 m x false)
    (b n : Nat) (D : DataW Unit) (f : ByteArray → Option Int) (hm : a.eval m = .map (some b)) (hown : w.ownsMap Try.prog 9 (plainElem Try.prog 3) b n D) (hD : MapIs D f)
    (s : ByteArray) (hx : a.eval x = .string s) (hs : s.size ≤ maxLen) (c : Int) (hc : (f s).getD 0 = c)
    (hK : wpList Try.prog ops Q rest (a.put o.dst (.int .i64 c)) w) : wpList Try.prog ops Q (o :: rest) a w := by
  refine wpList_lookup_own_int w hg m x 30 hop 9 3 .i64 law Try.underlying30 Try.underlying3 (zero3 w) b n D hm hown (.string s) (keyLit s) hx (keyOf9 hs) ?_
  intro c' hat _
  have e1 := hD.look s hat
  rw [hc] at e1
  rw [e1]
  exact hK

theorem ownsMap_below {w w' : World} {b n : Nat} {D : DataW Unit} (h : w.ownsMap Try.prog 9 (plainElem Try.prog 3) b n D) {B : Nat} (hb : Below B w w') (hlt : b < B) : w'.ownsMap Try.prog 9 (plainElem Try.prog 3) b n D := by
  obtain ⟨es, clock, h1, h2⟩ := h
  exact ⟨es, clock, by rw [hb.block b hlt]; exact h1, h2⟩

theorem grown_setCells (b : Nat) : ∀ (vs : List Value) (o : Nat) (w : World), w.grownBy (w.setCells b o vs) (some b)
  | [], _, _ => World.grownBy.refl _ _
  | v :: vs, o, w => by
    have h1 : w.grownBy (w.setCell ⟨b, o, none⟩ v) (some b) := ⟨rfl, rfl, rfl, by simp, fun k _ hk => Below.heap_setCell w ⟨b, o, none⟩ v k (fun e => hk (by rw [e]))⟩
    exact h1.trans (grown_setCells b vs (o + 1) (w.setCell ⟨b, o, none⟩ v))

theorem size41 (cs : List Value) (h : cs.length = 20) : (Try.prog.info? 41).map (·.size) = some cs.length := by
  rw [h]
  kernel_rfl
theorem msgCells_length (f t : ByteArray) (nv : Value) : (msgCells f t nv).length = 20 := rfl

/-- 'm := ms[mi]': the message out of its row. -/
theorem wpList_load_msg {ops : Array Oper} {rest : List Oper} {op : Oper} {a : Act} {w : World} {Q : Exit → Act → World → Prop} (hgd : op.guard = none) (x : Operand) (ho : op.op = .load 41 x)
    (b o : Nat) (hx : a.eval x = .pointer (some ⟨b, o, none⟩)) (f t : ByteArray) (nv : Value) (hc : w.rangeAt b o (msgCells f t nv))
    (h : wpList Try.prog ops Q rest (a.put op.dst (.agg (msgCells f t nv).toArray)) w) : wpList Try.prog ops Q (op :: rest) a w :=
  wpList_load_mid hgd 41 x ho b o hx (msgCells f t nv) _ hc Try.underlying41 rfl (size41 _ (msgCells_length f t nv)) h

/-- The law's own copy of a message: a block of its own. -/
structure Own20 (w : World) (b : Nat) (f t : ByteArray) (nv : Value) : Prop where
  c0 : w.cell? ⟨b, 0, none⟩ = some (.string ⟨#[110, 111, 116, 101, 115]⟩)
  c1 : w.cell? ⟨b, 1, none⟩ = some (.string .empty)
  c2 : w.cell? ⟨b, 2, none⟩ = some (.string f)
  c3 : w.cell? ⟨b, 3, none⟩ = some (.string t)
  c19 : w.cell? ⟨b, 19, none⟩ = some nv
theorem Own20.stays {w w' : World} {b B : Nat} {f t : ByteArray} {nv : Value} (h : Own20 w b f t nv) (hb : Below B w w') (hlt : b < B) : Own20 w' b f t nv :=
  ⟨(hb.cell hlt).trans h.c0, (hb.cell hlt).trans h.c1, (hb.cell hlt).trans h.c2, (hb.cell hlt).trans h.c3, (hb.cell hlt).trans h.c19⟩

/-- Its store into the new block: the world behind it is a letter. -/
theorem wpList_store_msg {ops : Array Oper} {rest : List Oper} {op : Oper} {a : Act} {w : World} {Q : Exit → Act → World → Prop} (hgd : op.guard = none) (x y : Operand) (ho : op.op = .store 41 x y) (cs : Array Value)
    (f t : ByteArray) (nv : Value) (hnv : nv.oneCell' = true) (hcs : cs.size = 20) (hx : a.eval x = .pointer (some ⟨w.heap.size, 0, none⟩)) (hy : a.eval y = .agg (msgCells f t nv).toArray)
    (h : ∀ w', Own20 w' w.heap.size f t nv → w.grownBy w' none → w.heap.size < w'.heap.size → wpList Try.prog ops Q rest (a.put op.dst undef) w') : wpList Try.prog ops Q (op :: rest) a (w.alloc (.cells cs 41)) := by
  have hblk := heap_alloc_new w (.cells cs 41)
  have hthere : (w.alloc (.cells cs 41)).there w.heap.size 0 (msgCells f t nv).toArray.size := fun j hj => by
    have hj' : j < 20 := by simpa [msgCells_length] using hj
    refine ⟨?_, frozen_of_row _ _ _ cs 41 hblk⟩
    rw [cell_of_row _ _ _ cs 41 (0, 0) hblk, Nat.zero_add, Array.getElem?_eq_getElem (by omega)]
    rfl
  refine wpList_store_mid hgd 41 x y ho w.heap.size 0 (msgCells f t nv).toArray hx hy hthere (by rw [List.size_toArray]; exact size41 _ (msgCells_length f t nv)) ?_ ?_
  · apply all_oneCell_toArray
    intro v hv
    simp only [msgCells, List.mem_cons, List.not_mem_nil, or_false] at hv
    rcases hv with rfl | rfl | rfl | rfl | rfl | rfl | rfl | rfl | rfl | rfl | rfl | rfl | rfl | rfl | rfl | rfl | rfl | rfl | rfl | rfl <;> first | exact hnv | rfl
  · have hr := World.rangeAt_setCells_same (w.alloc (.cells cs 41)) w.heap.size 0 (msgCells f t nv) (by simpa using hthere)
    have hg := grown_setCells w.heap.size (msgCells f t nv) 0 (w.alloc (.cells cs 41))
    have hg0 := World.grownBy_alloc w (.cells cs 41) none
    have hs : (w.alloc (.cells cs 41)).heap.size = w.heap.size + 1 := by simp
    refine h _ ⟨hr 0 _ rfl, hr 1 _ rfl, hr 2 _ rfl, hr 3 _ rfl, hr 19 _ rfl⟩ ⟨hg.os.trans hg0.os, hg.tape.trans hg0.tape, hg.output.trans hg0.output, Nat.le_trans hg0.size hg.size, fun k hk _ => ?_⟩ (by have h5 : (w.alloc (.cells cs 41)).heap.size ≤ ((w.alloc (.cells cs 41)).setCells w.heap.size 0 (msgCells f t nv).toArray.toList).heap.size := hg.size; omega)
    rw [hg.block k (by omega) (by simp; omega)]
    exact hg0.block k hk (by simp)

/-- The first loop: places from e on are done. b: the row 'next'; c: the map 'first'. -/
structure Rel1 (w2 wr : World) (c : Nat) (N : Nat → NtTo) (n e : Nat) : Prop where
  row : ∃ xs, wr.ownsRow w2.heap.size 3 1 (.slice (some ⟨w2.heap.size, 0, none⟩) n n) n xs ∧ ∀ j, e ≤ j → j < n → xs[j]? = some (.int .i64 (Pos.nx N n j))
  map : ∃ D, wr.ownsMap Try.prog 9 (plainElem Try.prog 3) c (n - e) D ∧ MapIs D (Pos.asInt (Pos.from_ N n e))
  below : Below w2.heap.size w2 wr
  bc : w2.heap.size < c

theorem Rel1.start {w2 w3 : World} {N : Nat → NtTo} {n : Nat} {xs : List Value} (hown : w3.ownsRow w2.heap.size 3 1 (.slice (some ⟨w2.heap.size, 0, none⟩) n n) n xs) (hg : w2.grownBy w3 none) : Rel1 w2 (w3.alloc (.map #[] 0)) w3.heap.size N n n := by
  refine ⟨⟨xs, hown.alloc _, fun j h1 h2 => by omega⟩, ⟨.map [], by rw [Nat.sub_self]; exact World.ownsMap_made _ _ _ _, ?_⟩, ?_, (hown.lt _ rfl).2⟩
  · have e : Pos.asInt (Pos.from_ N n n) = fun _ => none := by
      funext t
      simp [Pos.asInt, Pos.from_end]
    rw [e]
    exact MapIs.made
  · have h1 : Below w2.heap.size w2 w3 := (Below.refl _ _).grown hg (Nat.le_refl _) (fun k h => by cases h)
    exact h1.alloc h1.size _

theorem Rel1.next {w2 wr w4 : World} {c : Nat} {N : Nat → NtTo} {n e : Nat} {D' : DataW Unit} (h : Rel1 w2 wr c N n (e + 1)) (he : e < n)
    (hmap : w4.ownsMap Try.prog 9 (plainElem Try.prog 3) c (n - (e + 1) + 1) D') (hD : MapIs D' (fun t => if t = (N e).1 then some (e : Int) else Pos.asInt (Pos.from_ N n (e + 1)) t))
    (hg : (wr.setCell ⟨w2.heap.size, e, none⟩ (.int .i64 (Pos.nx N n e))).grownBy w4 (some c)) : Rel1 w2 w4 c N n e := by
  obtain ⟨xs, hx, hxc⟩ := h.row
  have hst := hx.stored e (.int .i64 (Pos.nx N n e))
  have hbc := h.bc
  refine ⟨⟨_, hst.1.kept hg (by right; simp [Value.ownBlock]; omega), fun j h1 h2 => ?_⟩, ⟨D', by rw [show n - e = n - (e + 1) + 1 from by omega]; exact hmap, ?_⟩, ?_, hbc⟩
  · have hl := hx.1
    by_cases ej : j = e
    · subst ej
      rw [List.getElem?_set_self (by omega)]
    · rw [List.getElem?_set_ne (Ne.symm ej)]
      exact hxc j (by omega) h2
  · have e2 : Pos.asInt (Pos.from_ N n e) = fun t => if t = (N e).1 then some (e : Int) else Pos.asInt (Pos.from_ N n (e + 1)) t := by
      funext t
      simp only [Pos.asInt, Pos.from_step N n e he]
      split <;> rfl
    rw [e2]
    exact hD
  · have h1 : Below w2.heap.size w2 (wr.setCell ⟨w2.heap.size, e, none⟩ (.int .i64 (Pos.nx N n e))) := h.below.setCell (p := ⟨w2.heap.size, e, none⟩) (Nat.le_refl _) _
    exact h1.grown hg h1.size (fun k hk => by cases hk; omega)

theorem Rel1.there {w2 wr : World} {c : Nat} {N : Nat → NtTo} {n e j : Nat} (h : Rel1 w2 wr c N n e) (hj : j < n) : ∃ u, wr.cell? ⟨w2.heap.size, j, none⟩ = some u := by
  obtain ⟨xs, hx, _⟩ := h.row
  rw [hx.cellAt j (by omega)]
  exact ⟨xs[j]'(by rw [hx.1]; omega), List.getElem?_eq_getElem _⟩
theorem Rel1.free {w2 wr : World} {c : Nat} {N : Nat → NtTo} {n e : Nat} (h : Rel1 w2 wr c N n e) (j : Nat) : wr.frozen? ⟨w2.heap.size, j, none⟩ = false := by
  obtain ⟨xs, hx, _⟩ := h.row
  exact hx.frozenAt j
theorem Rel1.done {w2 wr : World} {c : Nat} {N : Nat → NtTo} {n : Nat} (h : Rel1 w2 wr c N n 0) : ∀ j, j < n → wr.cell? ⟨w2.heap.size, j, none⟩ = some (.int .i64 (Pos.nx N n j)) := by
  intro j hj
  obtain ⟨xs, hx, hc⟩ := h.row
  rw [hx.cellAt j (by omega)]
  exact hc j (Nat.zero_le _) hj

/-- The second loop: mi messages are read. -/
structure Rel2 (W wr : World) (N : Nat → NtTo) (n mi : Nat) : Prop where
  cur : ∃ D, wr.ownsMap Try.prog 9 (plainElem Try.prog 3) W.heap.size mi D ∧ MapIs D (Pos.curF N n (Pos.st N n).1 mi)
  lens : ∃ D, wr.ownsMap Try.prog 9 (plainElem Try.prog 3) (W.heap.size + 1) mi D ∧ MapIs D (Pos.lenF (Pos.st N n).1 mi)
  below : Below W.heap.size W wr
  size : W.heap.size + 2 ≤ wr.heap.size

theorem Rel2.start (W : World) (N : Nat → NtTo) (n : Nat) : Rel2 W ((W.alloc (.map #[] 0)).alloc (.map #[] 0)) N n 0 := by
  have e1 : Pos.curF N n (Pos.st N n).1 0 = fun _ => none := rfl
  have e2 : Pos.lenF (Pos.st N n).1 0 = fun _ => none := rfl
  refine ⟨⟨.map [], (World.ownsMap_made _ _ _ _).alloc _, by rw [e1]; exact MapIs.made⟩, ⟨.map [], ?_, by rw [e2]; exact MapIs.made⟩, ?_, by simp⟩
  · have h := World.ownsMap_made (H := Unit) (W.alloc (.map #[] 0)) Try.prog 9 (plainElem Try.prog 3)
    have e : (W.alloc (.map #[] 0)).heap.size = W.heap.size + 1 := by simp
    rw [e] at h
    exact h
  · exact ((Below.refl _ _).alloc (Nat.le_refl _) _).alloc (by simp) _

theorem Rel2.next {W wx w6 w7 : World} {N : Nat → NtTo} {n mi : Nat} {m : Pos.PMsg} {D6 D7 : DataW Unit} (hm : (Pos.st N n).1[mi]? = some m) (hbel : Below W.heap.size W wx) (hsz : W.heap.size + 2 ≤ wx.heap.size)
    (h6 : w6.ownsMap Try.prog 9 (plainElem Try.prog 3) W.heap.size (mi + 1) D6) (hD6 : MapIs D6 (fun u => if u = m.1 then some (Pos.curAt N n m m.2.length) else Pos.curF N n (Pos.st N n).1 mi u)) (hg6 : wx.grownBy w6 (some W.heap.size))
    (h7 : w7.ownsMap Try.prog 9 (plainElem Try.prog 3) (W.heap.size + 1) (mi + 1) D7) (hD7 : MapIs D7 (fun u => if u = m.1 then some (m.2.length : Int) else Pos.lenF (Pos.st N n).1 mi u)) (hg7 : w6.grownBy w7 (some (W.heap.size + 1))) : Rel2 W w7 N n (mi + 1) := by
  have hb6 : Below W.heap.size W w6 := hbel.grown hg6 (by omega) (fun k hk => by cases hk; exact Nat.le_refl _)
  have hb7 : Below W.heap.size W w7 := hb6.grown hg7 hb6.size (fun k hk => by cases hk; omega)
  refine ⟨⟨D6, h6.kept hg7 (by simp), ?_⟩, ⟨D7, h7, ?_⟩, hb7, ?_⟩
  · rw [Pos.curF_step hm, ← Pos.curAt_end]
    exact hD6
  · rw [Pos.lenF_step hm]
    exact hD7
  · have h1 := hg6.size
    have h2 := hg7.size
    omega
theorem cur_wf {N : Nat → NtTo} {n mi : Nat} {m : Pos.PMsg} (hm : (Pos.st N n).1[mi]? = some m) (hn : n ≤ 1048576) : (Lit.int .i64 (Pos.curAt N n m m.2.length)).wf = true := by
  have inv := Pos.inv_st N n
  have hs := inv.size mi m hm
  obtain ⟨z, hz⟩ : ∃ z, m.2[m.2.length - 1]? = some z := ⟨m.2[m.2.length - 1]'(by omega), List.getElem?_eq_getElem _⟩
  have he := inv.elt mi m hm _ z hz
  have hb := Pos.nx_bd N n z he.1
  rw [Pos.curAt_end, Pos.lastP_eq hz]
  exact WalkArith.wf_i64 (by omega)
end Go.Proofs.Qxb6000535a
