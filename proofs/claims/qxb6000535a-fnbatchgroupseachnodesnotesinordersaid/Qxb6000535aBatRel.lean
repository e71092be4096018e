/- Batch (8): the loop's relation, and the laws that its round takes at its operations. -/
import Derived.Test.Qxb6000535aNotes
import Derived.Test.Qxb6000535aMem
namespace Go.Proofs.Qxb6000535a
open Go.ChangeShapes Go.WideShapes Go.ChangeAt Go.RowKit

/-- 'c, ok := m[s]' on a map of the call's own that is the function f. -/
theorem wpList_look (w : World) {ops : Array Oper} {rest : List Oper} {o : Oper} {a : Act} {Q : Exit → Act → World → Prop} (hg : o.guard = none) (m x : Operand) (hop : o.op = Op.lookup 30 m x true)
    (b n : Nat) (D : DataW Unit) (f : ByteArray → Option Int) (hm : a.eval m = .map (some b)) (hown : w.ownsMap Try.prog 9 (plainElem Try.prog 3) b n D) (hD : MapIs D f)
    (s : ByteArray) (hx : a.eval x = .string s) (hs : s.size ≤ maxLen) (c : Int) (ok : Bool) (hc : (f s).getD 0 = c) (hok : (f s).isSome = ok)
    (hK : wpList Try.prog ops Q rest (a.put o.dst (.tuple #[.int .i64 c, .bool ok])) w) : wpList Try.prog ops Q (o :: rest) a w := by
  refine wpList_lookup_own_ok_int w hg m x 30 hop 9 3 .i64 law Try.underlying30 Try.underlying3 (zero3 w) b n D hm hown (.string s) (keyLit s) hx (keyOf9 hs) ?_
  intro c' hat _
  have e1 := hD.look s hat
  rw [hc] at e1
  have e2 := hD.has s
  rw [hok] at e2
  rw [e1, e2]
  exact hK

/-- 'm[s] = c' on such a map. -/
theorem wpList_mark (w : World) {ops : Array Oper} {rest : List Oper} {o : Oper} {a : Act} {Q : Exit → Act → World → Prop} (hg : o.guard = none) (m x v : Operand) (hop : o.op = Op.mapUpdate 30 m x v)
    (b n : Nat) (D : DataW Unit) (f : ByteArray → Option Int) (hm : a.eval m = .map (some b)) (hown : w.ownsMap Try.prog 9 (plainElem Try.prog 3) b n D) (hD : MapIs D f)
    (s : ByteArray) (hx : a.eval x = .string s) (hs : s.size ≤ maxLen) (hn : n < maxLen) (c : Int) (hv : a.eval v = .int .i64 c) (hw : (Lit.int .i64 c).wf = true)
    (hK : ∀ w' D', w'.ownsMap Try.prog 9 (plainElem Try.prog 3) b (n + 1) D' → MapIs D' (fun t => if t = s then some c else f t) → w.grownBy w' (some b) → wpList Try.prog ops Q rest (a.put o.dst undef) w') : wpList Try.prog ops Q (o :: rest) a w := by
  refine wpList_mapUpdate_own w hg m x v 30 hop 9 3 law Try.underlying30 (plainElem Try.prog 3) b n D hm hown hn (.string s) (.int .i64 c) (keyLit s) hx hv (keyOf9 hs) (.lit (.int .i64 c)) [] (plainElem_int Try.underlying3 hw) ?_
  intro w' h1 h2
  exact hK w' _ h1 (hD.put s c) h2

def asInts (last : ByteArray → Option Nat) : ByteArray → Option Int := fun t => (last t).map (fun i => (i : Int))

structure BatRel (w wr : World) (f : ByteArray) (N : Nat → NtTo) (k : Nat) (v : Value) : Prop where
  ms : ∃ nvs, MsOwn wr (w.heap.size + 1) f v (Bat.st N k).1 nvs
  map : ∃ D, wr.ownsMap Try.prog 9 (plainElem Try.prog 3) w.heap.size k D ∧ MapIs D (asInts (Bat.st N k).2)
  below : Below w.heap.size w wr
  size : w.heap.size + 1 ≤ wr.heap.size

theorem BatRel.start (w : World) (f : ByteArray) (N : Nat → NtTo) : BatRel w (w.alloc (.map #[] 0)) f N 0 (.slice none 0 0) :=
  ⟨⟨[], MsOwn.made _ _ _⟩, ⟨_, World.ownsMap_made _ _ _ _, MapIs.made⟩, (Below.refl _ _).alloc (Nat.le_refl _) _, by simp⟩

theorem ownsRow_shape {w : World} {base e z n : Nat} {v : Value} {xs : List Value} (h : w.ownsRow base e z v n xs) : ∃ ao c, v = .slice ao n c ∧ (0 < n → ∃ g, ao = some ⟨g, 0, none⟩ ∧ base ≤ g ∧ g < w.heap.size) := by
  rcases h.2 with ⟨rfl, rfl⟩ | ⟨g, c, cur, rfl, hb, hg, _⟩
  · exact ⟨none, 0, rfl, fun h => by omega⟩
  · exact ⟨_, c, rfl, fun _ => ⟨g, rfl, hb, (Array.getElem?_eq_some_iff.1 hg).1⟩⟩

/-- Message i as the walk meets it. -/
theorem MsOwn.at_ {w : World} {base : Nat} {f : ByteArray} {gv n cv : Nat} {ms : List Msg} {nvs : List Value} (h : MsOwn w base f (.slice (some ⟨gv, 0, none⟩) n cv) ms nvs) {i : Nat} {m : Msg} (hm : ms[i]? = some m) :
    ∀ q, q < 20 → w.cell? ⟨gv, i * 20 + q, none⟩ = (msgCells f m.1 (nvs.getD i undef))[q]? := by
  intro q hq
  obtain ⟨xs, hx, hc⟩ := h.row
  have hlt : i < ms.length := (List.getElem?_eq_some_iff.1 hm).1
  have hn : n = ms.length := by
    rcases hx.2 with ⟨e, _⟩ | ⟨_, _, _, e, _⟩
    · simp at e
    · simp at e; exact e.2.1
  subst hn
  rw [hx.cellAt _ (by omega)]
  exact hc i m hm q hq
theorem MsOwn.free {w : World} {base : Nat} {f : ByteArray} {gv n cv : Nat} {ms : List Msg} {nvs : List Value} (h : MsOwn w base f (.slice (some ⟨gv, 0, none⟩) n cv) ms nvs) (j : Nat) : w.frozen? ⟨gv, j, none⟩ = false := by
  obtain ⟨xs, hx, hc⟩ := h.row
  have hn : n = ms.length := by
    rcases hx.2 with ⟨e, _⟩ | ⟨_, _, _, e, _⟩
    · simp at e
    · simp at e; exact e.2.1
  subst hn
  exact hx.frozenAt j

/-- The round's end where the note joins an open message. -/
theorem BatRel.same {w wr : World} {f : ByteArray} {N : Nat → NtTo} {k : Nat} {v : Value} {ms : List Msg} {last : ByteArray → Option Nat} {t : ByteArray} {xn : Nt} {i : Nat} {m : Msg} {nvs : List Value} {D : DataW Unit}
    (es : (ms, last) = Bat.st N k) (ex : (t, xn) = N k) (hl : last t = some i) (hm : ms[i]? = some m) (hne : m.2.length ≠ 10000)
    (hM : MsOwn wr (w.heap.size + 1) f v (Bat.push ms i xn) nvs) (hown : wr.ownsMap Try.prog 9 (plainElem Try.prog 3) w.heap.size k D) (hD : MapIs D (asInts last)) (hb : Below w.heap.size w wr) (hs : w.heap.size + 1 ≤ wr.heap.size) :
    (Bat.st N (k + 1)).1.length = ms.length ∧ BatRel w wr f N (k + 1) v := by
  have e : Bat.st N (k + 1) = (Bat.push ms i xn, last) := by
    show Bat.step (Bat.st N k) (N k) = _
    rw [← es, ← ex]
    have ho : Bat.opens ms last t = false := by simp [Bat.opens, hl, List.getD, hm, hne]
    simp [Bat.step, ho, hl]
  refine ⟨by rw [e]; exact Bat.push_length _ _ _, ⟨⟨nvs, by rw [e]; exact hM⟩, ⟨D, hown.mono (Nat.le_succ _), by rw [e]; exact hD⟩, hb, hs⟩⟩
/-- The round's end where a message was opened for it. -/
theorem BatRel.fresh {w wr : World} {f : ByteArray} {N : Nat → NtTo} {k : Nat} {v : Value} {ms : List Msg} {last : ByteArray → Option Nat} {t : ByteArray} {xn : Nt} {nvs : List Value} {D : DataW Unit}
    (es : (ms, last) = Bat.st N k) (ex : (t, xn) = N k) (ho : Bat.opens ms last t = true)
    (hM : MsOwn wr (w.heap.size + 1) f v (Bat.push (ms ++ [(t, [])]) ms.length xn) nvs) (hown : wr.ownsMap Try.prog 9 (plainElem Try.prog 3) w.heap.size (k + 1) D) (hD : MapIs D (fun u => if u = t then some (ms.length : Int) else asInts last u)) (hb : Below w.heap.size w wr) (hs : w.heap.size + 1 ≤ wr.heap.size) :
    (Bat.st N (k + 1)).1.length = ms.length + 1 ∧ BatRel w wr f N (k + 1) v := by
  have e : Bat.st N (k + 1) = (Bat.push (ms ++ [(t, [])]) ms.length xn, Bat.mark last t ms.length) := by
    show Bat.step (Bat.st N k) (N k) = _
    rw [← es, ← ex]
    simp [Bat.step, ho]
  refine ⟨by rw [e]; simp [Bat.push_length], ⟨⟨nvs, by rw [e]; exact hM⟩, ⟨D, hown, ?_⟩, hb, hs⟩⟩
  rw [e]
  have e2 : asInts (Bat.mark last t ms.length) = fun u => if u = t then some (ms.length : Int) else asInts last u := by
    funext u
    simp only [asInts, Bat.mark]
    split <;> rfl
  show MapIs D (asInts (Bat.mark last t ms.length))
  rw [e2]
  exact hD

theorem frz_drew (w : World) (a : Addr) : w.drew.frozen? a = w.frozen? a := rfl
theorem frz_alloc (w : World) (o : Obj) (a : Addr) (h : a.block < w.heap.size) : (w.alloc o).frozen? a = w.frozen? a := World.frozen?_of_block (Below.heap_alloc w o a.block h)

theorem blk2 (w : World) (o : Obj) (p : Obj) : ((w.alloc o).alloc p).drew.heap[w.heap.size + 1]? = some p := by
  have h := heap_alloc_new (w.alloc o) p
  have e : (w.alloc o).heap.size = w.heap.size + 1 := by simp
  rw [e] at h
  exact h

theorem cel_alloc2 (w : World) (o p : Obj) (a : Addr) (h : a.block < w.heap.size) : ((w.alloc o).alloc p).drew.cell? a = w.cell? a :=
  (World.cell?_of_block (w := w.alloc o) (w' := (w.alloc o).alloc p) (Below.heap_alloc (w.alloc o) p a.block (by simp; omega))).trans (World.cell?_of_block (Below.heap_alloc w o a.block h))

theorem info41 : (Try.prog.info? 41).map (fun i => (i.zero, i.size, i.bytes)) = some (some (.agg #[.string .empty, .string .empty, .string .empty, .string .empty, .int .i64 0, .slice none 0 0, .string .empty, .bool false, .map none, .string .empty, .int .i64 0, .string .empty, .bool false, .map none, .string .empty, .int .i64 0, .slice none 0 0, .map none, .map none, .slice none 0 0]), 20, 272) := by kernel_rfl
theorem info33 : (Try.prog.info? 33).map (fun i => (i.zero, i.size, i.bytes)) = some (some (.agg #[.string .empty, .string .empty, .string .empty]), 3, 48) := by kernel_rfl

/-- What 'ms[i].Notes = append(ms[i].Notes, x)' does to memory, behind the block that the statement itself lays. -/
structure Pushed (w w2 : World) (f : ByteArray) (v : Value) (ms : List Msg) (n : Nat) (D : DataW Unit) : Prop where
  ms : ∃ nvs, MsOwn w2 (w.heap.size + 1) f v ms nvs
  map : w2.ownsMap Try.prog 9 (plainElem Try.prog 3) w.heap.size n D
  below : Below w.heap.size w w2
  size : w.heap.size + 1 ≤ w2.heap.size

theorem pushed {w W w1 : World} {f : ByteArray} {gv l cv : Nat} {ms : List Msg} {nvs : List Value} {i : Nat} {m : Msg} {xn : Nt} {nv : Value} {ys : List Value} {g cp n : Nat} {D : DataW Unit}
    (hM : MsOwn W (w.heap.size + 1) f (.slice (some ⟨gv, 0, none⟩) l cv) ms nvs) (hm : ms[i]? = some m) (hnv : nvs.getD i undef = nv) (hy : W.ownsRow (w.heap.size + 1) 33 3 nv m.2.length ys)
    (hyc : ∀ (j : Nat) (x : Nt), m.2[j]? = some x → ∀ q, q < 3 → ys[j * 3 + q]? = (ntCells x)[q]?)
    (hmap : W.ownsMap Try.prog 9 (plainElem Try.prog 3) w.heap.size n D) (hbel : Below w.heap.size w W) (hsz : w.heap.size + 1 ≤ W.heap.size)
    (p : Obj) (hown1 : w1.ownsRow (w.heap.size + 1) 33 3 (.slice (some ⟨g, 0, none⟩) (m.2.length + 1) cp) (m.2.length + 1) (ys ++ ntCells xn)) (hgrow : (W.alloc p).drew.grownBy w1 nv.ownBlock)
    (hat : nv.ownBlock = some g ∨ g = W.heap.size + 1) :
    Pushed w (w1.setCell ⟨gv, i * 20 + 19, none⟩ (.slice (some ⟨g, 0, none⟩) (m.2.length + 1) cp)) f (.slice (some ⟨gv, 0, none⟩) l cv) (Bat.push ms i xn) n D := by
  have hgv : w.heap.size + 1 ≤ gv := by
    obtain ⟨xs, hx, _⟩ := hM.row
    exact (hx.lt gv rfl).1
  have hrow : ∀ k, nv.ownBlock = some k → w.heap.size + 1 ≤ k := fun k hk => (hy.lt k hk).1
  have hM2 : MsOwn (W.alloc p).drew (w.heap.size + 1) f (.slice (some ⟨gv, 0, none⟩) l cv) ms nvs := (hM.alloc p).drew
  have hy2 : (W.alloc p).drew.ownsRow (w.heap.size + 1) 33 3 nv m.2.length ys := (hy.alloc p).drew
  have hsize : (W.alloc p).drew.heap.size = W.heap.size + 1 := by
    show (W.alloc p).heap.size = _
    simp
  have hb2 : Below w.heap.size w (W.alloc p).drew := (hbel.alloc (by omega) p).drew
  have hb3 : Below w.heap.size w w1 := hb2.grown hgrow (by rw [hsize]; omega) (fun k hk => by have := hrow k hk; omega)
  refine ⟨⟨_, hM2.push hm xn hnv hy2 hyc hown1 hgrow (by rw [hsize]; exact hat)⟩, ?_, hb3.setCell (p := ⟨gv, i * 20 + 19, none⟩) (by show _ ≤ gv; omega) _, ?_⟩
  · have h1 : w1.ownsMap Try.prog 9 (plainElem Try.prog 3) w.heap.size n D := ((hmap.alloc p).drew).kept hgrow (fun e => by have := hrow _ e.symm; omega)
    exact h1.setCell (a := ⟨gv, i * 20 + 19, none⟩) (by show _ ≠ gv; omega) _
  · have := hgrow.size
    rw [hsize] at this
    simp
    omega

/-- Behind the mark: the map has turned, all else stands. -/
theorem marked {w W w2 : World} {f : ByteArray} {v : Value} {ms : List Msg} {nvs : List Value} (hM : MsOwn W (w.heap.size + 1) f v ms nvs) (hbel : Below w.heap.size w W) (hsz : w.heap.size + 1 ≤ W.heap.size) (hg : W.grownBy w2 (some w.heap.size)) :
    MsOwn w2 (w.heap.size + 1) f v ms nvs ∧ Below w.heap.size w w2 ∧ W.heap.size ≤ w2.heap.size :=
  ⟨hM.kept hg (by omega), hbel.grown hg (by omega) (fun k hk => by cases hk; exact Nat.le_refl _), hg.size⟩

/-- Behind the new message: what the statement that follows meets. -/
theorem opened {w W w3 : World} {f t : ByteArray} {ao : Option Addr} {cv g2 c2 n : Nat} {ms : List Msg} {nvs : List Value} {xs : List Value} {D : DataW Unit} {o : Obj}
    (hM : MsOwn W (w.heap.size + 1) f (.slice ao ms.length cv) ms nvs) (hx : W.ownsRow (w.heap.size + 1) 41 20 (.slice ao ms.length cv) ms.length xs)
    (hc : ∀ (i : Nat) (m : Msg), ms[i]? = some m → ∀ q, q < 20 → xs[i * 20 + q]? = (msgCells f m.1 (nvs.getD i undef))[q]?)
    (hmap : W.ownsMap Try.prog 9 (plainElem Try.prog 3) w.heap.size n D) (hbel : Below w.heap.size w W) (hsz : w.heap.size + 1 ≤ W.heap.size)
    (hown3 : w3.ownsRow (w.heap.size + 1) 41 20 (.slice (some ⟨g2, 0, none⟩) (ms.length + 1) c2) (ms.length + 1) (xs ++ msgCells f t (.slice none 0 0))) (hg3 : (W.alloc o).grownBy w3 (Value.slice ao ms.length cv).ownBlock) :
    MsOwn w3 (w.heap.size + 1) f (.slice (some ⟨g2, 0, none⟩) (ms.length + 1) c2) (ms ++ [(t, [])]) (nvs ++ [.slice none 0 0]) ∧ w3.ownsMap Try.prog 9 (plainElem Try.prog 3) w.heap.size n D ∧ Below w.heap.size w w3 ∧ W.heap.size + 1 ≤ w3.heap.size ∧
    w3.cell? ⟨g2, ms.length * 20 + 19, none⟩ = some (.slice none 0 0) ∧ w3.frozen? ⟨g2, ms.length * 20 + 19, none⟩ = false ∧ g2 < w3.heap.size ∧ w.heap.size + 1 ≤ g2 := by
  have hrow : ∀ k, (Value.slice ao ms.length cv).ownBlock = some k → w.heap.size + 1 ≤ k := fun k hk => (hx.lt k hk).1
  have hM3 := (hM.alloc o).join t (hx.alloc o) hc hown3 hg3
  have hlt := (hown3.lt g2 rfl)
  have hsize : (W.alloc o).heap.size = W.heap.size + 1 := by simp
  refine ⟨hM3, (hmap.alloc o).kept hg3 (fun e => by have := hrow _ e.symm; omega), (hbel.alloc (by omega) o).grown hg3 (by rw [hsize]; omega) (fun k hk => by have := hrow k hk; omega), by rw [← hsize]; exact hg3.size, ?_, hM3.free _, hlt.2, hlt.1⟩
  have hm : (ms ++ [(t, ([] : List Nt))])[ms.length]? = some (t, []) := by simp
  rw [hM3.at_ hm 19 (by omega)]
  have : (nvs ++ [Value.slice none 0 0]).getD ms.length undef = .slice none 0 0 := by simp [List.getD, ← hM.len]
  rw [this]
  rfl

/-- The round's own note, its block b. -/
structure Own4 (w : World) (b : Nat) (t : ByteArray) (x : Nt) : Prop where
  c0 : w.cell? ⟨b, 0, none⟩ = some (.string t)
  c1 : w.cell? ⟨b, 1, none⟩ = some (.string x.1)
  c2 : w.cell? ⟨b, 2, none⟩ = some (.string x.2.1)
  c3 : w.cell? ⟨b, 3, none⟩ = some (.string x.2.2)
theorem Own4.made (w : World) (t : ByteArray) (x : Nt) : Own4 (w.alloc (.cells #[.string t, .string x.1, .string x.2.1, .string x.2.2] 35)) w.heap.size t x := by
  have h := heap_alloc_new w (.cells #[.string t, .string x.1, .string x.2.1, .string x.2.2] 35)
  exact ⟨cell_of_row _ _ 0 _ _ _ h, cell_of_row _ _ 1 _ _ _ h, cell_of_row _ _ 2 _ _ _ h, cell_of_row _ _ 3 _ _ _ h⟩
theorem Own4.grown {w w' : World} {b : Nat} {t : ByteArray} {x : Nt} {row : Option Nat} (h : Own4 w b t x) (hg : w.grownBy w' row) (hne : row ≠ some b) : Own4 w' b t x :=
  ⟨hg.cell h.c0 (Ne.symm hne), hg.cell h.c1 (Ne.symm hne), hg.cell h.c2 (Ne.symm hne), hg.cell h.c3 (Ne.symm hne)⟩
theorem Own4.alloc {w : World} {b : Nat} {t : ByteArray} {x : Nt} (h : Own4 w b t x) (o : Obj) : Own4 (w.alloc o) b t x := h.grown (World.grownBy_alloc w o none) (by simp)
theorem blk1 (w : World) (p : Obj) : (w.alloc p).drew.heap[w.heap.size]? = some p := heap_alloc_new w p
theorem cel_alloc1 (w : World) (p : Obj) (a : Addr) (h : a.block < w.heap.size) : (w.alloc p).drew.cell? a = w.cell? a := World.cell?_of_block (w := w) (w' := w.alloc p) (Below.heap_alloc w p a.block h)
end Go.Proofs.Qxb6000535a
