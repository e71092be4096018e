/- What Batch leaves, as a caller reads it. -/
import Derived.Test.Qxb6000535aBatRel
namespace Go.Proofs.Qxb6000535a
open Go.ChangeShapes Go.WideShapes Go.ChangeAt Go.RowKit

theorem ownsRow_below {w w' : World} {base e z n : Nat} {v : Value} {xs : List Value} (h : w.ownsRow base e z v n xs) (hb : Below w.heap.size w w') : w'.ownsRow base e z v n xs := by
  refine ⟨h.1, ?_⟩
  rcases h.2 with hn | ⟨g, cap, cur, rfl, hbg, hg, rest⟩
  · exact .inl hn
  · refine .inr ⟨g, cap, cur, rfl, hbg, ?_, rest⟩
    rw [hb.block g (Array.getElem?_eq_some_iff.1 hg).1]
    exact hg
theorem MsOwn.stays {w w' : World} {base : Nat} {f : ByteArray} {v : Value} {ms : List Msg} {nvs : List Value} (h : MsOwn w base f v ms nvs) (hb : Below w.heap.size w w') : MsOwn w' base f v ms nvs := by
  refine ⟨h.len, ?_, ?_, h.apart⟩
  · obtain ⟨xs, hx, hc⟩ := h.row
    exact ⟨xs, ownsRow_below hx hb, hc⟩
  · intro i m hm
    obtain ⟨ys, hy, hc⟩ := h.notes i m hm
    exact ⟨ys, ownsRow_below hy hb, hc⟩

theorem NoteAt.stays {w w' : World} {g k B : Nat} {x : NtTo} (h : NoteAt w g k x) (hb : Below B w w') (hg : g < B) : NoteAt w' g k x :=
  ⟨(hb.cell hg).trans h.c0, (hb.cell hg).trans h.c1, (hb.cell hg).trans h.c2, (hb.cell hg).trans h.c3⟩

theorem below_dN {B : Nat} {a w : World} (h : Below B a w) (n : Nat) : Below B a (w.drewN n) := h.trans ⟨rfl, rfl, rfl, Nat.le_refl _, fun _ _ => rfl⟩

/-- Three cells: a note as element j of block g. -/
structure NtAt (w : World) (g j : Nat) (x : Nt) : Prop where
  c0 : w.cell? ⟨g, j * 3, none⟩ = some (.string x.1)
  c1 : w.cell? ⟨g, j * 3 + 1, none⟩ = some (.string x.2.1)
  c2 : w.cell? ⟨g, j * 3 + 2, none⟩ = some (.string x.2.2)

theorem NtAt.stays {w w' : World} {g k B : Nat} {x : Nt} (h : NtAt w g k x) (hb : Below B w w') (hg : g < B) : NtAt w' g k x :=
  ⟨(hb.cell hg).trans h.c0, (hb.cell hg).trans h.c1, (hb.cell hg).trans h.c2⟩

/-- Message i, its cells by number; its notes' row. -/
theorem MsOwn.msg {w : World} {base : Nat} {f : ByteArray} {gv n cv : Nat} {ms : List Msg} {nvs : List Value} (h : MsOwn w base f (.slice (some ⟨gv, 0, none⟩) n cv) ms nvs) {i : Nat} {m : Msg} (hm : ms[i]? = some m) (h1 : 1 ≤ m.2.length) :
    ∃ gi ci, (∀ q, q < 20 → w.cell? ⟨gv, i * 20 + q, none⟩ = (msgCells f m.1 (.slice (some ⟨gi, 0, none⟩) m.2.length ci))[q]?) ∧ (∀ (j : Nat) (x : Nt), m.2[j]? = some x → NtAt w gi j x) ∧ gv < w.heap.size ∧ gi < w.heap.size := by
  obtain ⟨ys, hy, hyc⟩ := h.notes i m hm
  obtain ⟨gi, ci, e, _, hgl⟩ := hy.form (by omega)
  refine ⟨gi, ci, fun q hq => by rw [h.at_ hm q hq, e], fun j x hj => ?_, ?_, hgl⟩
  rotate_left
  · exact World.block_lt_of_cell? w ⟨gv, i * 20 + 0, none⟩ (h.at_ hm 0 (by omega))
  rw [e] at hy
  have hjl : j < m.2.length := (List.getElem?_eq_some_iff.1 hj).1
  refine ⟨?_, ?_, ?_⟩
  · rw [hy.cellAt _ (by omega)]; exact hyc j x hj 0 (by omega)
  · rw [hy.cellAt _ (by omega)]; exact hyc j x hj 1 (by omega)
  · rw [hy.cellAt _ (by omega)]; exact hyc j x hj 2 (by omega)
theorem MsOwn.addr {w : World} {base : Nat} {f : ByteArray} {ao : Option Addr} {n cv : Nat} {ms : List Msg} {nvs : List Value} (h : MsOwn w base f (.slice ao n cv) ms nvs) (hn : 0 < ms.length) : ∃ g, ao = some ⟨g, 0, none⟩ := by
  obtain ⟨xs, hx, _⟩ := h.row
  obtain ⟨ao', c', e, h'⟩ := ownsRow_shape hx
  simp at e
  obtain ⟨g, hg, _⟩ := h' hn
  exact ⟨g, e.1.trans hg⟩
end Go.Proofs.Qxb6000535a
