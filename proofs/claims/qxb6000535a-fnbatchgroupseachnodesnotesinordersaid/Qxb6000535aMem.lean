/- The messages as they lie in memory (a row of twenty cells each, the notes of each in a row of their own); a map of the call's own as a function. -/
import Derived.Test.Qxb6000535aBat
import Derived.Test.Qxb6000535aRows
import Derived.WalkKit
import Derived.ProofKit
import Derived.OwnWalk
import Derived.Laws.OwnMore
import Derived.Deep.AppendLies
import Derived.Maps.OwnSet
namespace Go.Proofs.Qxb6000535a
open Go.ChangeShapes Go.WideShapes Go.ChangeAt Go.RowKit

/-! ### A map of the call's own, as a function -/
def keyLit (s : ByteArray) : Lit := .string s.data.toList
theorem keyLit_ne {s t : ByteArray} (h : s ≠ t) : keyLit s ≠ keyLit t := by
  intro e
  apply h
  simp only [keyLit, Lit.string.injEq] at e
  exact ByteArray.ext (Array.toList_inj.1 e)
structure MapIs (D : DataW Unit) (f : ByteArray → Option Int) : Prop where
  isMap : Maps.IsMap D
  has : ∀ s, Maps.has D (keyLit s) = (f s).isSome
  get : ∀ s c, f s = some c → D.atKey (keyLit s) (.lit (.int .i64 0)) = .lit (.int .i64 c)
theorem MapIs.made : MapIs (.map []) (fun _ => none) := ⟨Maps.isMap_empty, fun _ => rfl, fun _ _ h => by cases h⟩
theorem MapIs.put {D : DataW Unit} {f : ByteArray → Option Int} (h : MapIs D f) (s : ByteArray) (c : Int) : MapIs (D.put (keyLit s) (.lit (.int .i64 c))) (fun t => if t = s then some c else f t) := by
  have hk : WideAt.IsKeyLit (keyLit s) := trivial
  refine ⟨h.isMap.put _ _, fun t => ?_, fun t c' hc => ?_⟩
  · by_cases e : t = s
    · subst e; simp [Maps.has_put_same h.isMap hk]
    · simp only [if_neg e]
      rw [Maps.has_put_other (keyLit_ne e)]
      exact h.has t
  · by_cases e : t = s
    · subst e
      simp only [if_true, Option.some.injEq] at hc
      subst hc
      exact Maps.atKey_put_same h.isMap hk _ _
    · simp only [if_neg e] at hc
      rw [Maps.atKey_put_other (keyLit_ne e)]
      exact h.get t c' hc
theorem MapIs.look {D : DataW Unit} {f : ByteArray → Option Int} (h : MapIs D f) (s : ByteArray) {c : Int} (hc : D.atKey (keyLit s) (.lit (.int .i64 0)) = .lit (.int .i64 c)) : c = (f s).getD 0 := by
  cases e : f s with
  | none =>
    have hn : Maps.has D (keyLit s) = false := by rw [h.has, e]; rfl
    rw [Maps.atKey_of_not_has hn] at hc
    simp at hc
    simp [hc]
  | some c' =>
    rw [h.get s c' e] at hc
    simp at hc
    simp [hc]

theorem law : Maps.Keyed Try.prog 9 := Maps.string_keyed Try.underlying9
theorem zero3 (w : World) : (zeroValue 3).run Try.prog w = .ok (.int .i64 0) w := by kernel_rfl
theorem keyOf9 {s : ByteArray} (hs : s.size ≤ maxLen) : keyOf Try.prog 9 (.string s) = some (keyLit s) := WideMaps.keyOf_string_mk Try.underlying9 hs

/-! ### The messages in memory -/
def ntCells (x : Nt) : List Value := [.string x.1, .string x.2.1, .string x.2.2]
/-- A message's twenty cells: its node t, its notes' slice nv; all that Batch does not name is zero. -/
def msgCells (f t : ByteArray) (nv : Value) : List Value :=
  [.string ⟨#[110, 111, 116, 101, 115]⟩, .string .empty, .string f, .string t, .int .i64 0, .slice none 0 0, .string .empty, .bool false, .map none, .string .empty, .int .i64 0, .string .empty, .bool false, .map none, .string .empty, .int .i64 0, .slice none 0 0, .map none, .map none, nv]

theorem msgCells_head (f t : ByteArray) (a b : Value) {q : Nat} (hq : q < 19) : (msgCells f t a)[q]? = (msgCells f t b)[q]? := by
  have e : ∀ nv, msgCells f t nv = (msgCells f t undef).take 19 ++ [nv] := fun _ => rfl
  rw [e a, e b, List.getElem?_append_left hq, List.getElem?_append_left hq]

structure MsOwn (w : World) (base : Nat) (f : ByteArray) (v : Value) (ms : List Msg) (nvs : List Value) : Prop where
  len : nvs.length = ms.length
  row : ∃ xs, w.ownsRow base 41 20 v ms.length xs ∧ ∀ (i : Nat) (m : Msg), ms[i]? = some m → ∀ q, q < 20 → xs[i * 20 + q]? = (msgCells f m.1 (nvs.getD i undef))[q]?
  notes : ∀ (i : Nat) (m : Msg), ms[i]? = some m → ∃ ys, w.ownsRow base 33 3 (nvs.getD i undef) m.2.length ys ∧ ∀ (j : Nat) (x : Nt), m.2[j]? = some x → ∀ q, q < 3 → ys[j * 3 + q]? = (ntCells x)[q]?
  apart : ∀ i j g, i < ms.length → j < ms.length → (nvs.getD i undef).ownBlock = some g → (nvs.getD j undef).ownBlock = some g → i = j

theorem MsOwn.made (w : World) (base : Nat) (f : ByteArray) : MsOwn w base f (.slice none 0 0) [] [] :=
  ⟨rfl, ⟨[], World.ownsRow_nil _ _ _ _, fun i m h => by simp at h⟩, fun i m h => by simp at h, fun i j g h => by simp at h⟩

/-- Rows of two element types are two rows. -/
theorem rows_ne {w : World} {base e1 e2 z1 z2 n1 n2 : Nat} {v1 v2 : Value} {x1 x2 : List Value} (h1 : w.ownsRow base e1 z1 v1 n1 x1) (h2 : w.ownsRow base e2 z2 v2 n2 x2) (hne : e1 ≠ e2) : v1.ownBlock = none ∨ v1.ownBlock ≠ v2.ownBlock := by
  rcases h1.2 with ⟨rfl, _⟩ | ⟨g1, c1, cur1, rfl, _, hg1, _⟩
  · exact .inl rfl
  · right
    rcases h2.2 with ⟨rfl, _⟩ | ⟨g2, c2, cur2, rfl, _, hg2, _⟩
    · simp [Value.ownBlock]
    · intro e
      simp [Value.ownBlock] at e
      subst e
      rw [hg1] at hg2
      simp at hg2
      exact hne hg2.2

theorem MsOwn.alloc {w : World} {base : Nat} {f : ByteArray} {v : Value} {ms : List Msg} {nvs : List Value} (h : MsOwn w base f v ms nvs) (o : Obj) : MsOwn (w.alloc o) base f v ms nvs := by
  refine ⟨h.len, ?_, ?_, h.apart⟩
  · obtain ⟨xs, hx, hc⟩ := h.row
    exact ⟨xs, hx.alloc o, hc⟩
  · intro i m hm
    obtain ⟨ys, hy, hc⟩ := h.notes i m hm
    exact ⟨ys, hy.alloc o, hc⟩
theorem MsOwn.drew {w : World} {base : Nat} {f : ByteArray} {v : Value} {ms : List Msg} {nvs : List Value} (h : MsOwn w base f v ms nvs) : MsOwn w.drew base f v ms nvs := ⟨h.len, h.row, h.notes, h.apart⟩
theorem MsOwn.kept {w w' : World} {base b : Nat} {f : ByteArray} {v : Value} {ms : List Msg} {nvs : List Value} (h : MsOwn w base f v ms nvs) (hg : w.grownBy w' (some b)) (hb : b < base) : MsOwn w' base f v ms nvs := by
  have hne : ∀ {e z n : Nat} {u : Value} {x : List Value}, w.ownsRow base e z u n x → u.ownBlock = none ∨ u.ownBlock ≠ some b := fun {e z n u x} hu => by
    cases hq : u.ownBlock with
    | none => exact .inl rfl
    | some g => right; intro e; simp at e; subst e; have := (hu.lt g hq).1; omega
  refine ⟨h.len, ?_, ?_, h.apart⟩
  · obtain ⟨xs, hx, hc⟩ := h.row
    exact ⟨xs, hx.kept hg (hne hx), hc⟩
  · intro i m hm
    obtain ⟨ys, hy, hc⟩ := h.notes i m hm
    exact ⟨ys, hy.kept hg (hne hy), hc⟩

/-- A message joins: what 'append(ms, Message{..})' leaves. -/
theorem MsOwn.join {w w' : World} {base : Nat} {f : ByteArray} {v v' : Value} {ms : List Msg} {nvs : List Value} (h : MsOwn w base f v ms nvs) (t : ByteArray) {xs : List Value} (hx : w.ownsRow base 41 20 v ms.length xs)
    (hc : ∀ (i : Nat) (m : Msg), ms[i]? = some m → ∀ q, q < 20 → xs[i * 20 + q]? = (msgCells f m.1 (nvs.getD i undef))[q]?)
    (hown : w'.ownsRow base 41 20 v' (ms.length + 1) (xs ++ msgCells f t (.slice none 0 0))) (hg : w.grownBy w' v.ownBlock) :
    MsOwn w' base f v' (ms ++ [(t, [])]) (nvs ++ [.slice none 0 0]) := by
  have hl := h.len
  have hxl := hx.1
  have get1 : ∀ i, i < ms.length → (nvs ++ [Value.slice none 0 0]).getD i undef = nvs.getD i undef := fun i hi => by
    simp [List.getD, List.getElem?_append_left (hl ▸ hi : i < nvs.length)]
  have get2 : (nvs ++ [Value.slice none 0 0]).getD ms.length undef = .slice none 0 0 := by
    simp [List.getD, ← hl]
  refine ⟨by simp [hl], ⟨_, by simpa using hown, ?_⟩, ?_, ?_⟩
  · intro i m hm q hq
    by_cases hi : i < ms.length
    · rw [List.getElem?_append_left hi] at hm
      rw [get1 i hi, List.getElem?_append_left (by rw [hxl]; omega)]
      exact hc i m hm q hq
    · have e : i = ms.length := by
        have := (List.getElem?_eq_some_iff.1 hm).1
        simp at this; omega
      subst e
      simp at hm
      subst hm
      rw [get2, List.getElem?_append_right (by rw [hxl]; omega), hxl]
      congr 1
      omega
  · intro i m hm
    by_cases hi : i < ms.length
    · rw [List.getElem?_append_left hi] at hm
      rw [get1 i hi]
      obtain ⟨ys, hy, hyc⟩ := h.notes i m hm
      exact ⟨ys, hy.kept hg (rows_ne hy hx (by decide)), hyc⟩
    · have e : i = ms.length := by
        have := (List.getElem?_eq_some_iff.1 hm).1
        simp at this; omega
      subst e
      simp at hm
      subst hm
      rw [get2]
      exact ⟨[], World.ownsRow_nil _ _ _ _, fun j x hj => by simp at hj⟩
  · intro i j g hi hj h1 h2
    have key : ∀ i, i < (ms ++ [(t, ([] : List Nt))]).length → ((nvs ++ [Value.slice none 0 0]).getD i undef).ownBlock = some g → i < ms.length := fun i hi h1 => by
      rcases Nat.lt_or_ge i ms.length with h' | h'
      · exact h'
      · have e : i = ms.length := by simp at hi; omega
        subst e
        rw [get2] at h1
        simp [Value.ownBlock] at h1
    have i1 := key i hi h1
    have j1 := key j hj h2
    rw [get1 i i1] at h1
    rw [get1 j j1] at h2
    exact h.apart i j g i1 j1 h1 h2

/-- A note joins message i: what 'ms[i].Notes = append(ms[i].Notes, x)' leaves. -/
theorem MsOwn.push {w w1 : World} {base : Nat} {f : ByteArray} {gv n cv : Nat} {ms : List Msg} {nvs : List Value} (h : MsOwn w base f (.slice (some ⟨gv, 0, none⟩) n cv) ms nvs) {i : Nat} {m : Msg} (hm : ms[i]? = some m) (x : Nt)
    {nv : Value} (hnv0 : nvs.getD i undef = nv) {ys : List Value} (hy : w.ownsRow base 33 3 nv m.2.length ys) (hyc : ∀ (j : Nat) (x : Nt), m.2[j]? = some x → ∀ q, q < 3 → ys[j * 3 + q]? = (ntCells x)[q]?)
    {g cap : Nat} (hown : w1.ownsRow base 33 3 (.slice (some ⟨g, 0, none⟩) (m.2.length + 1) cap) (m.2.length + 1) (ys ++ ntCells x)) (hg : w.grownBy w1 nv.ownBlock)
    (hat : nv.ownBlock = some g ∨ g = w.heap.size) :
    MsOwn (w1.setCell ⟨gv, i * 20 + 19, none⟩ (.slice (some ⟨g, 0, none⟩) (m.2.length + 1) cap)) base f (.slice (some ⟨gv, 0, none⟩) n cv) (Bat.push ms i x) (nvs.set i (.slice (some ⟨g, 0, none⟩) (m.2.length + 1) cap)) := by
  subst hnv0
  have hl := h.len
  have hlt : i < ms.length := (List.getElem?_eq_some_iff.1 hm).1
  obtain ⟨xs, hx, hxc⟩ := h.row
  have hn : n = ms.length := by
    rcases hx.2 with ⟨e, _⟩ | ⟨_, _, _, e, _⟩
    · simp at e
    · simp at e; exact e.2.1
  subst hn
  obtain ⟨nv', hnv⟩ : ∃ nv' : Value, nv' = .slice (some ⟨g, 0, none⟩) (m.2.length + 1) cap := ⟨_, rfl⟩
  rw [← hnv] at hown ⊢
  have hnb : nv'.ownBlock = some g := by rw [hnv]; rfl
  have same : ∀ u : Value, (nvs.set i u).getD i undef = u := fun u => by simp [List.getD, hl, hlt]
  have other : ∀ (u : Value) (j : Nat), j ≠ i → (nvs.set i u).getD j undef = nvs.getD j undef := fun u j hj => by simp [List.getD, List.getElem?_set_ne (Ne.symm hj)]
  -- the outer row behind the append
  have hx1 : w1.ownsRow base 41 20 (.slice (some ⟨gv, 0, none⟩) ms.length cv) ms.length xs := hx.kept hg (by
    rcases rows_ne hx hy (by decide) with h' | h'
    · simp [Value.ownBlock] at h'
    · exact .inr h')
  have hst := hx1.stored (i * 20 + 19) nv'
  -- the inner rows behind the append
  have hin : ∀ (j : Nat) (m' : Msg), j ≠ i → ms[j]? = some m' → ∃ ys, w1.ownsRow base 33 3 (nvs.getD j undef) m'.2.length ys ∧ ∀ (q : Nat) (x : Nt), m'.2[q]? = some x → ∀ r, r < 3 → ys[q * 3 + r]? = (ntCells x)[r]? := fun j m' hj hm' => by
    obtain ⟨zs, hz, hzc⟩ := h.notes j m' hm'
    refine ⟨zs, hz.kept hg ?_, hzc⟩
    cases hq : (nvs.getD j undef).ownBlock with
    | none => exact .inl rfl
    | some g' =>
      right
      intro e
      exact hj (h.apart j i g' (List.getElem?_eq_some_iff.1 hm').1 hlt hq e.symm)
  have keep : ∀ {e z n' : Nat} {u : Value} {zs : List Value}, w1.ownsRow base 33 z u n' zs → (w1.setCell ⟨gv, i * 20 + 19, none⟩ nv').ownsRow base 33 z u n' zs := fun {e z n' u zs} hu => hu.kept hst.2 (rows_ne hu hx1 (by decide))
  refine ⟨by rw [Bat.push_length]; simp [hl], ⟨_, by rw [Bat.push_length]; exact hst.1, ?_⟩, ?_, ?_⟩
  · intro j m' hm' q hq
    have hxl := hx.1
    rw [Bat.push_get] at hm'
    by_cases e : i = j
    · subst e
      rw [if_pos rfl, hm] at hm'
      simp at hm'
      subst hm'
      rw [same]
      have old := hxc i m hm q hq
      by_cases e19 : q = 19
      · subst e19
        rw [List.getElem?_set_self (by rw [hxl]; omega)]
        rfl
      · rw [List.getElem?_set_ne (by omega), old]
        have hq' : q < 19 := by omega
        exact msgCells_head _ _ _ _ hq'
    · rw [if_neg e] at hm'
      rw [other _ _ (Ne.symm e), List.getElem?_set_ne (by omega)]
      exact hxc j m' hm' q hq
  · intro j m' hm'
    rw [Bat.push_get] at hm'
    by_cases e : i = j
    · subst e
      rw [if_pos rfl, hm] at hm'
      simp at hm'
      subst hm'
      rw [same]
      refine ⟨_, by simpa using keep (e := 0) hown, ?_⟩
      intro q x' hq r hr
      have hyl := hy.1
      by_cases hql : q < m.2.length
      · rw [List.getElem?_append_left hql] at hq
        rw [List.getElem?_append_left (by rw [hyl]; omega)]
        exact hyc q x' hq r hr
      · have eq : q = m.2.length := by
          have := (List.getElem?_eq_some_iff.1 hq).1
          simp at this; omega
        subst eq
        simp at hq
        subst hq
        rw [List.getElem?_append_right (by rw [hyl]; omega), hyl]
        congr 1
        omega
    · rw [if_neg e] at hm'
      rw [other _ _ (Ne.symm e)]
      obtain ⟨zs, hz, hzc⟩ := hin j m' (Ne.symm e) hm'
      exact ⟨zs, keep (e := 0) hz, hzc⟩
  · -- no two lie in one row
    have newOther : ∀ j g', j ≠ i → j < ms.length → (nvs.getD j undef).ownBlock = some g' → g' ≠ g := fun j g' hj hjl hq eg => by
      subst eg
      rcases hat with hat | hat
      · exact hj (h.apart j i g' hjl hlt hq hat)
      · obtain ⟨zs, hz, _⟩ := h.notes j ms[j] (List.getElem?_eq_getElem hjl)
        have := (hz.lt g' hq).2
        omega
    intro a b g' ha hb h1 h2
    rw [Bat.push_length] at ha hb
    by_cases ea : a = i
    · subst ea
      rw [same, hnb] at h1
      simp at h1
      subst h1
      by_cases eb : b = a
      · exact eb.symm
      · rw [other _ _ eb] at h2
        exact absurd rfl (newOther b g eb hb h2)
    · rw [other _ _ ea] at h1
      by_cases eb : b = i
      · subst eb
        rw [same, hnb] at h2
        simp at h2
        subst h2
        exact absurd rfl (newOther a g ea ha h1)
      · rw [other _ _ eb] at h2
        exact h.apart a b g' ha hb h1 h2
end Go.Proofs.Qxb6000535a
