/- The plain law of Batch: notes are gathered into messages, one for each node, a further one once the last is full. No Go in sight. -/
namespace Go.Proofs.Qxb6000535a
/-- A note: kind, transaction, outcome; a note and the node it is for; a message: its node and its notes. -/
abbrev Nt := ByteArray × ByteArray × ByteArray
abbrev NtTo := ByteArray × Nt
abbrev Msg := ByteArray × List Nt
namespace Bat

/-- The note x joins message i. -/
def push (ms : List Msg) (i : Nat) (x : Nt) : List Msg := ms.modify i (fun m => (m.1, m.2 ++ [x]))
/-- Must a new message be opened for the node t? -/
def opens (ms : List Msg) (last : ByteArray → Option Nat) (t : ByteArray) : Bool :=
  match last t with
  | none => true
  | some i => (ms.getD i (.empty, [])).2.length == 10000
def mark (last : ByteArray → Option Nat) (t : ByteArray) (i : Nat) : ByteArray → Option Nat := fun u => if u = t then some i else last u
def step (s : List Msg × (ByteArray → Option Nat)) (x : NtTo) : List Msg × (ByteArray → Option Nat) :=
  if opens s.1 s.2 x.1 then (push (s.1 ++ [(x.1, [])]) s.1.length x.2, mark s.2 x.1 s.1.length)
  else (push s.1 ((s.2 x.1).getD 0) x.2, s.2)
/-- Messages and marks after the first k notes. -/
def st (N : Nat → NtTo) : Nat → List Msg × (ByteArray → Option Nat)
  | 0 => ([], fun _ => none)
  | k + 1 => step (st N k) (N k)

theorem push_length (ms : List Msg) (i : Nat) (x : Nt) : (push ms i x).length = ms.length := by simp [push]
theorem push_get (ms : List Msg) (i j : Nat) (x : Nt) : (push ms i x)[j]? = if i = j then (ms[j]?).map (fun m => (m.1, m.2 ++ [x])) else ms[j]? := by
  unfold push
  rw [List.getElem?_modify]
  split <;> simp

def count (ms : List Msg) : Nat := (ms.map (fun m => m.2.length)).sum
theorem count_push (ms : List Msg) (i : Nat) (x : Nt) (h : i < ms.length) : count (push ms i x) = count ms + 1 := by
  induction ms generalizing i with
  | nil => simp at h
  | cons m ms ih =>
    cases i with
    | zero => simp [push, count]; omega
    | succ i =>
      have := ih i (by simpa using h)
      simp [push, count] at this ⊢
      omega

theorem count_take_succ (ms : List Msg) (q : Nat) (m : Msg) (h : ms[q]? = some m) : count (ms.take (q + 1)) = count (ms.take q) + m.2.length := by
  rw [List.take_add_one, h]
  simp [count]
theorem count_append (a b : List Msg) : count (a ++ b) = count a + count b := by simp [count]
theorem count_take_le (ms : List Msg) (q : Nat) : count (ms.take q) ≤ count ms := by
  have h : count ms = count (ms.take q) + count (ms.drop q) := by
    rw [← count_append, List.take_append_drop]
  omega

structure Inv (s : List Msg × (ByteArray → Option Nat)) (k : Nat) : Prop where
  len : s.1.length ≤ k
  last : ∀ t i, s.2 t = some i → ∃ m, s.1[i]? = some m ∧ m.1 = t
  size : ∀ (i : Nat) (m : Msg), s.1[i]? = some m → 1 ≤ m.2.length ∧ m.2.length ≤ 10000
  count : count s.1 = k

theorem inv_step {s : List Msg × (ByteArray → Option Nat)} {k : Nat} (h : Inv s k) (x : NtTo) : Inv (step s x) (k + 1) := by
  unfold step
  by_cases ho : opens s.1 s.2 x.1 = true
  · rw [if_pos ho]
    refine ⟨?_, ?_, ?_, ?_⟩
    · simp [push_length]; exact h.len
    · intro t i hi
      simp only [mark] at hi
      by_cases e : t = x.1
      · rw [if_pos e] at hi
        simp only [Option.some.injEq] at hi
        subst hi
        refine ⟨(x.1, [x.2]), ?_, e.symm⟩
        show (push _ _ _)[_]? = _
        rw [push_get]; simp
      · rw [if_neg e] at hi
        obtain ⟨m, hm, ht⟩ := h.last t i hi
        have hlt : i < s.1.length := (List.getElem?_eq_some_iff.1 hm).1
        refine ⟨m, ?_, ht⟩
        show (push _ _ _)[_]? = _
        rw [push_get, if_neg (by omega), List.getElem?_append_left hlt]
        exact hm
    · intro i m hm
      have hm' : (push (s.1 ++ [(x.1, [])]) s.1.length x.2)[i]? = some m := hm
      rw [push_get] at hm'
      by_cases e : s.1.length = i
      · subst e
        simp at hm'
        subst hm'
        simp
      · rw [if_neg e] at hm'
        by_cases hl : i < s.1.length
        · rw [List.getElem?_append_left hl] at hm'
          exact h.size i m hm'
        · rw [List.getElem?_eq_none (by simp; omega)] at hm'
          cases hm'
    · show count (push _ _ _) = _
      rw [count_push _ _ _ (by simp)]
      have := h.count
      simp [Bat.count] at this ⊢
      omega
  · rw [if_neg ho]
    have hs : ∃ i, s.2 x.1 = some i := by
      cases e : s.2 x.1 with
      | none => simp [opens, e] at ho
      | some i => exact ⟨i, rfl⟩
    obtain ⟨i, hi⟩ := hs
    obtain ⟨m0, hm0, ht0⟩ := h.last _ _ hi
    have hlt : i < s.1.length := (List.getElem?_eq_some_iff.1 hm0).1
    have hne : m0.2.length ≠ 10000 := by
      intro e
      apply ho
      simp only [opens, hi]
      simp [List.getD, hm0, e]
    have hsz := h.size i m0 hm0
    simp only [hi, Option.getD_some]
    refine ⟨?_, ?_, ?_, ?_⟩
    · simp [push_length]; have := h.len; omega
    · intro t j hj
      obtain ⟨m, hm, ht⟩ := h.last t j hj
      by_cases e : i = j
      · subst e
        exact ⟨(m.1, m.2 ++ [x.2]), by show (push _ _ _)[_]? = _; rw [push_get, if_pos rfl, hm]; rfl, ht⟩
      · exact ⟨m, by show (push _ _ _)[_]? = _; rw [push_get, if_neg e]; exact hm, ht⟩
    · intro j m hm
      have hm' : (push s.1 i x.2)[j]? = some m := hm
      rw [push_get] at hm'
      by_cases e : i = j
      · subst e
        rw [if_pos rfl, hm0] at hm'
        simp at hm'
        subst hm'
        simp; omega
      · rw [if_neg e] at hm'
        exact h.size j m hm'
    · show count (push _ _ _) = _
      rw [count_push _ _ _ hlt, h.count]

theorem inv_st (N : Nat → NtTo) : ∀ k, Inv (st N k) k
  | 0 => ⟨Nat.le_refl _, fun _ _ h => (by cases h), fun i m h => by simp [st] at h, rfl⟩
  | k + 1 => inv_step (inv_st N k) (N k)

/-- b goes on where a stops: message by message. -/
structure Ext (a b : List Msg) : Prop where
  len : a.length ≤ b.length
  get : ∀ (i : Nat) (m : Msg), a[i]? = some m → ∃ m', b[i]? = some m' ∧ m'.1 = m.1 ∧ m.2.length ≤ m'.2.length ∧ ∀ j, j < m.2.length → m'.2[j]? = m.2[j]?

theorem Ext.refl (a : List Msg) : Ext a a := ⟨Nat.le_refl _, fun _ m h => ⟨m, h, rfl, Nat.le_refl _, fun _ _ => rfl⟩⟩
theorem Ext.trans {a b c : List Msg} (h : Ext a b) (g : Ext b c) : Ext a c :=
  ⟨Nat.le_trans h.len g.len, fun i m hm => by
    obtain ⟨m1, h1, e1, l1, p1⟩ := h.get i m hm
    obtain ⟨m2, h2, e2, l2, p2⟩ := g.get i m1 h1
    exact ⟨m2, h2, e2.trans e1, Nat.le_trans l1 l2, fun j hj => (p2 j (by omega)).trans (p1 j hj)⟩⟩
theorem ext_push (ms : List Msg) (i : Nat) (x : Nt) : Ext ms (push ms i x) :=
  ⟨by rw [push_length]; exact Nat.le_refl _, fun j m hm => by
    rw [push_get]
    by_cases e : i = j
    · rw [if_pos e, hm]
      exact ⟨_, rfl, rfl, by simp, fun q hq => by simp [List.getElem?_append_left hq]⟩
    · rw [if_neg e]
      exact ⟨m, hm, rfl, Nat.le_refl _, fun _ _ => rfl⟩⟩
theorem ext_append (ms l : List Msg) : Ext ms (ms ++ l) :=
  ⟨by simp, fun j m hm => ⟨m, by rw [List.getElem?_append_left (List.getElem?_eq_some_iff.1 hm).1]; exact hm, rfl, Nat.le_refl _, fun _ _ => rfl⟩⟩
theorem ext_step (s : List Msg × (ByteArray → Option Nat)) (x : NtTo) : Ext s.1 (step s x).1 := by
  unfold step
  split
  · exact (ext_append _ _).trans (ext_push _ _ _)
  · exact ext_push _ _ _
theorem ext_st (N : Nat → NtTo) (k : Nat) : ∀ d, Ext (st N k).1 (st N (k + d)).1
  | 0 => Ext.refl _
  | d + 1 => (ext_st N k d).trans (ext_step _ _)
end Bat
end Go.Proofs.Qxb6000535a
