/- The plain law of FnBatchGroupsEachNodesNotesInOrder: Batch over the notes' places. No Go in sight. -/
import Derived.Test.Qxb6000535aBat
namespace Go.Proofs.Qxb6000535a
namespace Pos
/-- A message by its notes' places. -/
abbrev PMsg := ByteArray × List Nat
def push (ms : List PMsg) (i : Nat) (x : Nat) : List PMsg := ms.modify i (fun m => (m.1, m.2 ++ [x]))
def opens (ms : List PMsg) (last : ByteArray → Option Nat) (t : ByteArray) : Bool :=
  match last t with
  | none => true
  | some i => (ms.getD i (.empty, [])).2.length == 10000
def step (s : List PMsg × (ByteArray → Option Nat)) (t : ByteArray) (k : Nat) : List PMsg × (ByteArray → Option Nat) :=
  if opens s.1 s.2 t then (s.1 ++ [(t, [k])], Bat.mark s.2 t s.1.length)
  else (push s.1 ((s.2 t).getD 0) k, s.2)
def st (N : Nat → NtTo) : Nat → List PMsg × (ByteArray → Option Nat)
  | 0 => ([], fun _ => none)
  | k + 1 => step (st N k) (N k).1 k

theorem push_length (ms : List PMsg) (i x : Nat) : (push ms i x).length = ms.length := by simp [push]
theorem push_get (ms : List PMsg) (i j x : Nat) : (push ms i x)[j]? = if i = j then (ms[j]?).map (fun m => (m.1, m.2 ++ [x])) else ms[j]? := by
  unfold push
  rw [List.getElem?_modify]
  split <;> simp

/-- The notes for the places. -/
def real (N : Nat → NtTo) (m : PMsg) : Msg := (m.1, m.2.map (fun i => (N i).2))
theorem real_push (N : Nat → NtTo) (ms : List PMsg) (i k : Nat) : (push ms i k).map (real N) = Bat.push (ms.map (real N)) i (N k).2 := by
  apply List.ext_getElem?
  intro j
  rw [List.getElem?_map, push_get, Bat.push_get, List.getElem?_map]
  split
  · cases ms[j]? <;> simp [real]
  · rfl
theorem real_opens (N : Nat → NtTo) (ms : List PMsg) (last : ByteArray → Option Nat) (t : ByteArray) : Bat.opens (ms.map (real N)) last t = opens ms last t := by
  unfold Bat.opens opens
  cases last t with
  | none => rfl
  | some i =>
    simp only [List.getD, List.getElem?_map]
    cases ms[i]? <;> simp [real]
theorem real_st (N : Nat → NtTo) : ∀ k, Bat.st N k = ((st N k).1.map (real N), (st N k).2)
  | 0 => rfl
  | k + 1 => by
    show Bat.step (Bat.st N k) (N k) = _
    rw [real_st N k]
    show _ = ((step (st N k) (N k).1 k).1.map (real N), (step (st N k) (N k).1 k).2)
    unfold Bat.step step
    simp only [real_opens]
    by_cases ho : opens (st N k).1 (st N k).2 (N k).1 = true
    · rw [if_pos ho, if_pos ho]
      have e : Bat.push ((st N k).1.map (real N) ++ [((N k).1, [])]) ((st N k).1.map (real N)).length (N k).2 = ((st N k).1 ++ [((N k).1, [k])]).map (real N) := by
        apply List.ext_getElem?
        intro j
        rw [Bat.push_get]
        by_cases e : ((st N k).1.map (real N)).length = j
        · subst e
          rw [if_pos rfl]
          simp [real]
        · rw [if_neg e]
          simp only [List.map_append, List.map_cons, List.map_nil]
          by_cases hj : j < ((st N k).1.map (real N)).length
          · rw [List.getElem?_append_left hj, List.getElem?_append_left hj]
          · rw [List.getElem?_eq_none (by simp at *; omega), List.getElem?_eq_none (by simp at *; omega)]
      rw [e]
      simp
    · rw [if_neg ho, if_neg ho, real_push]

/-- The last message to node t among the first j. -/
def pv (ms : List PMsg) : Nat → ByteArray → Option Nat
  | 0, _ => none
  | j + 1, t => if (ms[j]?.map (·.1)) = some t then some j else pv ms j t

theorem pv_congr {ms ms' : List PMsg} {t : ByteArray} : ∀ {j : Nat}, (∀ i, i < j → ms[i]?.map (·.1) = ms'[i]?.map (·.1)) → pv ms j t = pv ms' j t
  | 0, _ => rfl
  | j + 1, h => by
    unfold pv
    rw [h j (by omega), pv_congr (fun i hi => h i (by omega))]
theorem pv_some {ms : List PMsg} {t : ByteArray} : ∀ {j i : Nat}, pv ms j t = some i → i < j ∧ (∃ m, ms[i]? = some m ∧ m.1 = t) ∧ ∀ i', i < i' → i' < j → ms[i']?.map (·.1) ≠ some t
  | 0, i, h => by cases h
  | j + 1, i, h => by
    unfold pv at h
    by_cases e : (ms[j]?.map (·.1)) = some t
    · rw [if_pos e] at h
      simp at h
      subst h
      refine ⟨by omega, ?_, fun i' h1 h2 => by omega⟩
      cases hm : ms[j]? with
      | none => rw [hm] at e; simp at e
      | some m => rw [hm] at e; simp at e; exact ⟨m, rfl, e⟩
    · rw [if_neg e] at h
      obtain ⟨h1, h2, h3⟩ := pv_some h
      refine ⟨by omega, h2, fun i' a b => ?_⟩
      by_cases e' : i' = j
      · subst e'; exact e
      · exact h3 i' a (by omega)

structure Inv (N : Nat → NtTo) (s : List PMsg × (ByteArray → Option Nat)) (k : Nat) : Prop where
  last : ∀ t, s.2 t = pv s.1 s.1.length t
  elt : ∀ (i : Nat) (m : PMsg), s.1[i]? = some m → ∀ (a p : Nat), m.2[a]? = some p → p < k ∧ (N p).1 = m.1
  size : ∀ (i : Nat) (m : PMsg), s.1[i]? = some m → 1 ≤ m.2.length ∧ m.2.length ≤ 10000
  chain : ∀ (i : Nat) (m : PMsg), s.1[i]? = some m → ∀ (a p p' : Nat), m.2[a]? = some p → m.2[a + 1]? = some p' → p < p' ∧ ∀ q, p < q → q < p' → (N q).1 ≠ m.1
  start0 : ∀ (i : Nat) (m : PMsg) (p : Nat), s.1[i]? = some m → m.2[0]? = some p → pv s.1 i m.1 = none → ∀ q, q < p → (N q).1 ≠ m.1
  start1 : ∀ (i : Nat) (m : PMsg) (p j : Nat) (mj : PMsg), s.1[i]? = some m → m.2[0]? = some p → pv s.1 i m.1 = some j → s.1[j]? = some mj → mj.2.length = 10000 ∧ ∀ z, mj.2[9999]? = some z → z < p ∧ ∀ q, z < q → q < p → (N q).1 ≠ m.1
  rise : ∀ (i : Nat) (m m' : PMsg) (p p' : Nat), s.1[i]? = some m → s.1[i + 1]? = some m' → m.2[0]? = some p → m'.2[0]? = some p' → p < p'
  tail : ∀ (t : ByteArray) (i : Nat) (m : PMsg), pv s.1 s.1.length t = some i → s.1[i]? = some m → ∀ z, m.2[m.2.length - 1]? = some z → ∀ q, z < q → q < k → (N q).1 ≠ t
  bare : ∀ t, pv s.1 s.1.length t = none → ∀ q, q < k → (N q).1 ≠ t

/-- A new message. -/
theorem inv_open {N : Nat → NtTo} {s : List PMsg × (ByteArray → Option Nat)} {k : Nat} (h : Inv N s k) (ho : opens s.1 s.2 (N k).1 = true) : Inv N (s.1 ++ [((N k).1, [k])], Bat.mark s.2 (N k).1 s.1.length) (k + 1) := by
  obtain ⟨ms, last⟩ := s
  simp only at h ho ⊢
  generalize ht : (N k).1 = t at *
  have old : ∀ i, i < ms.length → (ms ++ [(t, [k])])[i]? = ms[i]? := fun i hi => List.getElem?_append_left hi
  have new : (ms ++ [(t, [k])])[ms.length]? = some (t, [k]) := by simp
  have len : (ms ++ [(t, [k])]).length = ms.length + 1 := by simp
  have split : ∀ (i : Nat) (m : PMsg), (ms ++ [(t, [k])])[i]? = some m → (i < ms.length ∧ ms[i]? = some m) ∨ (i = ms.length ∧ m = (t, [k])) := fun i m hm => by
    by_cases hi : i < ms.length
    · exact .inl ⟨hi, (old i hi) ▸ hm⟩
    · right
      have hl := (List.getElem?_eq_some_iff.1 hm).1
      rw [len] at hl
      have e : i = ms.length := by omega
      subst e
      rw [new] at hm
      exact ⟨rfl, (Option.some.inj hm).symm⟩
  have pvold : ∀ i u, i ≤ ms.length → pv (ms ++ [(t, [k])]) i u = pv ms i u := fun i u hi => pv_congr (fun a ha => by rw [old a (by omega)])
  have pvnew : ∀ u, pv (ms ++ [(t, [k])]) (ms.length + 1) u = if t = u then some ms.length else pv ms ms.length u := fun u => by
    show (if ((ms ++ [(t, [k])])[ms.length]?.map (·.1)) = some u then some ms.length else pv (ms ++ [(t, [k])]) ms.length u) = _
    rw [new, pvold _ _ (Nat.le_refl _)]
    simp
  refine ⟨?_, ?_, ?_, ?_, ?_, ?_, ?_, ?_, ?_⟩
  · intro u
    show Bat.mark last t ms.length u = pv _ _ u
    rw [len, pvnew]
    unfold Bat.mark
    by_cases e : u = t
    · subst e; simp
    · rw [if_neg e, if_neg (Ne.symm e)]; exact h.last u
  · intro i m hm a p hp
    rcases split i m hm with ⟨_, hm'⟩ | ⟨_, rfl⟩
    · have := h.elt i m hm' a p hp
      exact ⟨by omega, this.2⟩
    · cases a with
      | zero => simp at hp; subst hp; exact ⟨by omega, ht⟩
      | succ a => simp at hp
  · intro i m hm
    rcases split i m hm with ⟨_, hm'⟩ | ⟨_, rfl⟩
    · exact h.size i m hm'
    · simp
  · intro i m hm a p p' hp hp'
    rcases split i m hm with ⟨_, hm'⟩ | ⟨_, rfl⟩
    · exact h.chain i m hm' a p p' hp hp'
    · simp at hp'
  · intro i m p hm hp hpv
    rcases split i m hm with ⟨hi, hm'⟩ | ⟨rfl, rfl⟩
    · rw [pvold _ _ (by omega)] at hpv
      exact h.start0 i m p hm' hp hpv
    · rw [pvold _ _ (Nat.le_refl _)] at hpv
      simp at hp
      subst hp
      exact h.bare t hpv
  · intro i m p j mj hm hp hpv hmj
    rcases split i m hm with ⟨hi, hm'⟩ | ⟨rfl, rfl⟩
    · rw [pvold _ _ (by omega)] at hpv
      have hj := (pv_some hpv).1
      rw [old j (by omega)] at hmj
      exact h.start1 i m p j mj hm' hp hpv hmj
    · rw [pvold _ _ (Nat.le_refl _)] at hpv
      simp at hp
      subst hp
      have hj := (pv_some hpv).1
      rw [old j hj] at hmj
      have hfull : mj.2.length = 10000 := by
        have hl := h.last t
        simp only at hl hpv
        rw [hpv] at hl
        simp only [opens, hl, List.getD, hmj, Option.getD_some] at ho
        simpa using ho
      refine ⟨hfull, fun z hz => ?_⟩
      have hz' : mj.2[mj.2.length - 1]? = some z := by rw [hfull]; exact hz
      exact ⟨(h.elt j mj hmj _ z hz).1, h.tail t j mj hpv hmj z hz'⟩
  · intro i m m' p p' hm hm' hp hp'
    rcases split (i + 1) m' hm' with ⟨hi, hm2⟩ | ⟨hi, rfl⟩
    · rw [old i (by omega)] at hm
      exact h.rise i m m' p p' hm hm2 hp hp'
    · simp at hp'
      subst hp'
      rw [old i (by omega)] at hm
      exact (h.elt i m hm 0 p hp).1
  · intro u i m hpv hm z hz q hzq hqk
    rw [len, pvnew] at hpv
    by_cases e : t = u
    · rw [if_pos e] at hpv
      simp at hpv
      subst hpv
      rw [new] at hm
      simp at hm
      subst hm
      simp at hz
      omega
    · rw [if_neg e] at hpv
      have hi := (pv_some hpv).1
      rw [old i hi] at hm
      by_cases eq : q = k
      · subst eq; rw [ht]; exact e
      · exact h.tail u i m hpv hm z hz q hzq (by omega)
  · intro u hpv q hq
    rw [len, pvnew] at hpv
    by_cases e : t = u
    · rw [if_pos e] at hpv; cases hpv
    · rw [if_neg e] at hpv
      by_cases eq : q = k
      · subst eq; rw [ht]; exact e
      · exact h.bare u hpv q (by omega)

/-- A note joins the last message to its node. -/
theorem inv_join {N : Nat → NtTo} {s : List PMsg × (ByteArray → Option Nat)} {k i0 : Nat} (h : Inv N s k) (hl : s.2 (N k).1 = some i0) (ho : opens s.1 s.2 (N k).1 = false) : Inv N (push s.1 i0 k, s.2) (k + 1) := by
  obtain ⟨ms, last⟩ := s
  simp only at h ho hl ⊢
  generalize ht : (N k).1 = t at *
  have hpv0 : pv ms ms.length t = some i0 := by rw [← h.last t]; exact hl
  obtain ⟨hi0, ⟨m0, hm0, hmt⟩, hlate⟩ := pv_some hpv0
  have hsz := h.size i0 m0 hm0
  have hne : m0.2.length ≠ 10000 := by
    intro e
    simp [opens, hl, List.getD, hm0, e] at ho
  have get : ∀ (i : Nat) (m : PMsg), (push ms i0 k)[i]? = some m → (i ≠ i0 ∧ ms[i]? = some m) ∨ (i = i0 ∧ m = (m0.1, m0.2 ++ [k])) := fun i m hm => by
    rw [push_get] at hm
    by_cases e : i0 = i
    · subst e
      rw [if_pos rfl, hm0] at hm
      right
      simp at hm
      exact ⟨rfl, hm.symm⟩
    · rw [if_neg e] at hm
      exact .inl ⟨Ne.symm e, hm⟩
  have nodes : ∀ i : Nat, (push ms i0 k)[i]?.map (fun m : PMsg => m.1) = ms[i]?.map (fun m : PMsg => m.1) := fun i => by
    rw [push_get]
    split
    · cases ms[i]? <;> rfl
    · rfl
  have pvs : ∀ i u, pv (push ms i0 k) i u = pv ms i u := fun i u => pv_congr (fun a _ => nodes a)
  have len := push_length ms i0 k
  have first : ∀ p, (m0.2 ++ [k])[0]? = some p → m0.2[0]? = some p := fun p hp => by
    rw [List.getElem?_append_left (by omega)] at hp
    exact hp
  -- whoever has i0 as its forerunner would stand behind the last message to its node
  have notprev : ∀ (i : Nat) (m : PMsg), ms[i]? = some m → pv ms i m.1 = some i0 → False := fun i m hm hp => by
    obtain ⟨hlt, ⟨m1, hm1, e1⟩, _⟩ := pv_some hp
    rw [hm0] at hm1
    simp at hm1
    subst hm1
    have hil := (List.getElem?_eq_some_iff.1 hm).1
    apply hlate i hlt hil
    rw [hm]
    simp [← e1, hmt]
  refine ⟨?_, ?_, ?_, ?_, ?_, ?_, ?_, ?_, ?_⟩
  · intro u
    show last u = pv _ _ u
    rw [len, pvs]
    exact h.last u
  · intro i m hm a p hp
    rcases get i m hm with ⟨_, hm'⟩ | ⟨_, rfl⟩
    · have := h.elt i m hm' a p hp
      exact ⟨by omega, this.2⟩
    · by_cases ha : a < m0.2.length
      · rw [List.getElem?_append_left ha] at hp
        have := h.elt i0 m0 hm0 a p hp
        exact ⟨by omega, this.2⟩
      · have hal := (List.getElem?_eq_some_iff.1 hp).1
        have e : a = m0.2.length := by simp at hal; omega
        subst e
        simp at hp
        subst hp
        exact ⟨by omega, by rw [ht]; exact hmt.symm⟩
  · intro i m hm
    rcases get i m hm with ⟨_, hm'⟩ | ⟨_, rfl⟩
    · exact h.size i m hm'
    · simp; omega
  · intro i m hm a p p' hp hp'
    rcases get i m hm with ⟨_, hm'⟩ | ⟨_, rfl⟩
    · exact h.chain i m hm' a p p' hp hp'
    · by_cases ha : a + 1 < m0.2.length
      · rw [List.getElem?_append_left (by omega)] at hp
        rw [List.getElem?_append_left ha] at hp'
        exact h.chain i0 m0 hm0 a p p' hp hp'
      · have hal := (List.getElem?_eq_some_iff.1 hp').1
        have e : a + 1 = m0.2.length := by simp at hal; omega
        rw [List.getElem?_append_left (by omega)] at hp
        rw [e] at hp'
        simp at hp'
        subst hp'
        have e2 : a = m0.2.length - 1 := by omega
        rw [e2] at hp
        refine ⟨(h.elt i0 m0 hm0 _ p hp).1, fun q h1 h2 => ?_⟩
        show (N q).1 ≠ m0.1
        rw [hmt]
        exact h.tail t i0 m0 hpv0 hm0 p hp q h1 h2
  · intro i m p hm hp hpv
    rw [pvs] at hpv
    rcases get i m hm with ⟨_, hm'⟩ | ⟨rfl, rfl⟩
    · exact h.start0 i m p hm' hp hpv
    · exact h.start0 i m0 p hm0 (first p hp) hpv
  · intro i m p j mj hm hp hpv hmj
    rw [pvs] at hpv
    rcases get i m hm with ⟨_, hm'⟩ | ⟨rfl, rfl⟩
    · rcases get j mj hmj with ⟨_, hmj'⟩ | ⟨rfl, rfl⟩
      · exact h.start1 i m p j mj hm' hp hpv hmj'
      · exact (notprev i m hm' hpv).elim
    · rcases get j mj hmj with ⟨_, hmj'⟩ | ⟨rfl, rfl⟩
      · exact h.start1 i m0 p j mj hm0 (first p hp) hpv hmj'
      · have := (pv_some hpv).1
        omega
  · intro i m m' p p' hm hm' hp hp'
    rcases get i m hm with ⟨_, h1⟩ | ⟨rfl, rfl⟩
    · rcases get (i + 1) m' hm' with ⟨_, h2⟩ | ⟨e, rfl⟩
      · exact h.rise i m m' p p' h1 h2 hp hp'
      · exact h.rise i m m0 p p' h1 (e ▸ hm0) hp (first p' hp')
    · rcases get (i + 1) m' hm' with ⟨_, h2⟩ | ⟨e, rfl⟩
      · exact h.rise i m0 m' p p' hm0 h2 (first p hp) hp'
      · omega
  · intro u i m hpv hm z hz q hzq hqk
    rw [len, pvs] at hpv
    rcases get i m hm with ⟨hi, hm'⟩ | ⟨rfl, rfl⟩
    · by_cases eq : q = k
      · subst eq
        rw [ht]
        intro e
        subst e
        rw [hpv0] at hpv
        simp at hpv
        exact hi hpv.symm
      · exact h.tail u i m hpv hm' z hz q hzq (by omega)
    · simp at hz
      omega
  · intro u hpv q hq
    rw [len, pvs] at hpv
    by_cases eq : q = k
    · subst eq
      rw [ht]
      intro e
      subst e
      rw [hpv0] at hpv
      cases hpv
    · exact h.bare u hpv q (by omega)

theorem inv_st (N : Nat → NtTo) : ∀ k, Inv N (st N k) k
  | 0 => ⟨fun _ => rfl, (fun i m h => by simp [st] at h), (fun i m h => by simp [st] at h), (fun i m h => by simp [st] at h), (fun i m p h => by simp [st] at h), (fun i m p j mj h => by simp [st] at h), (fun i m m' p p' h => by simp [st] at h), (fun t i m h => by cases h), fun t _ q hq => by omega⟩
  | k + 1 => by
    show Inv N (step (st N k) (N k).1 k) (k + 1)
    unfold step
    by_cases ho : opens (st N k).1 (st N k).2 (N k).1 = true
    · rw [if_pos ho]
      exact inv_open (inv_st N k) ho
    · rw [if_neg ho]
      have ho' : opens (st N k).1 (st N k).2 (N k).1 = false := by simpa using ho
      cases hl : (st N k).2 (N k).1 with
      | none => simp [opens, hl] at ho
      | some i0 => exact inv_join (inv_st N k) hl ho'
end Pos
end Go.Proofs.Qxb6000535a
