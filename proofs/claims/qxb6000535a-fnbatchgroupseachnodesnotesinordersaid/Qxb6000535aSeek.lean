/- The next place of a node's notes; where each message begins; the cursors that the law carries. No Go in sight. -/
import Derived.Test.Qxb6000535aPos
namespace Go.Proofs.Qxb6000535a
namespace Pos
/-- The first of the d places from s on whose note is for node t. -/
def seek (N : Nat → NtTo) : Nat → Nat → ByteArray → Option Nat
  | _, 0, _ => none
  | s, d + 1, t => if (N s).1 = t then some s else seek N (s + 1) d t
theorem seek_eq {N : Nat → NtTo} {t : ByteArray} {p : Nat} : ∀ {d s : Nat}, s ≤ p → p < s + d → (N p).1 = t → (∀ q, s ≤ q → q < p → (N q).1 ≠ t) → seek N s d t = some p
  | 0, s, h1, h2, _, _ => by omega
  | d + 1, s, h1, h2, h3, h4 => by
    unfold seek
    by_cases e : s = p
    · subst e; rw [if_pos h3]
    · rw [if_neg (h4 s (Nat.le_refl _) (by omega))]
      exact seek_eq (by omega) (by omega) h3 (fun q a b => h4 q (by omega) b)
theorem seek_lt {N : Nat → NtTo} {t : ByteArray} {p : Nat} : ∀ {d s : Nat}, seek N s d t = some p → s ≤ p ∧ p < s + d
  | 0, s, h => by cases h
  | d + 1, s, h => by
    unfold seek at h
    by_cases e : (N s).1 = t
    · rw [if_pos e] at h; simp at h; omega
    · rw [if_neg e] at h
      have := seek_lt h
      omega
/-- The first place from e on, below n. -/
def from_ (N : Nat → NtTo) (n e : Nat) (t : ByteArray) : Option Nat := seek N e (n - e) t
theorem from_eq {N : Nat → NtTo} {n e p : Nat} {t : ByteArray} (h1 : e ≤ p) (h2 : p < n) (h3 : (N p).1 = t) (h4 : ∀ q, e ≤ q → q < p → (N q).1 ≠ t) : from_ N n e t = some p := seek_eq h1 (by omega) h3 h4
theorem from_end (N : Nat → NtTo) (n : Nat) (t : ByteArray) : from_ N n n t = none := by unfold from_; rw [Nat.sub_self]; rfl
theorem from_step (N : Nat → NtTo) (n e : Nat) (h : e < n) (t : ByteArray) : from_ N n e t = if t = (N e).1 then some e else from_ N n (e + 1) t := by
  unfold from_
  rw [show n - e = (n - (e + 1)) + 1 from by omega]
  by_cases e1 : t = (N e).1
  · subst e1; simp [seek]
  · simp [seek, e1, Ne.symm e1]
/-- The next note's place for the same node, -1 if there is none. -/
def nx (N : Nat → NtTo) (n i : Nat) : Int := ((from_ N n (i + 1) (N i).1).map (fun p => (p : Int))).getD (-1)
theorem nx_bd (N : Nat → NtTo) (n i : Nat) (h : i < n) : -1 ≤ nx N n i ∧ nx N n i < n := by
  unfold nx
  cases e : from_ N n (i + 1) (N i).1 with
  | none => simp; omega
  | some p =>
    have := seek_lt e
    simp
    omega
theorem nx_eq {N : Nat → NtTo} {n i p : Nat} (h1 : i < p) (h2 : p < n) (h3 : (N p).1 = (N i).1) (h4 : ∀ q, i < q → q < p → (N q).1 ≠ (N i).1) : nx N n i = p := by
  unfold nx
  rw [from_eq (by omega) h2 h3 (fun q a b => h4 q (by omega) b)]
  rfl

def asInt (f : ByteArray → Option Nat) : ByteArray → Option Int := fun t => (f t).map (fun i => (i : Int))
def lastP (m : PMsg) : Nat := m.2.getD (m.2.length - 1) 0
theorem pv_succ (ms : List PMsg) (j : Nat) (t : ByteArray) : pv ms (j + 1) t = if (ms[j]?.map (·.1)) = some t then some j else pv ms j t := rfl
theorem lastP_eq {m : PMsg} {z : Nat} (h : m.2[m.2.length - 1]? = some z) : lastP m = z := by
  unfold lastP List.getD
  rw [h]
  rfl
/-- What the law's two maps hold when the first mi messages are read. -/
def curF (N : Nat → NtTo) (n : Nat) (ms : List PMsg) (mi : Nat) (t : ByteArray) : Option Int := (pv ms mi t).map (fun j => nx N n (lastP (ms.getD j (.empty, []))))
def lenF (ms : List PMsg) (mi : Nat) (t : ByteArray) : Option Int := (pv ms mi t).map (fun j => ((ms.getD j (.empty, [])).2.length : Int))

section
variable {N : Nat → NtTo} {n : Nat}

theorem curF_step {ms : List PMsg} {mi : Nat} {m : PMsg} (h : ms[mi]? = some m) : curF N n ms (mi + 1) = fun u => if u = m.1 then some (nx N n (lastP m)) else curF N n ms mi u := by
  funext u
  unfold curF
  rw [pv_succ]
  simp only [h, Option.map_some, Option.some.injEq]
  by_cases e : m.1 = u
  · rw [if_pos e, if_pos e.symm]; simp [List.getD, h]
  · rw [if_neg e, if_neg (Ne.symm e)]
theorem lenF_step {ms : List PMsg} {mi : Nat} {m : PMsg} (h : ms[mi]? = some m) : lenF ms (mi + 1) = fun u => if u = m.1 then some (m.2.length : Int) else lenF ms mi u := by
  funext u
  unfold lenF
  rw [pv_succ]
  simp only [h, Option.map_some, Option.some.injEq]
  by_cases e : m.1 = u
  · rw [if_pos e, if_pos e.symm]; simp [List.getD, h]
  · rw [if_neg e, if_neg (Ne.symm e)]

/-- Message mi, as the law meets it: where it begins, and that the cursor stands there. -/
theorem begins {mi : Nat} {m : PMsg} (hm : (st N n).1[mi]? = some m) : ∃ p, m.2[0]? = some p ∧ p < n ∧ (N p).1 = m.1 ∧
    ((curF N n (st N n).1 mi m.1 = none ∧ lenF (st N n).1 mi m.1 = none ∧ from_ N n 0 m.1 = some p) ∨ (curF N n (st N n).1 mi m.1 = some (p : Int) ∧ lenF (st N n).1 mi m.1 = some 10000)) := by
  have inv := inv_st N n
  have hsz := inv.size mi m hm
  obtain ⟨p, hp⟩ : ∃ p, m.2[0]? = some p := ⟨m.2[0]'(by omega), List.getElem?_eq_getElem _⟩
  have helt := inv.elt mi m hm 0 p hp
  refine ⟨p, hp, helt.1, helt.2, ?_⟩
  cases hpv : pv (st N n).1 mi m.1 with
  | none =>
    left
    refine ⟨by simp [curF, hpv], by simp [lenF, hpv], from_eq (Nat.zero_le _) helt.1 helt.2 (fun q _ hq => inv.start0 mi m p hm hp hpv q hq)⟩
  | some j =>
    right
    obtain ⟨hj, ⟨mj, hmj, hjt⟩, _⟩ := pv_some hpv
    obtain ⟨hfull, hz⟩ := inv.start1 mi m p j mj hm hp hpv hmj
    obtain ⟨z, hzz⟩ : ∃ z, mj.2[9999]? = some z := ⟨mj.2[9999]'(by omega), List.getElem?_eq_getElem _⟩
    obtain ⟨hzp, hbet⟩ := hz z hzz
    have hze := inv.elt j mj hmj 9999 z hzz
    have hlast : lastP mj = z := lastP_eq (by rw [hfull]; exact hzz)
    have hnx : nx N n z = p := nx_eq hzp helt.1 (by rw [helt.2, hze.2, hjt]) (fun q a b => by rw [hze.2, hjt]; exact hbet q a b)
    refine ⟨by simp [curF, hpv, List.getD, hmj, hlast, hnx], by simp [lenF, hpv, List.getD, hmj, hfull]⟩

theorem goes_on {mi : Nat} {m : PMsg} (hm : (st N n).1[mi]? = some m) {a p p' : Nat} (hp : m.2[a]? = some p) (hp' : m.2[a + 1]? = some p') : nx N n p = p' := by
  have inv := inv_st N n
  have e1 := inv.elt mi m hm a p hp
  have e2 := inv.elt mi m hm (a + 1) p' hp'
  obtain ⟨h1, h2⟩ := inv.chain mi m hm a p p' hp hp'
  exact nx_eq h1 e2.1 (by rw [e2.2, e1.2]) (fun q x y => by rw [e1.2]; exact h2 q x y)

/-- The cursor after a notes of the message. -/
def curAt (N : Nat → NtTo) (n : Nat) (m : PMsg) (a : Nat) : Int := match m.2[a]? with
  | some p => (p : Int)
  | none => nx N n (lastP m)
theorem curAt_next {mi : Nat} {m : PMsg} (hm : (st N n).1[mi]? = some m) {a p : Nat} (hp : m.2[a]? = some p) : nx N n p = curAt N n m (a + 1) := by
  unfold curAt
  cases h : m.2[a + 1]? with
  | some p' => exact goes_on hm hp h
  | none =>
    have h1 := (List.getElem?_eq_some_iff.1 hp).1
    have h2 : m.2.length ≤ a + 1 := by simpa using h
    have e : a = m.2.length - 1 := by omega
    subst e
    rw [lastP_eq hp]
theorem curAt_lt {m : PMsg} {a p : Nat} (hp : m.2[a]? = some p) : curAt N n m a = p := by simp [curAt, hp]
theorem curAt_end (m : PMsg) : curAt N n m m.2.length = nx N n (lastP m) := by simp [curAt]

/-- Where the message before mi began; -1 at the first. -/
def prevStart (ms : List PMsg) : Nat → Int
  | 0 => -1
  | mi + 1 => (((ms.getD mi (.empty, [])).2.getD 0 0 : Nat) : Int)
theorem prevStart_lt {mi : Nat} {m : PMsg} (hm : (st N n).1[mi]? = some m) {p : Nat} (hp : m.2[0]? = some p) : prevStart (st N n).1 mi < p := by
  cases mi with
  | zero => simp [prevStart]; omega
  | succ j =>
    have inv := inv_st N n
    have hlt := (List.getElem?_eq_some_iff.1 hm).1
    obtain ⟨mj, hmj⟩ : ∃ mj, (st N n).1[j]? = some mj := ⟨(st N n).1[j]'(by omega), List.getElem?_eq_getElem _⟩
    have hsz := inv.size j mj hmj
    obtain ⟨z, hz⟩ : ∃ z, mj.2[0]? = some z := ⟨mj.2[0]'(by omega), List.getElem?_eq_getElem _⟩
    have := inv.rise j mj m z p hmj hm hz hp
    simp [prevStart, List.getD, hmj, hz]
    omega
theorem prevStart_step {ms : List PMsg} {mi : Nat} {m : PMsg} (hm : ms[mi]? = some m) {p : Nat} (hp : m.2[0]? = some p) : prevStart ms (mi + 1) = p := by
  simp [prevStart, List.getD, hm, hp]
end
end Pos
end Go.Proofs.Qxb6000535a
