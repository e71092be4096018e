/- The plain law: Chinese numerals from 1 to 999, written and read back. No Go in sight. -/
namespace Go.Proofs.Qxb6001104a.Num
/-- the digit's rune -/
def dig (d : Int) : Int :=
  if d = 1 then 19968 else if d = 2 then 20108 else if d = 3 then 19977 else if d = 4 then 22235 else if d = 5 then 20116
  else if d = 6 then 20845 else if d = 7 then 19971 else if d = 8 then 20843 else if d = 9 then 20061 else 38646
def zero (c : Bool) : Int := if c then 12295 else 38646
/-- the runes that a numeral may hold -/
def runes : List Int := [38646, 12295, 19968, 20108, 19977, 22235, 20116, 20845, 19971, 20843, 20061, 21313, 30334]
def val (r : Int) : Int :=
  if r = 19968 then 1 else if r = 20108 then 2 else if r = 19977 then 3 else if r = 22235 then 4 else if r = 20116 then 5
  else if r = 20845 then 6 else if r = 19971 then 7 else if r = 20843 then 8 else if r = 20061 then 9
  else if r = 21313 then 10 else if r = 30334 then 100 else 0
def unit (r : Int) : Bool := r == 21313 || r == 30334

def hund (h : Int) : List Int := if 0 < h then [dig h, 30334] else []
def tens (h t o : Int) (c s : Bool) : List Int :=
  if 0 < t then (if s && (h == 0) && (t == 1) then [] else [dig t]) ++ [21313] else if 0 < h ∧ 0 < o then [zero c] else []
def ones (o : Int) : List Int := if 0 < o then [dig o] else []
def fmt (n : Int) (c s : Bool) : List Int := hund (n / 100) ++ tens (n / 100) (n / 10 % 10) (n % 10) c s ++ ones (n % 10)

/-- one rune read: the total and the digit that waits -/
def step (p : Int × Int) (r : Int) : Int × Int :=
  if unit r then (p.1 + (if p.2 = 0 then 1 else p.2) * val r, 0) else (p.1, val r)
def read (l : List Int) : Int × Int := l.foldl step (0, 0)

/-- what the walk wants of one numeral, as one Bool -/
def good (n : Int) (c s : Bool) : Bool :=
  let l := fmt n c s
  decide (l.length ≤ 5) && l.all (fun r => runes.contains r) &&
  (List.range 6).all (fun k => let p := read (l.take k); decide (0 ≤ p.1) && decide (p.1 ≤ 999) && decide (0 ≤ p.2) && decide (p.2 ≤ 9)) &&
  decide ((read l).1 + (read l).2 = n)

theorem all_good : ∀ k : Nat, k < 1000 → (k = 0 ∨ (good k true true && good k true false && good k false true && good k false false) = true) := by decide +kernel

theorem good_of (n : Int) (h1 : 1 ≤ n) (h2 : n ≤ 999) (c s : Bool) : good n c s = true := by
  obtain ⟨k, rfl⟩ := Int.eq_ofNat_of_zero_le (by omega : 0 ≤ n)
  rcases all_good k (by omega) with h | h
  · omega
  · simp only [Bool.and_eq_true] at h
    cases c <;> cases s <;> simp [h]
end Go.Proofs.Qxb6001104a.Num
