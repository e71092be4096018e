/- The plain law: sets of types as 8 bits. No Go in sight. -/
namespace Go.Proofs.Qxb6000780a.Nar
def bit (x : BitVec 8) (i : Nat) : Bool := x.getLsbD i
theorem bit_ext {x y : BitVec 8} (h : ∀ i, i < 8 → bit x i = bit y i) : x = y := BitVec.eq_of_getLsbD_eq h
theorem bit_and (x y : BitVec 8) (i : Nat) : bit (x &&& y) i = (bit x i && bit y i) := BitVec.getLsbD_and
theorem bit_or (x y : BitVec 8) (i : Nat) : bit (x ||| y) i = (bit x i || bit y i) := BitVec.getLsbD_or
theorem bit_8 : ∀ i : Nat, i < 8 → bit 8#8 i = decide (i = 3) := by decide +kernel

/-- 'an integer is a number': do the two sets meet there? -/
def meet (x y : BitVec 8) : Bool := (bit x 3 && bit y 2) || (bit x 2 && bit y 3)
def both (x y : BitVec 8) : BitVec 8 := if meet x y then (x &&& y) ||| 8#8 else x &&& y

/-- what narrow answers: the set and whether it is stated -/
def narT (x : BitVec 8) (s : Bool) (y : BitVec 8) (t : Bool) : BitVec 8 := if t then (if s then both x y else y) else x
def narS (s t : Bool) : Bool := if t then true else s

theorem both_self (x : BitVec 8) : both x x = x := by
  unfold both meet
  apply bit_ext
  intro i hi
  cases h3 : bit x 3 <;> cases h2 : bit x 2 <;> simp [bit_or, bit_8 _ hi]
  intro e; subst e; exact h3
theorem both_comm (x y : BitVec 8) : both x y = both y x := by
  have hm : meet x y = meet y x := by
    unfold meet; cases bit x 3 <;> cases bit y 3 <;> cases bit x 2 <;> cases bit y 2 <;> rfl
  unfold both
  rw [hm, BitVec.and_comm]
theorem bit_both (x y : BitVec 8) (i : Nat) (hi : i < 8) : bit (both x y) i = ((bit x i && bit y i) || (meet x y && decide (i = 3))) := by
  unfold both
  cases meet x y <;> simp [bit_and, bit_or, bit_8 _ hi]

/-- does a set of types, stated or not, allow a value of this kind? -/
def allows (x : BitVec 8) (s : Bool) (k : Nat) : Bool :=
  if s then
    match k with
    | 0 => bit x 0
    | 1 => bit x 1
    | 2 => bit x 3 || bit x 2
    | 3 => bit x 2
    | 4 => bit x 4
    | 5 => bit x 5
    | _ => bit x 6
  else true

theorem allows_both (x y : BitVec 8) (k : Nat) : allows (both x y) true k = (allows x true k && allows y true k) := by
  unfold allows
  simp only [if_true]
  split <;> simp only [bit_both _ _ _ (by decide : 0 < 8), bit_both _ _ _ (by decide : 1 < 8), bit_both _ _ _ (by decide : 2 < 8), bit_both _ _ _ (by decide : 3 < 8), bit_both _ _ _ (by decide : 4 < 8), bit_both _ _ _ (by decide : 5 < 8), bit_both _ _ _ (by decide : 6 < 8)] <;> simp [meet]
  generalize bit x 2 = a
  generalize bit x 3 = b
  generalize bit y 2 = c
  generalize bit y 3 = d
  cases a <;> cases b <;> cases c <;> cases d <;> rfl

theorem allows_nar (x : BitVec 8) (s : Bool) (y : BitVec 8) (t : Bool) (k : Nat) : allows (narT x s y t) (narS s t) k = (allows x s k && allows y t k) := by
  cases t
  · simp [narT, narS, allows]
  · cases s
    · simp [narT, narS, allows]
    · simpa [narT, narS] using allows_both x y k
end Go.Proofs.Qxb6000780a.Nar
