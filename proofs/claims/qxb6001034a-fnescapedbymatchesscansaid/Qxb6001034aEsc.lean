namespace Go.Proofs.Qxb6001034a.Esc
def bit (x : BitVec 64) (i : Nat) : Bool := x.getLsbD i
theorem bit_ext {x y : BitVec 64} (h : ∀ i, i < 64 → bit x i = bit y i) : x = y := BitVec.eq_of_getLsbD_eq h
theorem bit_and (x y : BitVec 64) (i : Nat) : bit (x &&& y) i = (bit x i && bit y i) := BitVec.getLsbD_and
theorem bit_or (x y : BitVec 64) (i : Nat) : bit (x ||| y) i = (bit x i || bit y i) := BitVec.getLsbD_or
theorem bit_not (x : BitVec 64) (i : Nat) (hi : i < 64) : bit (~~~x) i = !bit x i := by
  unfold bit; rw [BitVec.getLsbD_not]; simp [hi]
theorem bit_zero (i : Nat) : bit 0#64 i = false := by simp [bit]
theorem bit_shl_0 (x : BitVec 64) : bit (x <<< 1) 0 = false := by simp [bit]
theorem bit_shl_succ (x : BitVec 64) (i : Nat) (hi : i + 1 < 64) : bit (x <<< 1) (i + 1) = bit x i := by
  unfold bit; rw [BitVec.getLsbD_shiftLeft]; simp [hi]
theorem bit_one_shl (k i : Nat) (hi : i < 64) : bit (1#64 <<< k) i = decide (i = k) := by
  unfold bit; rw [BitVec.getLsbD_shiftLeft]
  by_cases e : i = k
  · subst e; simp [hi]
  · by_cases hl : i < k
    · simp [hl, e]
    · have h3 : i - k ≠ 0 := by omega
      have : (1#64).getLsbD (i - k) = false := by simp [BitVec.getLsbD_one, h3]
      simp [this, e]

/-- how many ones stand right below bit i -/
def run (x : BitVec 64) : Nat → Nat
  | 0 => 0
  | i + 1 => if bit x i then run x i + 1 else 0

theorem run_le (x : BitVec 64) : ∀ i, run x i ≤ i
  | 0 => Nat.le_refl _
  | i + 1 => by
    have := run_le x i
    unfold run; split <;> omega

def ev : BitVec 64 := 0x5555555555555555#64
def od : BitVec 64 := 0xaaaaaaaaaaaaaaaa#64

theorem ev_bit : ∀ i : Nat, i < 64 → bit ev i = (i % 2 == 0) := by decide +kernel
theorem od_bit : ∀ i : Nat, i < 64 → bit od i = (i % 2 == 1) := by decide +kernel

def starts (x : BitVec 64) : BitVec 64 := x &&& ~~~(x <<< 1)

theorem starts_bit (x : BitVec 64) (i : Nat) (hi : i < 64) : bit (starts x) i = (bit x i && (run x i == 0)) := by
  unfold starts
  rw [bit_and, bit_not _ _ hi]
  cases i with
  | zero => rw [bit_shl_0]; simp [run]
  | succ j =>
    rw [bit_shl_succ _ _ hi]
    unfold run
    cases bit x j <;> simp

/-- the carry that comes into bit i when the starts at the places that m marks are added -/
theorem carry_is (x m : BitVec 64) : ∀ i : Nat, i ≤ 64 → BitVec.carry i x (starts x &&& m) false = (decide (0 < run x i) && bit m (i - run x i))
  | 0, _ => by simp [run]
  | i + 1, h => by
    have hc := carry_is x m i (by omega)
    have hs := starts_bit x i (by omega)
    have hr := run_le x i
    have hsm : (starts x &&& m).getLsbD i = ((bit x i && (run x i == 0)) && bit m i) := by rw [← hs]; exact bit_and _ _ _
    have hxi : x.getLsbD i = bit x i := rfl
    rw [BitVec.carry_succ, hc, hsm, hxi]
    cases hx : bit x i
    · have e : run x (i + 1) = 0 := by simp [run, hx]
      simp [e, Bool.atLeastTwo]
    · have e : run x (i + 1) = run x i + 1 := by simp [run, hx]
      rw [e]
      by_cases h0 : run x i = 0
      · simp [h0, Bool.atLeastTwo]
      · have h1 : 0 < run x i := by omega
        have h2 : (run x i == 0) = false := by simp [h0]
        have e2 : i + 1 - (run x i + 1) = i - run x i := by omega
        rw [e2, h2]
        simp [h1, Bool.atLeastTwo]

def after (x m : BitVec 64) : BitVec 64 := (x + (starts x &&& m)) &&& ~~~x

theorem after_bit (x m : BitVec 64) (i : Nat) (hi : i < 64) : bit (after x m) i = (!bit x i && decide (0 < run x i) && bit m (i - run x i)) := by
  unfold after
  rw [bit_and, bit_not _ _ hi]
  have ha : bit (x + (starts x &&& m)) i = (bit x i ^^ (((bit x i && (run x i == 0)) && bit m i) ^^ (decide (0 < run x i) && bit m (i - run x i)))) := by
    rw [← carry_is x m i (by omega), ← starts_bit x i hi, ← bit_and]
    exact BitVec.getLsbD_add hi _ _
  rw [ha]
  cases bit x i <;> simp

/-- what the Go text reckons -/
def esc (x : BitVec 64) : BitVec 64 := (after x ev &&& od) ||| (after x od &&& ev)

theorem esc_bit (x : BitVec 64) (i : Nat) (hi : i < 64) : bit (esc x) i = (!bit x i && (run x i % 2 == 1)) := by
  unfold esc
  have hr := run_le x i
  rw [bit_or, bit_and, bit_and, after_bit x _ i hi, after_bit x _ i hi, ev_bit i hi, od_bit i hi, ev_bit _ (by omega), od_bit _ (by omega)]
  cases bit x i
  · by_cases h0 : 0 < run x i
    · have a : i % 2 = 0 ∨ i % 2 = 1 := by omega
      have b : run x i % 2 = 0 ∨ run x i % 2 = 1 := by omega
      rcases a with a | a <;> rcases b with b | b
      · have : (i - run x i) % 2 = 0 := by omega
        simp [a, b, this]
      · have : (i - run x i) % 2 = 1 := by omega
        simp [a, b, this, h0]
      · have : (i - run x i) % 2 = 1 := by omega
        simp [a, b, this]
      · have : (i - run x i) % 2 = 0 := by omega
        simp [a, b, this, h0]
    · have : run x i = 0 := by omega
      simp [this]
  · simp

/-- what the scan has marked after k rounds -/
def scan (x : BitVec 64) : Nat → BitVec 64
  | 0 => 0#64
  | k + 1 => if bit x k then scan x k else if run x k % 2 = 1 then scan x k ||| (1#64 <<< k) else scan x k

theorem scan_bit (x : BitVec 64) (i : Nat) (hi : i < 64) : ∀ k, bit (scan x k) i = (decide (i < k) && !bit x i && (run x i % 2 == 1))
  | 0 => by simp [scan, bit_zero]
  | k + 1 => by
    have ih := scan_bit x i hi k
    unfold scan
    by_cases e : i = k
    · subst e
      cases hx : bit x i
      · by_cases hr : run x i % 2 = 1
        · simp [hr, bit_or, bit_one_shl _ _ hi]
        · simp [hr, ih]
      · simp [ih]
    · have e2 : decide (i < k + 1) = decide (i < k) := by simp; omega
      rw [e2, ← ih]
      split
      · rfl
      · split
        · simp [bit_or, bit_one_shl _ _ hi, e]
        · rfl

theorem scan_esc (x : BitVec 64) : scan x 64 = esc x := by
  apply bit_ext
  intro i hi
  rw [scan_bit x i hi, esc_bit x i hi]
  simp [hi]

theorem esc_and (x : BitVec 64) : esc x &&& x = 0#64 := by
  apply bit_ext
  intro i hi
  rw [bit_and, esc_bit x i hi, bit_zero]
  cases bit x i <;> simp

theorem esc_after (x : BitVec 64) : esc x &&& ~~~(x <<< 1) = 0#64 := by
  apply bit_ext
  intro i hi
  rw [bit_and, esc_bit x i hi, bit_not _ _ hi, bit_zero]
  cases i with
  | zero => simp [run]
  | succ j =>
    rw [bit_shl_succ _ _ hi]
    unfold run
    cases bit x j <;> simp

theorem esc_alone (x : BitVec 64) (h : x &&& (x <<< 1) = 0#64) : esc x = x <<< 1 := by
  have hb : ∀ i, i + 1 < 64 → ¬ (bit x (i + 1) = true ∧ bit x i = true) := by
    intro i hi ⟨h1, h2⟩
    have := congrArg (fun y => bit y (i + 1)) h
    simp only [bit_and, bit_shl_succ _ _ hi, bit_zero, h1, h2] at this
    simp at this
  apply bit_ext
  intro i hi
  rw [esc_bit x i hi]
  cases i with
  | zero => rw [bit_shl_0]; simp [run]
  | succ j =>
    have hj := hb j hi
    rw [bit_shl_succ _ _ hi]
    cases hx : bit x j
    · simp [run, hx]
    · have hn : bit x (j + 1) = false := by
        cases hq : bit x (j + 1)
        · rfl
        · exact absurd ⟨hq, hx⟩ hj
      have hr : run x j = 0 := by
        cases j with
        | zero => rfl
        | succ q =>
          have := hb q (by omega)
          unfold run
          split
          · rename_i hq; exact absurd ⟨hx, hq⟩ this
          · rfl
      simp [run, hx, hn, hr]
end Go.Proofs.Qxb6001034a.Esc
