/- zzFormatChinese (20), case by case: each way through its tests is one walk. -/
import Derived.Test.Qxb6001104aNumCalls
namespace Go.Proofs.Qxb6001104a
open Go.ChangeShapes Go.WideShapes Go.ChangeAt Go.RowKit
set_option linter.unusedSimpArgs false
set_option linter.unusedVariables false

theorem format_zto_tt (n : Int) (w : World) (h1 : 1 ≤ n) (h2 : n ≤ 999) (hh : n < 100) (ht : 0 < n / 10 % 10) (ho : 0 < n % 10) (hs : (n / 10 % 10 == 1) = false) :
    Calls Try.prog 20 #[.int .i64 n, .bool true, .bool true] w (Num.Fmt n true true w) := by
  have hmk := mk5
  have hz : ¬ 0 < n / 100 := by omega
  have hq : (n / 100 == 0) = true := by rw [beq_iff_eq]; omega
  have hl : Num.fmt n true true = [Num.dig (n / 10 % 10), 21313, Num.dig (n % 10)] := by
    simp [Num.fmt, Num.hund, Num.tens, Num.ones, Num.zero, hh, ht, ho, hz, hq, hs]
  have Hl : Hid (Num.fmt n true true = [Num.dig (n / 10 % 10), 21313, Num.dig (n % 10)]) := hl
  clear hl
  go_enter Try.func20, Try.ntmps20
  go_wp2_with (go_at_call 23; refine (digitRune_any _ (by omega) (by omega) _).mono ?_; rintro e w' ⟨rfl, rfl⟩)
  go_ret
  refine ⟨_, Hl.symm, rfl, ?_, by repeat (first | exact Grown.refl _ | apply Grown.alloc)⟩
  intro k hk
  have hk5 : k < 3 := hk
  rcases (by omega : k = 0 ∨ k = 1 ∨ k = 2) with rfl | rfl | rfl <;> simp [go_sem]

theorem format_zto_tf (n : Int) (w : World) (h1 : 1 ≤ n) (h2 : n ≤ 999) (hh : n < 100) (ht : 0 < n / 10 % 10) (ho : 0 < n % 10) :
    Calls Try.prog 20 #[.int .i64 n, .bool true, .bool false] w (Num.Fmt n true false w) := by
  have hmk := mk5
  have hz : ¬ 0 < n / 100 := by omega
  have hq : (n / 100 == 0) = true := by rw [beq_iff_eq]; omega
  have hl : Num.fmt n true false = [Num.dig (n / 10 % 10), 21313, Num.dig (n % 10)] := by
    simp [Num.fmt, Num.hund, Num.tens, Num.ones, Num.zero, hh, ht, ho, hz, hq]
  have Hl : Hid (Num.fmt n true false = [Num.dig (n / 10 % 10), 21313, Num.dig (n % 10)]) := hl
  clear hl
  go_enter Try.func20, Try.ntmps20
  go_wp2_with (go_at_call 23; refine (digitRune_any _ (by omega) (by omega) _).mono ?_; rintro e w' ⟨rfl, rfl⟩)
  go_ret
  refine ⟨_, Hl.symm, rfl, ?_, by repeat (first | exact Grown.refl _ | apply Grown.alloc)⟩
  intro k hk
  have hk5 : k < 3 := hk
  rcases (by omega : k = 0 ∨ k = 1 ∨ k = 2) with rfl | rfl | rfl <;> simp [go_sem]

theorem format_zto_ft (n : Int) (w : World) (h1 : 1 ≤ n) (h2 : n ≤ 999) (hh : n < 100) (ht : 0 < n / 10 % 10) (ho : 0 < n % 10) (hs : (n / 10 % 10 == 1) = false) :
    Calls Try.prog 20 #[.int .i64 n, .bool false, .bool true] w (Num.Fmt n false true w) := by
  have hmk := mk5
  have hz : ¬ 0 < n / 100 := by omega
  have hq : (n / 100 == 0) = true := by rw [beq_iff_eq]; omega
  have hl : Num.fmt n false true = [Num.dig (n / 10 % 10), 21313, Num.dig (n % 10)] := by
    simp [Num.fmt, Num.hund, Num.tens, Num.ones, Num.zero, hh, ht, ho, hz, hq, hs]
  have Hl : Hid (Num.fmt n false true = [Num.dig (n / 10 % 10), 21313, Num.dig (n % 10)]) := hl
  clear hl
  go_enter Try.func20, Try.ntmps20
  go_wp2_with (go_at_call 23; refine (digitRune_any _ (by omega) (by omega) _).mono ?_; rintro e w' ⟨rfl, rfl⟩)
  go_ret
  refine ⟨_, Hl.symm, rfl, ?_, by repeat (first | exact Grown.refl _ | apply Grown.alloc)⟩
  intro k hk
  have hk5 : k < 3 := hk
  rcases (by omega : k = 0 ∨ k = 1 ∨ k = 2) with rfl | rfl | rfl <;> simp [go_sem]

theorem format_zto_ff (n : Int) (w : World) (h1 : 1 ≤ n) (h2 : n ≤ 999) (hh : n < 100) (ht : 0 < n / 10 % 10) (ho : 0 < n % 10) :
    Calls Try.prog 20 #[.int .i64 n, .bool false, .bool false] w (Num.Fmt n false false w) := by
  have hmk := mk5
  have hz : ¬ 0 < n / 100 := by omega
  have hq : (n / 100 == 0) = true := by rw [beq_iff_eq]; omega
  have hl : Num.fmt n false false = [Num.dig (n / 10 % 10), 21313, Num.dig (n % 10)] := by
    simp [Num.fmt, Num.hund, Num.tens, Num.ones, Num.zero, hh, ht, ho, hz, hq]
  have Hl : Hid (Num.fmt n false false = [Num.dig (n / 10 % 10), 21313, Num.dig (n % 10)]) := hl
  clear hl
  go_enter Try.func20, Try.ntmps20
  go_wp2_with (go_at_call 23; refine (digitRune_any _ (by omega) (by omega) _).mono ?_; rintro e w' ⟨rfl, rfl⟩)
  go_ret
  refine ⟨_, Hl.symm, rfl, ?_, by repeat (first | exact Grown.refl _ | apply Grown.alloc)⟩
  intro k hk
  have hk5 : k < 3 := hk
  rcases (by omega : k = 0 ∨ k = 1 ∨ k = 2) with rfl | rfl | rfl <;> simp [go_sem]

theorem format_ztz_tt (n : Int) (w : World) (h1 : 1 ≤ n) (h2 : n ≤ 999) (hh : n < 100) (ht : 0 < n / 10 % 10) (ho : n % 10 = 0) (hs : (n / 10 % 10 == 1) = false) :
    Calls Try.prog 20 #[.int .i64 n, .bool true, .bool true] w (Num.Fmt n true true w) := by
  have hmk := mk5
  have hz : ¬ 0 < n / 100 := by omega
  have hq : (n / 100 == 0) = true := by rw [beq_iff_eq]; omega
  have oz : ¬ 0 < n % 10 := by omega
  have hl : Num.fmt n true true = [Num.dig (n / 10 % 10), 21313] := by
    simp [Num.fmt, Num.hund, Num.tens, Num.ones, Num.zero, hh, ht, ho, hz, hq, oz, hs]
  have Hl : Hid (Num.fmt n true true = [Num.dig (n / 10 % 10), 21313]) := hl
  clear hl
  go_enter Try.func20, Try.ntmps20
  go_wp2_with (go_at_call 23; refine (digitRune_any _ (by omega) (by omega) _).mono ?_; rintro e w' ⟨rfl, rfl⟩)
  go_ret
  refine ⟨_, Hl.symm, rfl, ?_, by repeat (first | exact Grown.refl _ | apply Grown.alloc)⟩
  intro k hk
  have hk5 : k < 2 := hk
  rcases (by omega : k = 0 ∨ k = 1) with rfl | rfl <;> simp [go_sem]

theorem format_ztz_tf (n : Int) (w : World) (h1 : 1 ≤ n) (h2 : n ≤ 999) (hh : n < 100) (ht : 0 < n / 10 % 10) (ho : n % 10 = 0) :
    Calls Try.prog 20 #[.int .i64 n, .bool true, .bool false] w (Num.Fmt n true false w) := by
  have hmk := mk5
  have hz : ¬ 0 < n / 100 := by omega
  have hq : (n / 100 == 0) = true := by rw [beq_iff_eq]; omega
  have oz : ¬ 0 < n % 10 := by omega
  have hl : Num.fmt n true false = [Num.dig (n / 10 % 10), 21313] := by
    simp [Num.fmt, Num.hund, Num.tens, Num.ones, Num.zero, hh, ht, ho, hz, hq, oz]
  have Hl : Hid (Num.fmt n true false = [Num.dig (n / 10 % 10), 21313]) := hl
  clear hl
  go_enter Try.func20, Try.ntmps20
  go_wp2_with (go_at_call 23; refine (digitRune_any _ (by omega) (by omega) _).mono ?_; rintro e w' ⟨rfl, rfl⟩)
  go_ret
  refine ⟨_, Hl.symm, rfl, ?_, by repeat (first | exact Grown.refl _ | apply Grown.alloc)⟩
  intro k hk
  have hk5 : k < 2 := hk
  rcases (by omega : k = 0 ∨ k = 1) with rfl | rfl <;> simp [go_sem]

theorem format_ztz_ft (n : Int) (w : World) (h1 : 1 ≤ n) (h2 : n ≤ 999) (hh : n < 100) (ht : 0 < n / 10 % 10) (ho : n % 10 = 0) (hs : (n / 10 % 10 == 1) = false) :
    Calls Try.prog 20 #[.int .i64 n, .bool false, .bool true] w (Num.Fmt n false true w) := by
  have hmk := mk5
  have hz : ¬ 0 < n / 100 := by omega
  have hq : (n / 100 == 0) = true := by rw [beq_iff_eq]; omega
  have oz : ¬ 0 < n % 10 := by omega
  have hl : Num.fmt n false true = [Num.dig (n / 10 % 10), 21313] := by
    simp [Num.fmt, Num.hund, Num.tens, Num.ones, Num.zero, hh, ht, ho, hz, hq, oz, hs]
  have Hl : Hid (Num.fmt n false true = [Num.dig (n / 10 % 10), 21313]) := hl
  clear hl
  go_enter Try.func20, Try.ntmps20
  go_wp2_with (go_at_call 23; refine (digitRune_any _ (by omega) (by omega) _).mono ?_; rintro e w' ⟨rfl, rfl⟩)
  go_ret
  refine ⟨_, Hl.symm, rfl, ?_, by repeat (first | exact Grown.refl _ | apply Grown.alloc)⟩
  intro k hk
  have hk5 : k < 2 := hk
  rcases (by omega : k = 0 ∨ k = 1) with rfl | rfl <;> simp [go_sem]

theorem format_ztz_ff (n : Int) (w : World) (h1 : 1 ≤ n) (h2 : n ≤ 999) (hh : n < 100) (ht : 0 < n / 10 % 10) (ho : n % 10 = 0) :
    Calls Try.prog 20 #[.int .i64 n, .bool false, .bool false] w (Num.Fmt n false false w) := by
  have hmk := mk5
  have hz : ¬ 0 < n / 100 := by omega
  have hq : (n / 100 == 0) = true := by rw [beq_iff_eq]; omega
  have oz : ¬ 0 < n % 10 := by omega
  have hl : Num.fmt n false false = [Num.dig (n / 10 % 10), 21313] := by
    simp [Num.fmt, Num.hund, Num.tens, Num.ones, Num.zero, hh, ht, ho, hz, hq, oz]
  have Hl : Hid (Num.fmt n false false = [Num.dig (n / 10 % 10), 21313]) := hl
  clear hl
  go_enter Try.func20, Try.ntmps20
  go_wp2_with (go_at_call 23; refine (digitRune_any _ (by omega) (by omega) _).mono ?_; rintro e w' ⟨rfl, rfl⟩)
  go_ret
  refine ⟨_, Hl.symm, rfl, ?_, by repeat (first | exact Grown.refl _ | apply Grown.alloc)⟩
  intro k hk
  have hk5 : k < 2 := hk
  rcases (by omega : k = 0 ∨ k = 1) with rfl | rfl <;> simp [go_sem]

theorem format_zzo_tt (n : Int) (w : World) (h1 : 1 ≤ n) (h2 : n ≤ 999) (hh : n < 100) (ht : n / 10 % 10 = 0) (ho : 0 < n % 10) :
    Calls Try.prog 20 #[.int .i64 n, .bool true, .bool true] w (Num.Fmt n true true w) := by
  have hmk := mk5
  have hz : ¬ 0 < n / 100 := by omega
  have hq : (n / 100 == 0) = true := by rw [beq_iff_eq]; omega
  have tz : ¬ 0 < n / 10 % 10 := by omega
  have hl : Num.fmt n true true = [Num.dig (n % 10)] := by
    simp [Num.fmt, Num.hund, Num.tens, Num.ones, Num.zero, hh, ht, ho, hz, hq, tz]
  have Hl : Hid (Num.fmt n true true = [Num.dig (n % 10)]) := hl
  clear hl
  go_enter Try.func20, Try.ntmps20
  go_wp2_with (go_at_call 23; refine (digitRune_any _ (by omega) (by omega) _).mono ?_; rintro e w' ⟨rfl, rfl⟩)
  go_ret
  refine ⟨_, Hl.symm, rfl, ?_, by repeat (first | exact Grown.refl _ | apply Grown.alloc)⟩
  intro k hk
  have hk5 : k < 1 := hk
  rcases (by omega : k = 0) with rfl <;> simp [go_sem]

theorem format_zzo_tf (n : Int) (w : World) (h1 : 1 ≤ n) (h2 : n ≤ 999) (hh : n < 100) (ht : n / 10 % 10 = 0) (ho : 0 < n % 10) :
    Calls Try.prog 20 #[.int .i64 n, .bool true, .bool false] w (Num.Fmt n true false w) := by
  have hmk := mk5
  have hz : ¬ 0 < n / 100 := by omega
  have hq : (n / 100 == 0) = true := by rw [beq_iff_eq]; omega
  have tz : ¬ 0 < n / 10 % 10 := by omega
  have hl : Num.fmt n true false = [Num.dig (n % 10)] := by
    simp [Num.fmt, Num.hund, Num.tens, Num.ones, Num.zero, hh, ht, ho, hz, hq, tz]
  have Hl : Hid (Num.fmt n true false = [Num.dig (n % 10)]) := hl
  clear hl
  go_enter Try.func20, Try.ntmps20
  go_wp2_with (go_at_call 23; refine (digitRune_any _ (by omega) (by omega) _).mono ?_; rintro e w' ⟨rfl, rfl⟩)
  go_ret
  refine ⟨_, Hl.symm, rfl, ?_, by repeat (first | exact Grown.refl _ | apply Grown.alloc)⟩
  intro k hk
  have hk5 : k < 1 := hk
  rcases (by omega : k = 0) with rfl <;> simp [go_sem]

theorem format_zzo_ft (n : Int) (w : World) (h1 : 1 ≤ n) (h2 : n ≤ 999) (hh : n < 100) (ht : n / 10 % 10 = 0) (ho : 0 < n % 10) :
    Calls Try.prog 20 #[.int .i64 n, .bool false, .bool true] w (Num.Fmt n false true w) := by
  have hmk := mk5
  have hz : ¬ 0 < n / 100 := by omega
  have hq : (n / 100 == 0) = true := by rw [beq_iff_eq]; omega
  have tz : ¬ 0 < n / 10 % 10 := by omega
  have hl : Num.fmt n false true = [Num.dig (n % 10)] := by
    simp [Num.fmt, Num.hund, Num.tens, Num.ones, Num.zero, hh, ht, ho, hz, hq, tz]
  have Hl : Hid (Num.fmt n false true = [Num.dig (n % 10)]) := hl
  clear hl
  go_enter Try.func20, Try.ntmps20
  go_wp2_with (go_at_call 23; refine (digitRune_any _ (by omega) (by omega) _).mono ?_; rintro e w' ⟨rfl, rfl⟩)
  go_ret
  refine ⟨_, Hl.symm, rfl, ?_, by repeat (first | exact Grown.refl _ | apply Grown.alloc)⟩
  intro k hk
  have hk5 : k < 1 := hk
  rcases (by omega : k = 0) with rfl <;> simp [go_sem]

theorem format_zzo_ff (n : Int) (w : World) (h1 : 1 ≤ n) (h2 : n ≤ 999) (hh : n < 100) (ht : n / 10 % 10 = 0) (ho : 0 < n % 10) :
    Calls Try.prog 20 #[.int .i64 n, .bool false, .bool false] w (Num.Fmt n false false w) := by
  have hmk := mk5
  have hz : ¬ 0 < n / 100 := by omega
  have hq : (n / 100 == 0) = true := by rw [beq_iff_eq]; omega
  have tz : ¬ 0 < n / 10 % 10 := by omega
  have hl : Num.fmt n false false = [Num.dig (n % 10)] := by
    simp [Num.fmt, Num.hund, Num.tens, Num.ones, Num.zero, hh, ht, ho, hz, hq, tz]
  have Hl : Hid (Num.fmt n false false = [Num.dig (n % 10)]) := hl
  clear hl
  go_enter Try.func20, Try.ntmps20
  go_wp2_with (go_at_call 23; refine (digitRune_any _ (by omega) (by omega) _).mono ?_; rintro e w' ⟨rfl, rfl⟩)
  go_ret
  refine ⟨_, Hl.symm, rfl, ?_, by repeat (first | exact Grown.refl _ | apply Grown.alloc)⟩
  intro k hk
  have hk5 : k < 1 := hk
  rcases (by omega : k = 0) with rfl <;> simp [go_sem]

theorem format_zuo_tt (n : Int) (w : World) (h1 : 1 ≤ n) (h2 : n ≤ 999) (hh : n < 100) (ht : n / 10 % 10 = 1) (ho : 0 < n % 10) :
    Calls Try.prog 20 #[.int .i64 n, .bool true, .bool true] w (Num.Fmt n true true w) := by
  have hmk := mk5
  have hz : ¬ 0 < n / 100 := by omega
  have hq : (n / 100 == 0) = true := by rw [beq_iff_eq]; omega
  have hl : Num.fmt n true true = [21313, Num.dig (n % 10)] := by
    simp [Num.fmt, Num.hund, Num.tens, Num.ones, Num.zero, hh, ht, ho, hz, hq]
  have Hl : Hid (Num.fmt n true true = [21313, Num.dig (n % 10)]) := hl
  clear hl
  go_enter Try.func20, Try.ntmps20
  go_wp2_with (go_at_call 23; refine (digitRune_any _ (by omega) (by omega) _).mono ?_; rintro e w' ⟨rfl, rfl⟩)
  go_ret
  refine ⟨_, Hl.symm, rfl, ?_, by repeat (first | exact Grown.refl _ | apply Grown.alloc)⟩
  intro k hk
  have hk5 : k < 2 := hk
  rcases (by omega : k = 0 ∨ k = 1) with rfl | rfl <;> simp [go_sem]

theorem format_zuo_ft (n : Int) (w : World) (h1 : 1 ≤ n) (h2 : n ≤ 999) (hh : n < 100) (ht : n / 10 % 10 = 1) (ho : 0 < n % 10) :
    Calls Try.prog 20 #[.int .i64 n, .bool false, .bool true] w (Num.Fmt n false true w) := by
  have hmk := mk5
  have hz : ¬ 0 < n / 100 := by omega
  have hq : (n / 100 == 0) = true := by rw [beq_iff_eq]; omega
  have hl : Num.fmt n false true = [21313, Num.dig (n % 10)] := by
    simp [Num.fmt, Num.hund, Num.tens, Num.ones, Num.zero, hh, ht, ho, hz, hq]
  have Hl : Hid (Num.fmt n false true = [21313, Num.dig (n % 10)]) := hl
  clear hl
  go_enter Try.func20, Try.ntmps20
  go_wp2_with (go_at_call 23; refine (digitRune_any _ (by omega) (by omega) _).mono ?_; rintro e w' ⟨rfl, rfl⟩)
  go_ret
  refine ⟨_, Hl.symm, rfl, ?_, by repeat (first | exact Grown.refl _ | apply Grown.alloc)⟩
  intro k hk
  have hk5 : k < 2 := hk
  rcases (by omega : k = 0 ∨ k = 1) with rfl | rfl <;> simp [go_sem]

theorem format_zuz_tt (n : Int) (w : World) (h1 : 1 ≤ n) (h2 : n ≤ 999) (hh : n < 100) (ht : n / 10 % 10 = 1) (ho : n % 10 = 0) :
    Calls Try.prog 20 #[.int .i64 n, .bool true, .bool true] w (Num.Fmt n true true w) := by
  have hmk := mk5
  have hz : ¬ 0 < n / 100 := by omega
  have hq : (n / 100 == 0) = true := by rw [beq_iff_eq]; omega
  have oz : ¬ 0 < n % 10 := by omega
  have hl : Num.fmt n true true = [21313] := by
    simp [Num.fmt, Num.hund, Num.tens, Num.ones, Num.zero, hh, ht, ho, hz, hq, oz]
  have Hl : Hid (Num.fmt n true true = [21313]) := hl
  clear hl
  go_enter Try.func20, Try.ntmps20
  go_wp2_with (go_at_call 23; refine (digitRune_any _ (by omega) (by omega) _).mono ?_; rintro e w' ⟨rfl, rfl⟩)
  go_ret
  refine ⟨_, Hl.symm, rfl, ?_, by repeat (first | exact Grown.refl _ | apply Grown.alloc)⟩
  intro k hk
  have hk5 : k < 1 := hk
  rcases (by omega : k = 0) with rfl <;> simp [go_sem]

theorem format_zuz_ft (n : Int) (w : World) (h1 : 1 ≤ n) (h2 : n ≤ 999) (hh : n < 100) (ht : n / 10 % 10 = 1) (ho : n % 10 = 0) :
    Calls Try.prog 20 #[.int .i64 n, .bool false, .bool true] w (Num.Fmt n false true w) := by
  have hmk := mk5
  have hz : ¬ 0 < n / 100 := by omega
  have hq : (n / 100 == 0) = true := by rw [beq_iff_eq]; omega
  have oz : ¬ 0 < n % 10 := by omega
  have hl : Num.fmt n false true = [21313] := by
    simp [Num.fmt, Num.hund, Num.tens, Num.ones, Num.zero, hh, ht, ho, hz, hq, oz]
  have Hl : Hid (Num.fmt n false true = [21313]) := hl
  clear hl
  go_enter Try.func20, Try.ntmps20
  go_wp2_with (go_at_call 23; refine (digitRune_any _ (by omega) (by omega) _).mono ?_; rintro e w' ⟨rfl, rfl⟩)
  go_ret
  refine ⟨_, Hl.symm, rfl, ?_, by repeat (first | exact Grown.refl _ | apply Grown.alloc)⟩
  intro k hk
  have hk5 : k < 1 := hk
  rcases (by omega : k = 0) with rfl <;> simp [go_sem]

end Go.Proofs.Qxb6001104a
