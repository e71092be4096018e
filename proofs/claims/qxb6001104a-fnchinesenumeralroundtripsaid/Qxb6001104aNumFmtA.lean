/- zzFormatChinese (20), case by case: each way through its tests is one walk. -/
import Derived.Test.Qxb6001104aNumCalls
namespace Go.Proofs.Qxb6001104a
open Go.ChangeShapes Go.WideShapes Go.ChangeAt Go.RowKit
set_option linter.unusedSimpArgs false
set_option linter.unusedVariables false

theorem format_hto_tt (n : Int) (w : World) (h1 : 1 ≤ n) (h2 : n ≤ 999) (hh : 0 < n / 100) (ht : 0 < n / 10 % 10) (ho : 0 < n % 10) :
    Calls Try.prog 20 #[.int .i64 n, .bool true, .bool true] w (Num.Fmt n true true w) := by
  have hmk := mk5
  have hq : (n / 100 == 0) = false := by rw [beq_eq_false_iff_ne]; omega
  have hl : Num.fmt n true true = [Num.dig (n / 100), 30334, Num.dig (n / 10 % 10), 21313, Num.dig (n % 10)] := by
    simp [Num.fmt, Num.hund, Num.tens, Num.ones, Num.zero, hh, ht, ho, hq]
  have Hl : Hid (Num.fmt n true true = [Num.dig (n / 100), 30334, Num.dig (n / 10 % 10), 21313, Num.dig (n % 10)]) := hl
  clear hl
  go_enter Try.func20, Try.ntmps20
  go_wp2_with (go_at_call 23; refine (digitRune_any _ (by omega) (by omega) _).mono ?_; rintro e w' ⟨rfl, rfl⟩)
  go_ret
  refine ⟨_, Hl.symm, rfl, ?_, by repeat (first | exact Grown.refl _ | apply Grown.alloc)⟩
  intro k hk
  have hk5 : k < 5 := hk
  rcases (by omega : k = 0 ∨ k = 1 ∨ k = 2 ∨ k = 3 ∨ k = 4) with rfl | rfl | rfl | rfl | rfl <;> simp [go_sem]

theorem format_hto_tf (n : Int) (w : World) (h1 : 1 ≤ n) (h2 : n ≤ 999) (hh : 0 < n / 100) (ht : 0 < n / 10 % 10) (ho : 0 < n % 10) :
    Calls Try.prog 20 #[.int .i64 n, .bool true, .bool false] w (Num.Fmt n true false w) := by
  have hmk := mk5
  have hq : (n / 100 == 0) = false := by rw [beq_eq_false_iff_ne]; omega
  have hl : Num.fmt n true false = [Num.dig (n / 100), 30334, Num.dig (n / 10 % 10), 21313, Num.dig (n % 10)] := by
    simp [Num.fmt, Num.hund, Num.tens, Num.ones, Num.zero, hh, ht, ho, hq]
  have Hl : Hid (Num.fmt n true false = [Num.dig (n / 100), 30334, Num.dig (n / 10 % 10), 21313, Num.dig (n % 10)]) := hl
  clear hl
  go_enter Try.func20, Try.ntmps20
  go_wp2_with (go_at_call 23; refine (digitRune_any _ (by omega) (by omega) _).mono ?_; rintro e w' ⟨rfl, rfl⟩)
  go_ret
  refine ⟨_, Hl.symm, rfl, ?_, by repeat (first | exact Grown.refl _ | apply Grown.alloc)⟩
  intro k hk
  have hk5 : k < 5 := hk
  rcases (by omega : k = 0 ∨ k = 1 ∨ k = 2 ∨ k = 3 ∨ k = 4) with rfl | rfl | rfl | rfl | rfl <;> simp [go_sem]

theorem format_hto_ft (n : Int) (w : World) (h1 : 1 ≤ n) (h2 : n ≤ 999) (hh : 0 < n / 100) (ht : 0 < n / 10 % 10) (ho : 0 < n % 10) :
    Calls Try.prog 20 #[.int .i64 n, .bool false, .bool true] w (Num.Fmt n false true w) := by
  have hmk := mk5
  have hq : (n / 100 == 0) = false := by rw [beq_eq_false_iff_ne]; omega
  have hl : Num.fmt n false true = [Num.dig (n / 100), 30334, Num.dig (n / 10 % 10), 21313, Num.dig (n % 10)] := by
    simp [Num.fmt, Num.hund, Num.tens, Num.ones, Num.zero, hh, ht, ho, hq]
  have Hl : Hid (Num.fmt n false true = [Num.dig (n / 100), 30334, Num.dig (n / 10 % 10), 21313, Num.dig (n % 10)]) := hl
  clear hl
  go_enter Try.func20, Try.ntmps20
  go_wp2_with (go_at_call 23; refine (digitRune_any _ (by omega) (by omega) _).mono ?_; rintro e w' ⟨rfl, rfl⟩)
  go_ret
  refine ⟨_, Hl.symm, rfl, ?_, by repeat (first | exact Grown.refl _ | apply Grown.alloc)⟩
  intro k hk
  have hk5 : k < 5 := hk
  rcases (by omega : k = 0 ∨ k = 1 ∨ k = 2 ∨ k = 3 ∨ k = 4) with rfl | rfl | rfl | rfl | rfl <;> simp [go_sem]

theorem format_hto_ff (n : Int) (w : World) (h1 : 1 ≤ n) (h2 : n ≤ 999) (hh : 0 < n / 100) (ht : 0 < n / 10 % 10) (ho : 0 < n % 10) :
    Calls Try.prog 20 #[.int .i64 n, .bool false, .bool false] w (Num.Fmt n false false w) := by
  have hmk := mk5
  have hq : (n / 100 == 0) = false := by rw [beq_eq_false_iff_ne]; omega
  have hl : Num.fmt n false false = [Num.dig (n / 100), 30334, Num.dig (n / 10 % 10), 21313, Num.dig (n % 10)] := by
    simp [Num.fmt, Num.hund, Num.tens, Num.ones, Num.zero, hh, ht, ho, hq]
  have Hl : Hid (Num.fmt n false false = [Num.dig (n / 100), 30334, Num.dig (n / 10 % 10), 21313, Num.dig (n % 10)]) := hl
  clear hl
  go_enter Try.func20, Try.ntmps20
  go_wp2_with (go_at_call 23; refine (digitRune_any _ (by omega) (by omega) _).mono ?_; rintro e w' ⟨rfl, rfl⟩)
  go_ret
  refine ⟨_, Hl.symm, rfl, ?_, by repeat (first | exact Grown.refl _ | apply Grown.alloc)⟩
  intro k hk
  have hk5 : k < 5 := hk
  rcases (by omega : k = 0 ∨ k = 1 ∨ k = 2 ∨ k = 3 ∨ k = 4) with rfl | rfl | rfl | rfl | rfl <;> simp [go_sem]

end Go.Proofs.Qxb6001104a
