/- The contracts of zzDigitRune (23), chineseNumeral (24), ZZChineseNumeral (21). -/
import Derived.Test.Qxb6001104aRows
import Derived.Test.Qxb6001104aNum
import Derived.WalkKit
import Derived.ProofKit
import Derived.RowKit3
namespace Go.Proofs.Qxb6001104a
open Go.ChangeShapes Go.WideShapes Go.ChangeAt Go.RowKit

theorem digitRune_any (d : Int) (h1 : 1 ≤ d) (h9 : d ≤ 9) (w : World) : Calls Try.prog 23 #[.int .i64 d] w fun e w' => e = .returned (.int .i32 (Num.dig d)) ∧ w' = w := by
  rcases (by omega : d = 1 ∨ d = 2 ∨ d = 3 ∨ d = 4 ∨ d = 5 ∨ d = 6 ∨ d = 7 ∨ d = 8 ∨ d = 9) with rfl | rfl | rfl | rfl | rfl | rfl | rfl | rfl | rfl
  all_goals
    go_enter Try.func23, Try.ntmps23
    go_wp2
    go_ret
    exact ⟨rfl, rfl⟩

theorem numeral_any (r : Int) (hr : r ∈ Num.runes) (w : World) : Calls Try.prog 24 #[.int .i32 r] w fun e w' => e = .returned (.tuple #[.int .i64 (Num.val r), .bool (Num.unit r), .bool true]) ∧ w' = w := by
  simp only [Num.runes, List.mem_cons, List.not_mem_nil, or_false] at hr
  rcases hr with rfl | rfl | rfl | rfl | rfl | rfl | rfl | rfl | rfl | rfl | rfl | rfl | rfl
  all_goals
    go_enter Try.func24, Try.ntmps24
    go_wp2
    go_ret3
    exact ⟨rfl, rfl⟩
theorem zzNumeral_any (r : Int) (hr : r ∈ Num.runes) (w : World) : Calls Try.prog 21 #[.int .i32 r] w fun e w' => e = .returned (.tuple #[.int .i64 (Num.val r), .bool (Num.unit r), .bool true]) ∧ w' = w := by
  go_enter Try.func21, Try.ntmps21
  go_wp2_with (go_at_call 24; refine (numeral_any r hr _).mono ?_; rintro e w' ⟨rfl, rfl⟩)
  go_ret3
  exact ⟨rfl, rfl⟩

def Num.Fmt (n : Int) (c s : Bool) (w : World) (e : Ending) (w' : World) : Prop :=
  ∃ l : List Int, l = Num.fmt n c s ∧ e = .returned (.slice (some ⟨w.heap.size, 0, none⟩) l.length 5) ∧
    (∀ k, k < l.length → w'.cell? ⟨w.heap.size, k, none⟩ = some (.int .i32 (l.getD k 0))) ∧ Grown w w'
theorem mk5 : ∀ w : World, (Instr.makeSlice 30 (.int .i64 0) (.int .i64 5)).run Try.prog w = .ok (.slice (some ⟨w.heap.size, 0, none⟩) 0 5) (w.alloc (.cells #[.int .i32 0, .int .i32 0, .int .i32 0, .int .i32 0, .int .i32 0] 21)) := fun _ => by kernel_rfl
end Go.Proofs.Qxb6001104a
