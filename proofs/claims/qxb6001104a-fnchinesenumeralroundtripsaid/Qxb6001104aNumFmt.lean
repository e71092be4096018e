/- zzFormatChinese (20): the contract, out of its cases; and what the plain law says of the runes. -/
import Derived.Test.Qxb6001104aNumFmtA
import Derived.Test.Qxb6001104aNumFmtB
import Derived.Test.Qxb6001104aNumFmtC
import Derived.Test.Qxb6001104aNumFmtD
namespace Go.Proofs.Qxb6001104a
open Go.ChangeShapes Go.WideShapes Go.ChangeAt Go.RowKit

theorem format_any (n : Int) (c s : Bool) (w : World) (h1 : 1 ≤ n) (h2 : n ≤ 999) : Calls Try.prog 20 #[.int .i64 n, .bool c, .bool s] w (Num.Fmt n c s w) := by
  by_cases hh : n < 100
  · by_cases ht : n / 10 % 10 = 0
    · have ho : 0 < n % 10 := by omega
      cases c <;> cases s
      · exact format_zzo_ff n w h1 h2 hh ht ho
      · exact format_zzo_ft n w h1 h2 hh ht ho
      · exact format_zzo_tf n w h1 h2 hh ht ho
      · exact format_zzo_tt n w h1 h2 hh ht ho
    · have ht' : 0 < n / 10 % 10 := by omega
      by_cases ho : n % 10 = 0
      · by_cases hu : n / 10 % 10 = 1
        · cases c <;> cases s
          · exact format_ztz_ff n w h1 h2 hh ht' ho
          · exact format_zuz_ft n w h1 h2 hh hu ho
          · exact format_ztz_tf n w h1 h2 hh ht' ho
          · exact format_zuz_tt n w h1 h2 hh hu ho
        · have hu' : (n / 10 % 10 == 1) = false := by rw [beq_eq_false_iff_ne]; exact hu
          cases c <;> cases s
          · exact format_ztz_ff n w h1 h2 hh ht' ho
          · exact format_ztz_ft n w h1 h2 hh ht' ho hu'
          · exact format_ztz_tf n w h1 h2 hh ht' ho
          · exact format_ztz_tt n w h1 h2 hh ht' ho hu'
      · have ho' : 0 < n % 10 := by omega
        by_cases hu : n / 10 % 10 = 1
        · cases c <;> cases s
          · exact format_zto_ff n w h1 h2 hh ht' ho'
          · exact format_zuo_ft n w h1 h2 hh hu ho'
          · exact format_zto_tf n w h1 h2 hh ht' ho'
          · exact format_zuo_tt n w h1 h2 hh hu ho'
        · have hu' : (n / 10 % 10 == 1) = false := by rw [beq_eq_false_iff_ne]; exact hu
          cases c <;> cases s
          · exact format_zto_ff n w h1 h2 hh ht' ho'
          · exact format_zto_ft n w h1 h2 hh ht' ho' hu'
          · exact format_zto_tf n w h1 h2 hh ht' ho'
          · exact format_zto_tt n w h1 h2 hh ht' ho' hu'
  · have hh' : 0 < n / 100 := by omega
    by_cases ht : n / 10 % 10 = 0
    · by_cases ho : n % 10 = 0
      · cases c <;> cases s
        · exact format_hzz_ff n w h1 h2 hh' ht ho
        · exact format_hzz_ft n w h1 h2 hh' ht ho
        · exact format_hzz_tf n w h1 h2 hh' ht ho
        · exact format_hzz_tt n w h1 h2 hh' ht ho
      · have ho' : 0 < n % 10 := by omega
        cases c <;> cases s
        · exact format_hzo_ff n w h1 h2 hh' ht ho'
        · exact format_hzo_ft n w h1 h2 hh' ht ho'
        · exact format_hzo_tf n w h1 h2 hh' ht ho'
        · exact format_hzo_tt n w h1 h2 hh' ht ho'
    · have ht' : 0 < n / 10 % 10 := by omega
      by_cases ho : n % 10 = 0
      · cases c <;> cases s
        · exact format_htz_ff n w h1 h2 hh' ht' ho
        · exact format_htz_ft n w h1 h2 hh' ht' ho
        · exact format_htz_tf n w h1 h2 hh' ht' ho
        · exact format_htz_tt n w h1 h2 hh' ht' ho
      · have ho' : 0 < n % 10 := by omega
        cases c <;> cases s
        · exact format_hto_ff n w h1 h2 hh' ht' ho'
        · exact format_hto_ft n w h1 h2 hh' ht' ho'
        · exact format_hto_tf n w h1 h2 hh' ht' ho'
        · exact format_hto_tt n w h1 h2 hh' ht' ho'

namespace Num
theorem facts (n : Int) (c s : Bool) (h1 : 1 ≤ n) (h2 : n ≤ 999) : (fmt n c s).length ≤ 5 ∧ (∀ r ∈ fmt n c s, r ∈ runes) ∧
    (∀ k, k ≤ 5 → 0 ≤ (read ((fmt n c s).take k)).1 ∧ (read ((fmt n c s).take k)).1 ≤ 999 ∧ 0 ≤ (read ((fmt n c s).take k)).2 ∧ (read ((fmt n c s).take k)).2 ≤ 9) ∧
    (read (fmt n c s)).1 + (read (fmt n c s)).2 = n := by
  have h := good_of n h1 h2 c s
  unfold good at h
  simp only [Bool.and_eq_true, decide_eq_true_eq, List.all_eq_true, List.contains_iff_mem, List.mem_range] at h
  obtain ⟨⟨⟨a, b⟩, d⟩, e⟩ := h
  refine ⟨a, b, fun k hk => ?_, e⟩
  have := d k (by omega)
  exact ⟨this.1.1.1, this.1.1.2, this.1.2, this.2⟩
theorem read_snoc (l : List Int) (k : Nat) (hk : k < l.length) : read (l.take (k + 1)) = step (read (l.take k)) (l.getD k 0) := by
  have e : l.getD k 0 = l[k] := by simp [List.getD, hk]
  rw [List.take_succ_eq_append_getElem hk, e]
  unfold read
  rw [List.foldl_append]
  rfl
theorem val_le (r : Int) : 0 ≤ val r ∧ val r ≤ 100 := by
  unfold val
  repeat (first | omega | split)
end Num
end Go.Proofs.Qxb6001104a
