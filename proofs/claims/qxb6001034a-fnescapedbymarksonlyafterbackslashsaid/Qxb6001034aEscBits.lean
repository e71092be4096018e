/- The words of the walk (bits, wrap over u64) said over BitVec 64; the contract of escapedBy (function 19). -/
import Derived.Test.Qxb6001034aRows
import Derived.Test.Qxb6001034aEsc
import Derived.WalkKit
import Derived.ProofKit
namespace Go.Proofs.Qxb6001034a
open Go.ChangeShapes Go.WideShapes Go.ChangeAt Go.RowKit
namespace Esc

theorem ofInt_toNat (x : BitVec 64) : BitVec.ofInt 64 (x.toNat : Int) = x := by simp
theorem wrap_toNat (x : BitVec 64) : IntKind.u64.wrap (x.toNat : Int) = x.toNat := by
  have := x.isLt
  rw [IntKind.wrap_u64]; omega
theorem b_and (x y : BitVec 64) : bits .and .u64 (x.toNat : Int) (y.toNat : Int) = ((x &&& y).toNat : Int) := by
  show IntKind.u64.wrap ((BitVec.ofInt 64 (x.toNat : Int) &&& BitVec.ofInt 64 (y.toNat : Int)).toNat : Int) = _
  rw [ofInt_toNat, ofInt_toNat, wrap_toNat]
theorem b_or (x y : BitVec 64) : bits .or .u64 (x.toNat : Int) (y.toNat : Int) = ((x ||| y).toNat : Int) := by
  show IntKind.u64.wrap ((BitVec.ofInt 64 (x.toNat : Int) ||| BitVec.ofInt 64 (y.toNat : Int)).toNat : Int) = _
  rw [ofInt_toNat, ofInt_toNat, wrap_toNat]
theorem b_andNot (x y : BitVec 64) : bits .andNot .u64 (x.toNat : Int) (y.toNat : Int) = ((x &&& ~~~y).toNat : Int) := by
  show IntKind.u64.wrap ((BitVec.ofInt 64 (x.toNat : Int) &&& ~~~BitVec.ofInt 64 (y.toNat : Int)).toNat : Int) = _
  rw [ofInt_toNat, ofInt_toNat, wrap_toNat]
theorem b_add (x y : BitVec 64) : IntKind.u64.wrap ((x.toNat : Int) + (y.toNat : Int)) = ((x + y).toNat : Int) := by
  rw [IntKind.wrap_u64, BitVec.toNat_add]; omega
theorem b_dbl (x : BitVec 64) : IntKind.u64.wrap ((x.toNat : Int) * 2) = ((x <<< 1).toNat : Int) := by
  rw [IntKind.wrap_u64, BitVec.toNat_shiftLeft, Nat.shiftLeft_eq]; omega
theorem lit_ev : (6148914691236517205 : Int) = (ev.toNat : Int) := by decide +kernel
theorem lit_od : (12297829382473034410 : Int) = (od.toNat : Int) := by decide +kernel

theorem value_is (x : BitVec 64) : bits .or .u64 (bits .and .u64 (bits .andNot .u64 (IntKind.u64.wrap ((x.toNat : Int) + bits .and .u64 (bits .andNot .u64 (x.toNat : Int) (IntKind.u64.wrap ((x.toNat : Int) * 2))) 6148914691236517205)) (x.toNat : Int)) 12297829382473034410)
    (bits .and .u64 (bits .andNot .u64 (IntKind.u64.wrap ((x.toNat : Int) + bits .and .u64 (bits .andNot .u64 (x.toNat : Int) (IntKind.u64.wrap ((x.toNat : Int) * 2))) 12297829382473034410)) (x.toNat : Int)) 6148914691236517205) = ((esc x).toNat : Int) := by
  rw [lit_ev, lit_od, b_dbl, b_andNot, b_and, b_and, b_add, b_add, b_andNot, b_andNot, b_and, b_and, b_or]
  rfl
theorem bit_test (x : BitVec 64) (k : Nat) : (bits .and .u64 ((x.toNat : Int) / 2 ^ k) 1 == 1) = bit x k := by
  have e1 : ((x.toNat : Int) / 2 ^ k) = ((x >>> k).toNat : Int) := by
    rw [BitVec.toNat_ushiftRight, Nat.shiftRight_eq_div_pow]; simp
  have e2 : (1 : Int) = ((1#64).toNat : Int) := by decide
  rw [e1]
  conv => lhs; lhs; rw [e2]
  rw [b_and, BitVec.toNat_and, BitVec.toNat_ushiftRight, Nat.shiftRight_eq_div_pow]
  unfold bit BitVec.getLsbD
  rw [Nat.testBit_eq_decide_div_mod_eq]
  have e3 : (1#64).toNat = 1 := by decide
  rw [e3, Nat.and_one_is_mod]
  generalize x.toNat / 2 ^ k = d
  rw [Bool.eq_iff_iff]
  simp
  omega
theorem wrap_pow (k : Nat) : IntKind.u64.wrap (2 ^ k) = ((1#64 <<< k).toNat : Int) := by
  rw [IntKind.wrap_u64, BitVec.toNat_shiftLeft, Nat.shiftLeft_eq]
  have e3 : (1#64).toNat = 1 := by decide
  rw [e3, Nat.one_mul]
  simp
theorem step_one (x : BitVec 64) (k : Nat) (h : (bits .and .u64 ((x.toNat : Int) / 2 ^ k) 1 == 1) = true) : run x (k + 1) = run x k + 1 ∧ scan x (k + 1) = scan x k := by
  rw [bit_test] at h
  simp [run, scan, h]
theorem step_odd (x : BitVec 64) (k : Nat) (h : (bits .and .u64 ((x.toNat : Int) / 2 ^ k) 1 == 1) = false) (h2 : ((run x k : Int) % 2 == 1) = true) :
    run x (k + 1) = 0 ∧ ((scan x (k + 1)).toNat : Int) = bits .or .u64 ((scan x k).toNat : Int) (IntKind.u64.wrap (2 ^ k)) := by
  rw [bit_test] at h
  have h3 : run x k % 2 = 1 := by have := eq_of_beq h2; omega
  rw [wrap_pow k, b_or]
  simp [run, scan, h, h3]
theorem step_even (x : BitVec 64) (k : Nat) (h : (bits .and .u64 ((x.toNat : Int) / 2 ^ k) 1 == 1) = false) (h2 : ((run x k : Int) % 2 == 1) = false) :
    run x (k + 1) = 0 ∧ scan x (k + 1) = scan x k := by
  rw [bit_test] at h
  have h3 : ¬ run x k % 2 = 1 := by
    intro h3
    have : ((run x k : Int) % 2 == 1) = true := by rw [beq_iff_eq]; omega
    rw [this] at h2; cases h2
  simp [run, scan, h, h3]
theorem num {k : IntKind} {a b : Int} (h : a = b) : Value.int k a = Value.int k b := by rw [h]
theorem ret_int {k : IntKind} {a b : Int} (h : a = b) : Ending.returned (.int k a) = .returned (.int k b) := by rw [h]
end Esc

theorem escapedBy_any (x : BitVec 64) (w : World) :
    Calls Try.prog 19 #[.int .u64 (x.toNat : Int)] w fun e w' => e = .returned (.int .u64 ((Esc.esc x).toNat : Int)) ∧ w' = w := by
  have hx : (x.toNat : Int) < 18446744073709551616 := by have := x.isLt; omega
  go_enter Try.func19, Try.ntmps19
  go_wp2
  go_ret
  exact ⟨Esc.ret_int (Esc.value_is x), rfl⟩
theorem zzEscapedBy_any (x : BitVec 64) (w : World) :
    Calls Try.prog 16 #[.int .u64 (x.toNat : Int)] w fun e w' => e = .returned (.int .u64 ((Esc.esc x).toNat : Int)) ∧ w' = w := by
  go_enter Try.func16, Try.ntmps16
  go_wp2_with (go_at_call 19; refine (escapedBy_any x _).mono ?_; rintro e w' ⟨rfl, rfl⟩)
  go_ret
  exact ⟨rfl, rfl⟩
end Go.Proofs.Qxb6001034a
