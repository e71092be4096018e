/- The proof of 'Rows.FnEscapedByMatchesScanSaid': the frame is the skeleton tool's; the walk and the plain law are ours. -/
import Derived.Test.Qxb6001034aRows
import Derived.Test.Qxb6001034aEscBits
import Derived.WalkKit
import Derived.ProofKit
import Derived.OpenShut
import Derived.ShutString
namespace Go.Proofs.Qxb6001034a.fnEscapedByMatchesScan
open Go.ChangeShapes Go.WideShapes Go.ChangeAt Go.RowKit
open Go.ChangeMaps (open_string shut_string)
set_option linter.unusedVariables false      -- a walk need not use every 'w<i>' (that an integer argument fits its kind)

theorem own : ownKnob Try.prog.godebug = none := by kernel_rfl

/-! ### STEP 1: THE WALK: the Go text returns true. 'Grown w w'': the world has at most new blocks (Derived/RowKit3.lean). Part the cases AHEAD of 'go_enter' where a test parts the walk; take each callee by a contract of your own. -/
set_option maxRecDepth 100000 in
theorem walk (a0 : Int) (w0 : (Lit.int .u64 a0).wf = true) (w : World) :
    Calls Try.prog 5 #[.int .u64 a0] w fun e w' => e = .returned (.bool true) ∧ Grown w w' := by
  obtain ⟨x, rfl⟩ : ∃ x : BitVec 64, a0 = (x.toNat : Int) := by
    have hb := bounds_u64 w0
    refine ⟨BitVec.ofInt 64 a0, ?_⟩
    rw [BitVec.toNat_ofInt]; omega
  go_enter Try.func5, Try.ntmps5
  go_wp2_with (go_at_call 16; refine (zzEscapedBy_any x _).mono ?_; rintro e w' ⟨rfl, rfl⟩)
  go_loop [4, 5, 6] (fun want run i => ∃ k : Nat, k ≤ 64 ∧ i = .int .i64 k ∧ run = .int .i64 (Esc.run x k) ∧ want = .int .u64 ((Esc.scan x k).toNat : Int)) (fun _ _ i => 64 - (intOf i).toNat)
  case atStart => exact ⟨0, by omega, rfl, rfl, rfl⟩
  case round =>
    obtain ⟨k, hk, rfl, rfl, rfl⟩ := hrel
    have hr := Esc.run_le x k
    by_cases hlt : k < 64
    · go_wp2
      · rename_i q1
        have hs := Esc.step_one x k q1
        go_round
        case rel => exact ⟨k + 1, by omega, by go_num, by rw [hs.1]; go_num, by rw [hs.2]⟩
        case measure => simp [intOf]; omega
      · rename_i q1 q2
        have hs := Esc.step_odd x k q1 q2
        go_round
        case rel => exact ⟨k + 1, by omega, by go_num, by rw [hs.1]; rfl, Esc.num hs.2.symm⟩
        case measure => simp [intOf]; omega
      · rename_i q1 q2
        have hs := Esc.step_even x k q1 q2
        go_round
        case rel => exact ⟨k + 1, by omega, by go_num, by rw [hs.1]; rfl, by rw [hs.2]⟩
        case measure => simp [intOf]; omega
    · have e : k = 64 := by omega
      subst e
      have hq : (((Esc.esc x).toNat : Int) == ((Esc.scan x 64).toNat : Int)) = true := by rw [Esc.scan_esc]; simp
      go_wp2
      go_ret
      exact ⟨rfl, by repeat (first | exact Grown.refl _ | apply Grown.drew | apply Grown.alloc)⟩

/-! ### THE ROW's STEP: WRITTEN OUT: LEAVE IT -/
set_option maxRecDepth 100000 in
theorem lifted (os : Os) (started : os.Started) (H : Type) (enc : TypeId × Value → H) :
    ReturnsInHanded {} Try.checked os 5 .any (Rows.fnEscapedByMatchesScanSpec.pre6 enc Try.prog Try.f5 Rows.fnEscapedByMatchesScanRow.domain false) (Rows.fnEscapedByMatchesScanSpec.post enc Try.prog Try.f5 false true false false) := by
  refine returnsInHanded_of_change (C := Try.checked) own started (by kernel_rfl) Try.func5
    (ChangeSpec.witness6 (enc := enc) (C := Try.checked) false ⟨#[], #[.int .u64 0], []⟩ 8 (by kernel_rfl) (by kernel_rfl) (by kernel_rfl) (by kernel_rfl)) ?_
  intro W base args ds gs before hval0 hW hcnd _
  have hval : ∀ (j : Nat) t v, Try.f5.params[j]? = some t → args[j]? = some v → Value.okWide Try.prog W .any base t v := hval0
  have hW' := hW
  obtain ⟨p, q, hA0, hV, rfl, hfz, hnd⟩ := hW
  have hA : DataW.TrodAll enc Try.prog W 0 (fun _ => true) true Try.f5.params.toList args.toList ds p := hA0
  rw [Try.params5] at hA hval
  obtain ⟨v0, vs0, d0, ds0, p0, q0, hargs, rfl, rfl, h0, r0⟩ := trodAll_cons hA
  obtain ⟨rfl, rfl, rfl⟩ := trodAll_nil r0
  obtain rfl : args = #[v0] := by cases args; simp_all
  obtain ⟨rfl, rfl⟩ := trodVars_none hV
  obtain ⟨a0, rfl, rfl, rfl, w0⟩ := open_int Try.underlying31 (hval 0 31 v0 rfl rfl) h0
  clear hA0 hval0
  simp only [List.append_nil] at hW'
  refine (walk a0 w0 W).mono fun e W' ⟨he, hg⟩ => ?_
  subst he
  exact ⟨_, rfl, post_of_same (pa := []) (pv := []) hW' (fun _ _ _ => (trodAll_cons_mk (shut_bool Try.underlying4 _) trodAll_mk0)) (fun sp _ => (trodAll_cons_mk (shut_int Try.underlying31 w0) trodAll_mk0)) (fun _ _ => rfl) rfl
    (hg.frame _) hg.2.1 (ok_one (by kernel_rfl) rfl (okWide_bool_mk Try.underlying4 _))⟩

theorem over : Rows.fnEscapedByMatchesScanRow.holds Try.pinned (OpenSpec.ofChange Rows.fnEscapedByMatchesScanSpec) :=
  OpenClaim.holds_of_wide 5 Try.f5 rfl rfl rfl rfl rfl rfl rfl ⟨rfl, rfl, rfl, rfl, rfl⟩ rfl rfl rfl rfl rfl (by kernel_rfl) Try.func5 (by kernel_rfl)
    (of_decide_eq_true (by kernel_rfl)) (by unfold Func.isWrapper; first | (rw [if_pos (by decide +kernel)]; kernel_rfl) | (rw [if_neg (by decide +kernel)]; exact ⟨rfl, rfl⟩))
    (fun os started H enc _ => lifted os started H enc)

/-- ████ THE STATEMENT ████ -/
theorem proved : Rows.FnEscapedByMatchesScanSaid :=
  over
end Go.Proofs.Qxb6001034a.fnEscapedByMatchesScan
