/- The proof of 'Rows.FnNarrowAllowsExactlyWhatBothAllowSaid': the frame is the skeleton tool's; the walk and the plain law are ours. -/
import Derived.Test.Qxb6000780aRows
import Derived.Test.Qxb6000780aNarCalls
import Derived.WalkKit
import Derived.ProofKit
import Derived.OpenShut
import Derived.ShutString
namespace Go.Proofs.Qxb6000780a.fnNarrowAllowsExactlyWhatBothAllow
open Go.ChangeShapes Go.WideShapes Go.ChangeAt Go.RowKit
open Go.ChangeMaps (open_string shut_string)
set_option linter.unusedVariables false      -- a walk need not use every 'w<i>' (that an integer argument fits its kind)

theorem own : ownKnob Try.prog.godebug = none := by kernel_rfl

/-! ### STEP 1: THE WALK: the Go text returns true. 'Grown w w'': the world has at most new blocks (Derived/RowKit3.lean). Part the cases AHEAD of 'go_enter' where a test parts the walk; take each callee by a contract of your own. -/
theorem walk (a0 : Int) (a1 : Bool) (a2 : Int) (a3 : Bool) (w0 : (Lit.int .u8 a0).wf = true) (w2 : (Lit.int .u8 a2).wf = true) (w : World) :
    Calls Try.prog 3 #[.int .u8 a0, .bool a1, .int .u8 a2, .bool a3] w fun e w' => e = .returned (.bool true) ∧ Grown w w' := by
  obtain ⟨x, rfl⟩ : ∃ x : BitVec 8, a0 = (x.toNat : Int) := by
    have hb := bounds_u8 w0
    refine ⟨BitVec.ofInt 8 a0, ?_⟩
    rw [BitVec.toNat_ofInt]; omega
  obtain ⟨y, rfl⟩ : ∃ y : BitVec 8, a2 = (y.toNat : Int) := by
    have hb := bounds_u8 w2
    refine ⟨BitVec.ofInt 8 a2, ?_⟩
    rw [BitVec.toNat_ofInt]; omega
  clear w0 w2
  go_enter Try.func3, Try.ntmps3
  go_wp2_with (go_at_call 9; refine (zzNarrow_any _ _ _ _ _).mono ?_; rintro e w' ⟨rfl, hg⟩)
  go_loop [11, 12] (fun i b => ∃ k : Nat, k ≤ 7 ∧ i = .int .i64 k) (fun i _ => 7 - (intOf i).toNat)
  case atStart => exact ⟨0, by omega, rfl⟩
  case round =>
    obtain ⟨k, hk, rfl⟩ := hrel
    by_cases hlt : k < 7
    · have hlt' : (k : Int) < 7 := by omega
      have hk0 : (0 : Int) ≤ k := by omega
      have hal := Nar.allows_nar x a1 y a3 k
      cases h1 : Nar.allows x a1 k
      · have h2 : Nar.allows (Nar.narT x a1 y a3) (Nar.narS a1 a3) k = false := by rw [hal, h1]; rfl
        clear hal
        go_wp2_with (go_at_call 10; refine (zzAllows_any _ _ _ hk0 hlt' _).mono ?_; rintro e w' ⟨rfl, rfl⟩)
        go_round
        case rel => exact ⟨k + 1, by omega, by go_num⟩
        case measure => simp [intOf]; omega
      · have h2 : Nar.allows (Nar.narT x a1 y a3) (Nar.narS a1 a3) k = Nar.allows y a3 k := by rw [hal, h1]; rfl
        clear hal
        go_wp2_with (go_at_call 10; refine (zzAllows_any _ _ _ hk0 hlt' _).mono ?_; rintro e w' ⟨rfl, rfl⟩)
        go_round
        case rel => exact ⟨k + 1, by omega, by go_num⟩
        case measure => simp [intOf]; omega
    · go_wp2
      go_ret
      exact ⟨rfl, hg⟩

/-! ### THE ROW's STEP: WRITTEN OUT: LEAVE IT -/
set_option maxRecDepth 100000 in
theorem lifted (os : Os) (started : os.Started) (H : Type) (enc : TypeId × Value → H) :
    ReturnsInHanded {} Try.checked os 3 .any (Rows.fnNarrowAllowsExactlyWhatBothAllowSpec.pre6 enc Try.prog Try.f3 Rows.fnNarrowAllowsExactlyWhatBothAllowRow.domain false) (Rows.fnNarrowAllowsExactlyWhatBothAllowSpec.post enc Try.prog Try.f3 false true false false) := by
  refine returnsInHanded_of_change (C := Try.checked) own started (by kernel_rfl) Try.func3
    (ChangeSpec.witness6 (enc := enc) (C := Try.checked) false ⟨#[], #[.int .u8 0, .bool false, .int .u8 0, .bool false], []⟩ 8 (by kernel_rfl) (by kernel_rfl) (by kernel_rfl) (by kernel_rfl)) ?_
  intro W base args ds gs before hval0 hW hcnd _
  have hval : ∀ (j : Nat) t v, Try.f3.params[j]? = some t → args[j]? = some v → Value.okWide Try.prog W .any base t v := hval0
  have hW' := hW
  obtain ⟨p, q, hA0, hV, rfl, hfz, hnd⟩ := hW
  have hA : DataW.TrodAll enc Try.prog W 0 (fun _ => true) true Try.f3.params.toList args.toList ds p := hA0
  rw [Try.params3] at hA hval
  obtain ⟨v0, vs0, d0, ds0, p0, q0, hargs, rfl, rfl, h0, r0⟩ := trodAll_cons hA
  obtain ⟨v1, vs1, d1, ds1, p1, q1, rfl, rfl, rfl, h1, r1⟩ := trodAll_cons r0
  obtain ⟨v2, vs2, d2, ds2, p2, q2, rfl, rfl, rfl, h2, r2⟩ := trodAll_cons r1
  obtain ⟨v3, vs3, d3, ds3, p3, q3, rfl, rfl, rfl, h3, r3⟩ := trodAll_cons r2
  obtain ⟨rfl, rfl, rfl⟩ := trodAll_nil r3
  obtain rfl : args = #[v0, v1, v2, v3] := by cases args; simp_all
  obtain ⟨rfl, rfl⟩ := trodVars_none hV
  obtain ⟨a0, rfl, rfl, rfl, w0⟩ := open_int Try.underlying5 (hval 0 5 v0 rfl rfl) h0
  obtain ⟨a1, rfl, rfl, rfl⟩ := open_bool Try.underlying4 (hval 1 4 v1 rfl rfl) h1
  obtain ⟨a2, rfl, rfl, rfl, w2⟩ := open_int Try.underlying5 (hval 2 5 v2 rfl rfl) h2
  obtain ⟨a3, rfl, rfl, rfl⟩ := open_bool Try.underlying4 (hval 3 4 v3 rfl rfl) h3
  clear hA0 hval0
  simp only [List.append_nil] at hW'
  refine (walk a0 a1 a2 a3 w0 w2 W).mono fun e W' ⟨he, hg⟩ => ?_
  subst he
  exact ⟨_, rfl, post_of_same (pa := []) (pv := []) hW' (fun _ _ _ => (trodAll_cons_mk (shut_bool Try.underlying4 _) trodAll_mk0)) (fun sp _ => (trodAll_cons_mk (shut_int Try.underlying5 w0) (trodAll_cons_mk (shut_bool Try.underlying4 _) (trodAll_cons_mk (shut_int Try.underlying5 w2) (trodAll_cons_mk (shut_bool Try.underlying4 _) trodAll_mk0))))) (fun _ _ => rfl) rfl
    (hg.frame _) hg.2.1 (ok_one (by kernel_rfl) rfl (okWide_bool_mk Try.underlying4 _))⟩

theorem over : Rows.fnNarrowAllowsExactlyWhatBothAllowRow.holds Try.pinned (OpenSpec.ofChange Rows.fnNarrowAllowsExactlyWhatBothAllowSpec) :=
  OpenClaim.holds_of_wide 3 Try.f3 rfl rfl rfl rfl rfl rfl rfl ⟨rfl, rfl, rfl, rfl, rfl⟩ rfl rfl rfl rfl rfl (by kernel_rfl) Try.func3 (by kernel_rfl)
    (of_decide_eq_true (by kernel_rfl)) (by unfold Func.isWrapper; first | (rw [if_pos (by decide +kernel)]; kernel_rfl) | (rw [if_neg (by decide +kernel)]; exact ⟨rfl, rfl⟩))
    (fun os started H enc _ => lifted os started H enc)

/-- ████ THE STATEMENT ████ -/
theorem proved : Rows.FnNarrowAllowsExactlyWhatBothAllowSaid :=
  over
end Go.Proofs.Qxb6000780a.fnNarrowAllowsExactlyWhatBothAllow
