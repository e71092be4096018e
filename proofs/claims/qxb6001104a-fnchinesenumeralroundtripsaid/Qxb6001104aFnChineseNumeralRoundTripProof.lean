/- The proof of 'Rows.FnChineseNumeralRoundTripSaid': the frame is the skeleton tool's; the walk and the plain law are ours. -/
import Derived.Test.Qxb6001104aRows
import Derived.Test.Qxb6001104aNumFmt
import Derived.WalkKit
import Derived.ProofKit
import Derived.OpenShut
import Derived.ShutString
namespace Go.Proofs.Qxb6001104a.fnChineseNumeralRoundTrip
open Go.ChangeShapes Go.WideShapes Go.ChangeAt Go.RowKit
open Go.ChangeMaps (open_string shut_string)
set_option linter.unusedVariables false      -- a walk need not use every 'w<i>' (that an integer argument fits its kind)

theorem own : ownKnob Try.prog.godebug = none := by kernel_rfl

/-! ### STEP 1: THE WALK: the Go text returns true. 'Grown w w'': the world has at most new blocks (Derived/RowKit3.lean). Part the cases AHEAD of 'go_enter' where a test parts the walk; take each callee by a contract of your own. -/
theorem hide {p : Prop} (h : p) : Hid p := h
theorem unhide {p : Prop} (h : Hid p) : p := h
set_option maxRecDepth 100000 in
theorem walk (a0 : Int) (a1 : Bool) (a2 : Bool) (w0 : (Lit.int .i64 a0).wf = true) (w : World) :
    Calls Try.prog 7 #[.int .i64 a0, .bool a1, .bool a2] w fun e w' => e = .returned (.bool true) ∧ Grown w w' := by
  by_cases g1 : a0 < 1
  · go_enter Try.func7, Try.ntmps7
    go_wp2
    go_ret
    exact ⟨rfl, by repeat (first | exact Grown.refl _ | apply Grown.drew | apply Grown.alloc)⟩
  by_cases g2 : 999 < a0
  · go_enter Try.func7, Try.ntmps7
    go_wp2
    go_ret
    exact ⟨rfl, by repeat (first | exact Grown.refl _ | apply Grown.drew | apply Grown.alloc)⟩
  have h1 : 1 ≤ a0 := by omega
  have h2 : a0 ≤ 999 := by omega
  obtain ⟨f1, f2, f3, f4⟩ := Num.facts a0 a1 a2 h1 h2
  have F4 : Hid ((Num.read (Num.fmt a0 a1 a2)).1 + (Num.read (Num.fmt a0 a1 a2)).2 = a0) := f4
  clear f4
  go_enter Try.func7, Try.ntmps7
  go_wp2_with (go_at_call 20; refine (format_any a0 a1 a2 _ h1 h2).mono ?_; rintro e w' ⟨l, hl, rfl, hc, hg⟩; have Hl := hide hl; have Hc := hide hc; clear hl hc)
  rw [← unhide Hl] at f1 f2 f3 F4
  clear Hl
  go_loop [8, 9, 10] (fun t c i => ∃ k : Nat, k ≤ l.length ∧ i = .int .i64 k ∧ t = .int .i64 (Num.read (l.take k)).1 ∧ c = .int .i64 (Num.read (l.take k)).2) (fun _ _ i => l.length - (intOf i).toNat)
  case atStart => exact ⟨0, by omega, rfl, rfl, rfl⟩
  case round =>
    obtain ⟨k, hk, rfl, rfl, rfl⟩ := hrel
    have f3k := f3 k (by omega)
    by_cases hlt : k < l.length
    · have hcell := unhide Hc k hlt
      have f3k1 := f3 (k + 1) (by omega)
      have hst := Num.read_snoc l k hlt
      have hr : l.getD k 0 ∈ Num.runes := f2 _ (by simp [List.getD, hlt])
      have hv := Num.val_le (l.getD k 0)
      rw [hst] at f3k1
      obtain ⟨r, er⟩ : ∃ r, r = l.getD k 0 := ⟨_, rfl⟩
      rw [← er] at hcell hst hr hv f3k1
      have Hst := hide hst
      clear hst er f2 f3
      obtain ⟨tc, etc⟩ : ∃ tc, tc = Num.read (l.take k) := ⟨_, rfl⟩
      rw [← etc] at f3k f3k1 Hst ⊢
      clear etc
      obtain ⟨tt, cc⟩ := tc
      simp only at f3k
      cases hu : Num.unit r
      · have hs : Num.step (tt, cc) r = (tt, Num.val r) := by simp [Num.step, hu]
        have HS := hide hs
        clear hs f3k1
        go_wp2_with (go_at_call 21; refine (zzNumeral_any r hr _).mono ?_; rintro e w' ⟨rfl, rfl⟩)
        go_round
        case rel => exact ⟨k + 1, by omega, by go_num, by rw [unhide Hst, unhide HS], by rw [unhide Hst, unhide HS]⟩
        case measure => simp [intOf]; omega
      · by_cases hz : cc = 0
        · have hs : Num.step (tt, cc) r = (tt + Num.val r, 0) := by simp [Num.step, hu, hz]
          have HS := hide hs
          have hz' : (cc == 0) = true := by rw [beq_iff_eq]; exact hz
          clear hs f3k1 hz
          go_wp2_with (go_at_call 21; refine (zzNumeral_any r hr _).mono ?_; rintro e w' ⟨rfl, rfl⟩)
          go_round
          case rel => exact ⟨k + 1, by omega, by go_num, by rw [unhide Hst, unhide HS], by rw [unhide Hst, unhide HS]⟩
          case measure => simp [intOf]; omega
        · have hs : Num.step (tt, cc) r = (tt + cc * Num.val r, 0) := by simp [Num.step, hu, hz]
          have HS := hide hs
          have hz' : (cc == 0) = false := by rw [beq_eq_false_iff_ne]; exact hz
          rw [hs] at f3k1
          simp only at f3k1
          have hp : 0 ≤ cc * Num.val r := Int.mul_nonneg f3k.2.2.1 hv.1
          have hp2 : cc * Num.val r ≤ 999 := by omega
          clear hs hz
          go_wp2_with (go_at_call 21; refine (zzNumeral_any r hr _).mono ?_; rintro e w' ⟨rfl, rfl⟩)
          go_round
          case rel => exact ⟨k + 1, by omega, by go_num, by rw [unhide Hst, unhide HS], by rw [unhide Hst, unhide HS]⟩
          case measure => simp [intOf]; omega
    · have e : l.take k = l := List.take_of_length_le (by omega)
      rw [e] at f3k ⊢
      have hq : ((Num.read l).1 + (Num.read l).2 == a0) = true := by rw [beq_iff_eq]; exact unhide F4
      clear F4 e f2 f3
      go_wp2
      go_ret
      exact ⟨rfl, hg⟩

/-! ### THE ROW's STEP: WRITTEN OUT: LEAVE IT -/
set_option maxRecDepth 100000 in
theorem lifted (os : Os) (started : os.Started) (H : Type) (enc : TypeId × Value → H) :
    ReturnsInHanded {} Try.checked os 7 .any (Rows.fnChineseNumeralRoundTripSpec.pre6 enc Try.prog Try.f7 Rows.fnChineseNumeralRoundTripRow.domain false) (Rows.fnChineseNumeralRoundTripSpec.post enc Try.prog Try.f7 false true false false) := by
  refine returnsInHanded_of_change (C := Try.checked) own started (by kernel_rfl) Try.func7
    (ChangeSpec.witness6 (enc := enc) (C := Try.checked) false ⟨#[], #[.int .i64 0, .bool false, .bool false], []⟩ 8 (by kernel_rfl) (by kernel_rfl) (by kernel_rfl) (by kernel_rfl)) ?_
  intro W base args ds gs before hval0 hW hcnd _
  have hval : ∀ (j : Nat) t v, Try.f7.params[j]? = some t → args[j]? = some v → Value.okWide Try.prog W .any base t v := hval0
  have hW' := hW
  obtain ⟨p, q, hA0, hV, rfl, hfz, hnd⟩ := hW
  have hA : DataW.TrodAll enc Try.prog W 0 (fun _ => true) true Try.f7.params.toList args.toList ds p := hA0
  rw [Try.params7] at hA hval
  obtain ⟨v0, vs0, d0, ds0, p0, q0, hargs, rfl, rfl, h0, r0⟩ := trodAll_cons hA
  obtain ⟨v1, vs1, d1, ds1, p1, q1, rfl, rfl, rfl, h1, r1⟩ := trodAll_cons r0
  obtain ⟨v2, vs2, d2, ds2, p2, q2, rfl, rfl, rfl, h2, r2⟩ := trodAll_cons r1
  obtain ⟨rfl, rfl, rfl⟩ := trodAll_nil r2
  obtain rfl : args = #[v0, v1, v2] := by cases args; simp_all
  obtain ⟨rfl, rfl⟩ := trodVars_none hV
  obtain ⟨a0, rfl, rfl, rfl, w0⟩ := open_int Try.underlying3 (hval 0 3 v0 rfl rfl) h0
  obtain ⟨a1, rfl, rfl, rfl⟩ := open_bool Try.underlying4 (hval 1 4 v1 rfl rfl) h1
  obtain ⟨a2, rfl, rfl, rfl⟩ := open_bool Try.underlying4 (hval 2 4 v2 rfl rfl) h2
  clear hA0 hval0
  simp only [List.append_nil] at hW'
  refine (walk a0 a1 a2 w0 W).mono fun e W' ⟨he, hg⟩ => ?_
  subst he
  exact ⟨_, rfl, post_of_same (pa := []) (pv := []) hW' (fun _ _ _ => (trodAll_cons_mk (shut_bool Try.underlying4 _) trodAll_mk0)) (fun sp _ => (trodAll_cons_mk (shut_int Try.underlying3 w0) (trodAll_cons_mk (shut_bool Try.underlying4 _) (trodAll_cons_mk (shut_bool Try.underlying4 _) trodAll_mk0)))) (fun _ _ => rfl) rfl
    (hg.frame _) hg.2.1 (ok_one (by kernel_rfl) rfl (okWide_bool_mk Try.underlying4 _))⟩

theorem over : Rows.fnChineseNumeralRoundTripRow.holds Try.pinned (OpenSpec.ofChange Rows.fnChineseNumeralRoundTripSpec) :=
  OpenClaim.holds_of_wide 7 Try.f7 rfl rfl rfl rfl rfl rfl rfl ⟨rfl, rfl, rfl, rfl, rfl⟩ rfl rfl rfl rfl rfl (by kernel_rfl) Try.func7 (by kernel_rfl)
    (of_decide_eq_true (by kernel_rfl)) (by unfold Func.isWrapper; first | (rw [if_pos (by decide +kernel)]; kernel_rfl) | (rw [if_neg (by decide +kernel)]; exact ⟨rfl, rfl⟩))
    (fun os started H enc _ => lifted os started H enc)

/-- ████ THE STATEMENT ████ -/
theorem proved : Rows.FnChineseNumeralRoundTripSaid :=
  over
end Go.Proofs.Qxb6001104a.fnChineseNumeralRoundTrip
