/- ZZNarrow (9), zzHas (19), zzAllows (10). -/
import Derived.Test.Qxb6000780aNarWalk
import Derived.Deep.QuietTactic
import Derived.BigQuiet
namespace Go.Proofs.Qxb6000780a
open Go.ChangeShapes Go.WideShapes Go.ChangeAt Go.RowKit

theorem zzNarrow_any (x : BitVec 8) (s : Bool) (y : BitVec 8) (t : Bool) (w : World) :
    Calls Try.prog 9 #[.int .u8 (x.toNat : Int), .bool s, .int .u8 (y.toNat : Int), .bool t] w fun e w' =>
      e = .returned (.tuple #[.int .u8 ((Nar.narT x s y t).toNat : Int), .bool (Nar.narS s t)]) ∧ Grown w w' := by
  go_enter Try.func9, Try.ntmps9
  go_wp2_with (go_at_call 18; refine (narrow_any _ _ _ _ _).mono ?_; rintro e w' ⟨rfl, c1, c2, c3, rfl⟩)
  go_quiet (fail)
  go_wp2
  go_ret2
  exact ⟨rfl, by repeat (first | exact Grown.refl _ | apply Grown.drewN | apply Grown.drew | apply Grown.alloc)⟩

theorem grown_trans {a b c : World} (h1 : Grown a b) (h2 : Grown b c) : Grown a c :=
  ⟨World.keptBut_trans h1.1 h2.1, fun x => (h2.2.1 x).trans (h1.2.1 x), Nat.le_trans h1.2.2 h2.2.2⟩

theorem Nar.zzhas_0 : ∀ x : BitVec 8, (bits .and .u8 (x.toNat : Int) 1 == 1) = Nar.hasB x 0 := by decide +kernel
theorem Nar.zzhas_1 : ∀ x : BitVec 8, (bits .and .u8 ((x.toNat : Int) / 2) 1 == 1) = Nar.hasB x 1 := by decide +kernel
theorem Nar.zzhas_2 : ∀ x : BitVec 8, (bits .and .u8 ((x.toNat : Int) / 4) 1 == 1) = Nar.hasB x 2 := by decide +kernel
theorem Nar.zzhas_3 : ∀ x : BitVec 8, (bits .and .u8 ((x.toNat : Int) / 8) 1 == 1) = Nar.hasB x 3 := by decide +kernel
theorem Nar.zzhas_4 : ∀ x : BitVec 8, (bits .and .u8 ((x.toNat : Int) / 16) 1 == 1) = Nar.hasB x 4 := by decide +kernel
theorem Nar.zzhas_5 : ∀ x : BitVec 8, (bits .and .u8 ((x.toNat : Int) / 32) 1 == 1) = Nar.hasB x 5 := by decide +kernel
theorem Nar.zzhas_6 : ∀ x : BitVec 8, (bits .and .u8 ((x.toNat : Int) / 64) 1 == 1) = Nar.hasB x 6 := by decide +kernel
theorem zzHas_any (x : BitVec 8) (k : Int) (h0 : 0 ≤ k) (hk : k < 7) (w : World) : Calls Try.prog 19 #[.int .u8 (x.toNat : Int), .int .u64 k] w fun e w' => e = .returned (.bool (Nar.hasB x k)) ∧ w' = w := by
  rcases (by omega : k = 0 ∨ k = 1 ∨ k = 2 ∨ k = 3 ∨ k = 4 ∨ k = 5 ∨ k = 6) with rfl | rfl | rfl | rfl | rfl | rfl | rfl
  · go_enter Try.func19, Try.ntmps19
    go_wp2
    go_ret
    exact ⟨by rw [← Nar.zzhas_0]; rfl, rfl⟩
  · go_enter Try.func19, Try.ntmps19
    go_wp2
    go_ret
    exact ⟨by rw [← Nar.zzhas_1]; rfl, rfl⟩
  · go_enter Try.func19, Try.ntmps19
    go_wp2
    go_ret
    exact ⟨by rw [← Nar.zzhas_2]; rfl, rfl⟩
  · go_enter Try.func19, Try.ntmps19
    go_wp2
    go_ret
    exact ⟨by rw [← Nar.zzhas_3]; rfl, rfl⟩
  · go_enter Try.func19, Try.ntmps19
    go_wp2
    go_ret
    exact ⟨by rw [← Nar.zzhas_4]; rfl, rfl⟩
  · go_enter Try.func19, Try.ntmps19
    go_wp2
    go_ret
    exact ⟨by rw [← Nar.zzhas_5]; rfl, rfl⟩
  · go_enter Try.func19, Try.ntmps19
    go_wp2
    go_ret
    exact ⟨by rw [← Nar.zzhas_6]; rfl, rfl⟩

set_option maxHeartbeats 1000000 in
theorem zzAllows_any (x : BitVec 8) (s : Bool) (k : Int) (h0 : 0 ≤ k) (hk : k < 7) (w : World) : Calls Try.prog 10 #[.int .u8 (x.toNat : Int), .bool s, .int .i64 k] w fun e w' => e = .returned (.bool (Nar.allows x s k.toNat)) ∧ w' = w := by
  cases s
  · go_enter Try.func10, Try.ntmps10
    go_wp2
    go_ret
    exact ⟨rfl, rfl⟩
  rcases (by omega : k = 0 ∨ k = 1 ∨ k = 2 ∨ k = 3 ∨ k = 4 ∨ k = 5 ∨ k = 6) with rfl | rfl | rfl | rfl | rfl | rfl | rfl
  · go_enter Try.func10, Try.ntmps10
    go_wp2_with (go_at_call 19; refine (zzHas_any _ _ (by decide) (by decide) _).mono ?_; rintro e w' ⟨rfl, rfl⟩)
    go_ret
    exact ⟨rfl, rfl⟩
  · go_enter Try.func10, Try.ntmps10
    go_wp2_with (go_at_call 19; refine (zzHas_any _ _ (by decide) (by decide) _).mono ?_; rintro e w' ⟨rfl, rfl⟩)
    go_ret
    exact ⟨rfl, rfl⟩
  · cases h3 : Nar.hasB x 3
    · have hfin : Nar.allows x true (2 : Int).toNat = Nar.hasB x 2 := by
        show (Nar.hasB x 3 || Nar.hasB x 2) = Nar.hasB x 2
        rw [h3]; rfl
      have Hfin := hide hfin
      clear hfin
      go_enter Try.func10, Try.ntmps10
      go_wp2_with (go_at_call 19; refine (zzHas_any _ _ (by decide) (by decide) _).mono ?_; rintro e w' ⟨rfl, rfl⟩)
      go_ret
      exact ⟨by rw [unhide Hfin]; rfl, rfl⟩
    · have hfin : Nar.allows x true (2 : Int).toNat = true := by
        show (Nar.hasB x 3 || Nar.hasB x 2) = true
        rw [h3]; rfl
      have Hfin := hide hfin
      clear hfin
      go_enter Try.func10, Try.ntmps10
      go_wp2_with (go_at_call 19; refine (zzHas_any _ _ (by decide) (by decide) _).mono ?_; rintro e w' ⟨rfl, rfl⟩)
      go_ret
      exact ⟨by rw [unhide Hfin]; rfl, rfl⟩
  · go_enter Try.func10, Try.ntmps10
    go_wp2_with (go_at_call 19; refine (zzHas_any _ _ (by decide) (by decide) _).mono ?_; rintro e w' ⟨rfl, rfl⟩)
    go_ret
    exact ⟨rfl, rfl⟩
  · go_enter Try.func10, Try.ntmps10
    go_wp2_with (go_at_call 19; refine (zzHas_any _ _ (by decide) (by decide) _).mono ?_; rintro e w' ⟨rfl, rfl⟩)
    go_ret
    exact ⟨rfl, rfl⟩
  · go_enter Try.func10, Try.ntmps10
    go_wp2_with (go_at_call 19; refine (zzHas_any _ _ (by decide) (by decide) _).mono ?_; rintro e w' ⟨rfl, rfl⟩)
    go_ret
    exact ⟨rfl, rfl⟩
  · go_enter Try.func10, Try.ntmps10
    go_wp2_with (go_at_call 19; refine (zzHas_any _ _ (by decide) (by decide) _).mono ?_; rintro e w' ⟨rfl, rfl⟩)
    go_ret
    exact ⟨rfl, rfl⟩
end Go.Proofs.Qxb6000780a
