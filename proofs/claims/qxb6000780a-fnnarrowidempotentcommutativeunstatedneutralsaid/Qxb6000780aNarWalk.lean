/- The contracts of has (24), narrow (18), ZZNarrow (9), zzHas (19), zzAllows (10). -/
import Derived.Test.Qxb6000780aRows
import Derived.Test.Qxb6000780aNar
import Derived.WalkKit
import Derived.ProofKit
import Derived.RowKit3
namespace Go.Proofs.Qxb6000780a
open Go.ChangeShapes Go.WideShapes Go.ChangeAt Go.RowKit
namespace Nar
theorem ofInt_toNat (x : BitVec 8) : BitVec.ofInt 8 (x.toNat : Int) = x := by simp
theorem wrap_toNat (x : BitVec 8) : IntKind.u8.wrap (x.toNat : Int) = x.toNat := by
  have := x.isLt
  rw [IntKind.wrap_u8']; omega
theorem b_and (x y : BitVec 8) : bits .and .u8 (x.toNat : Int) (y.toNat : Int) = ((x &&& y).toNat : Int) := by
  show IntKind.u8.wrap ((BitVec.ofInt 8 (x.toNat : Int) &&& BitVec.ofInt 8 (y.toNat : Int)).toNat : Int) = _
  rw [ofInt_toNat, ofInt_toNat, wrap_toNat]
theorem b_or8 (x : BitVec 8) : bits .or .u8 (x.toNat : Int) 8 = ((x ||| 8#8).toNat : Int) := by
  show IntKind.u8.wrap ((BitVec.ofInt 8 (x.toNat : Int) ||| BitVec.ofInt 8 8).toNat : Int) = _
  rw [ofInt_toNat, wrap_toNat]; rfl
theorem has_2 : ∀ x : BitVec 8, (bits .and .u8 (x.toNat : Int) 4 != 0) = bit x 2 := by decide +kernel
theorem has_3 : ∀ x : BitVec 8, (bits .and .u8 (x.toNat : Int) 8 != 0) = bit x 3 := by decide +kernel
end Nar

theorem hide {p : Prop} (h : p) : Hid p := h
theorem unhide {p : Prop} (h : Hid p) : p := h
def Nar.hasB (x : BitVec 8) (k : Int) : Bool := Nar.bit x k.toNat
theorem has_any (x : BitVec 8) (k : Int) (hk : k = 2 ∨ k = 3) (w : World) : Calls Try.prog 24 #[.int .u8 (x.toNat : Int), .int .u8 k] w fun e w' => e = .returned (.bool (Nar.hasB x k)) ∧ w' = w := by
  rcases hk with rfl | rfl
  · go_enter Try.func24, Try.ntmps24
    go_wp2
    go_ret
    exact ⟨by rw [show Nar.hasB x 2 = Nar.bit x 2 from rfl, ← Nar.has_2]; rfl, rfl⟩
  · go_enter Try.func24, Try.ntmps24
    go_wp2
    go_ret
    exact ⟨by rw [show Nar.hasB x 3 = Nar.bit x 3 from rfl, ← Nar.has_3]; rfl, rfl⟩

theorem Nar.both_is (x y : BitVec 8) (b : Bool) (h : Nar.meet x y = b) (v : Int) (hv : v = if b then bits .or .u8 (bits .and .u8 (x.toNat : Int) (y.toNat : Int)) 8 else bits .and .u8 (x.toNat : Int) (y.toNat : Int)) :
    v = ((Nar.narT x true y true).toNat : Int) := by
  subst hv
  show _ = ((Nar.both x y).toNat : Int)
  unfold Nar.both
  rw [h, Nar.b_and, Nar.b_or8]
  cases b <;> rfl
theorem Nar.pair {k : IntKind} {a b : Int} {s t : Bool} (h : a = b) (h2 : s = t) : Ending.returned (.agg #[.int k a, .bool s]) = .returned (.agg #[.int k b, .bool t]) := by rw [h, h2]

set_option maxHeartbeats 4000000 in
theorem narrow_any (x : BitVec 8) (s : Bool) (y : BitVec 8) (t : Bool) (w : World) :
    Calls Try.prog 18 #[.agg #[.int .u8 (x.toNat : Int), .bool s], .agg #[.int .u8 (y.toNat : Int), .bool t]] w fun e w' =>
      e = .returned (.agg #[.int .u8 ((Nar.narT x s y t).toNat : Int), .bool (Nar.narS s t)]) ∧ ∃ c1 c2 c3 : Array Value, w' = ((w.alloc (.cells c1 35)).alloc (.cells c2 35)).alloc (.cells c3 35) := by
  cases t
  · go_enter Try.func18, Try.ntmps18
    go_wp2
    simp [bodyPost, results, Try.results18, go_sem]
    exact ⟨⟨rfl, rfl⟩, _, _, _, rfl⟩
  cases s
  · go_enter Try.func18, Try.ntmps18
    go_wp2
    simp [bodyPost, results, Try.results18, go_sem]
    exact ⟨⟨rfl, rfl⟩, _, _, _, rfl⟩
  obtain ⟨b, hb⟩ : ∃ b, Nar.meet x y = b := ⟨_, rfl⟩
  have hfin := Nar.both_is x y b hb
  have Hfin := hide hfin
  clear hfin
  cases h1 : Nar.hasB x 3 <;> cases h2 : Nar.hasB y 2 <;> cases h3 : Nar.hasB x 2 <;> cases h4 : Nar.hasB y 3
  all_goals
    have hm : b = ((Nar.hasB x 3 && Nar.hasB y 2) || (Nar.hasB x 2 && Nar.hasB y 3)) := hb.symm
    rw [h1, h2, h3, h4] at hm
    simp at hm
    subst hm
    clear hb
    go_enter Try.func18, Try.ntmps18
    go_wp2_with (go_at_call 24; refine (has_any _ _ (by decide) _).mono ?_; rintro e w' ⟨rfl, rfl⟩)
    simp [bodyPost, results, Try.results18, go_sem]
    exact ⟨⟨unhide Hfin _ rfl, rfl⟩, _, _, _, rfl⟩
end Go.Proofs.Qxb6000780a
