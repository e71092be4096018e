/- The []string arguments as the walks see them; zzStrsBytes (10), zzBatchBytes (6). -/
import Derived.Test.Qxb6000535aRows
import Derived.WalkKit
import Derived.ProofKit
import Derived.RowKit3
import Derived.Deep.QuietTactic
import Derived.BigQuiet
namespace Go.Proofs.Qxb6000535a
open Go.ChangeShapes Go.WideShapes Go.ChangeAt Go.RowKit

theorem hide {p : Prop} (h : p) : Hid p := h
theorem unhide {p : Prop} (h : Hid p) : p := h

/-- 'v' is a []string that reads as ss in world w: where it has an element its address is ⟨b, off⟩. -/
structure Strs (w : World) (ao : Option Addr) (b off : Nat) (ss : List ByteArray) : Prop where
  addr : 0 < ss.length → ao = some ⟨b, off, none⟩
  cell : ∀ k, k < ss.length → w.cell? ⟨b, off + k, none⟩ = some (.string (ss.getD k ByteArray.empty))
  len : ss.length ≤ 9223372036854775807

theorem sizeOf9 (w : World) : (sizeOf 9).run Try.prog w = .ok 1 w := by kernel_rfl
theorem elem22 : Try.prog.elem 22 = 9 := by kernel_rfl

theorem Strs.index {w : World} {ao : Option Addr} {b off : Nat} {ss : List ByteArray} (h : Strs w ao b off ss) {k : Nat} (hk : k < ss.length) (cap : Nat) (w' : World) :
    (Instr.indexAt 22 (.slice ao ss.length cap) (.int .i64 (k : Int))).run Try.prog w' = .ok (.pointer (some ⟨b, off + k, none⟩)) w' := by
  rw [h.addr (by omega), run_indexAt_slice w' 22 ⟨b, off, none⟩ ss.length cap .i64 (k : Int) Try.underlying22, if_pos ⟨by omega, by omega⟩, elem22, sizeOf9]
  simp [Addr.add]

set_option maxRecDepth 100000 in
theorem strsBytes_any (ao : Option Addr) (b off cap : Nat) (ss : List ByteArray) (w : World) (h : Strs w ao b off ss) :
    Calls Try.prog 10 #[.slice ao ss.length cap] w fun e w' => (∃ t : Int, e = .returned (.int .i64 t)) ∧ w' = w := by
  have hlen := h.len
  go_enter Try.func10, Try.ntmps10
  go_wp2
  go_loop [3, 4] (fun t i => ∃ k : Nat, ∃ n : Int, k ≤ ss.length ∧ i = .int .i64 k ∧ t = .int .i64 n) (fun _ i => ss.length - (intOf i).toNat)
  case atStart => exact ⟨0, 0, Nat.zero_le _, rfl, rfl⟩
  case round =>
    obtain ⟨k, n, hk, rfl, rfl⟩ := hrel
    by_cases hlt : k < ss.length
    · have hix := fun w' => h.index hlt cap w'
      have hc := h.cell k hlt
      obtain ⟨s, es⟩ : ∃ s, s = ss.getD k ByteArray.empty := ⟨_, rfl⟩
      rw [← es] at hc
      clear es
      go_wp2
      · go_ret
        exact ⟨⟨_, rfl⟩, rfl⟩
      · go_round
        case rel => exact ⟨k + 1, _, by omega, by go_num, rfl⟩
        case measure => simp [intOf]; omega
    · go_wp2
      go_ret
      exact ⟨⟨_, rfl⟩, rfl⟩

set_option maxRecDepth 100000 in
theorem batchBytes_any (f : ByteArray) (a1 : Option Addr) (b1 o1 c1 : Nat) (s1 : List ByteArray) (a2 : Option Addr) (b2 o2 c2 : Nat) (s2 : List ByteArray) (a3 : Option Addr) (b3 o3 c3 : Nat) (s3 : List ByteArray) (a4 : Option Addr) (b4 o4 c4 : Nat) (s4 : List ByteArray) (w : World) (h1 : Strs w a1 b1 o1 s1) (h2 : Strs w a2 b2 o2 s2) (h3 : Strs w a3 b3 o3 s3) (h4 : Strs w a4 b4 o4 s4) :
    Calls Try.prog 6 #[.string f, .slice a1 s1.length c1, .slice a2 s2.length c2, .slice a3 s3.length c3, .slice a4 s4.length c4] w fun e w' => (∃ t : Int, e = .returned (.int .i64 t)) ∧ w' = w := by
  go_enter Try.func6, Try.ntmps6
  go_wp2_with (go_at_call 10; refine (strsBytes_any _ _ _ _ _ _ (by assumption)).mono ?_; rintro e w' ⟨⟨t, rfl⟩, rfl⟩)
  go_ret
  exact ⟨⟨_, rfl⟩, rfl⟩

end Go.Proofs.Qxb6000535a
