/- zzBytes_FnBatchGroupsEachNodesNotesInOrder (5), zzBytes_FnBatchOfAPrefixIsAPrefix (9): whatever they answer, they return; 'yes' bounds the number of notes. -/
import Derived.Test.Qxb6000535aArgs
namespace Go.Proofs.Qxb6000535a
open Go.ChangeShapes Go.WideShapes Go.ChangeAt Go.RowKit

/-- A bool comes back; 'true' only where n is small; the world stands. -/
def ZzPost (n : Nat) (w : World) (e : Ending) (w' : World) : Prop := (∃ b : Bool, e = .returned (.bool b) ∧ (b = true → n ≤ 1048576)) ∧ w' = w

set_option maxRecDepth 100000 in
set_option maxHeartbeats 4000000 in
theorem zzBytes5_any (f : ByteArray) (a1 : Option Addr) (b1 o1 c1 : Nat) (s1 : List ByteArray) (a2 : Option Addr) (b2 o2 c2 : Nat) (s2 : List ByteArray) (a3 : Option Addr) (b3 o3 c3 : Nat) (s3 : List ByteArray) (a4 : Option Addr) (b4 o4 c4 : Nat) (s4 : List ByteArray) (w : World) (h1 : Strs w a1 b1 o1 s1) (h2 : Strs w a2 b2 o2 s2) (h3 : Strs w a3 b3 o3 s3) (h4 : Strs w a4 b4 o4 s4) :
    Calls Try.prog 5 #[.string f, .slice a1 s1.length c1, .slice a2 s2.length c2, .slice a3 s3.length c3, .slice a4 s4.length c4] w (ZzPost s1.length w) := by
  have hl1 := h1.len
  have hl2 := h2.len
  have hl3 := h3.len
  have hl4 := h4.len
  by_cases hfin : s1.length ≤ 1048576
  · go_enter Try.func5, Try.ntmps5
    go_wp2
    · go_ret
      exact ⟨⟨false, rfl, fun h => by cases h⟩, rfl⟩
    · go_ret
      exact ⟨⟨false, rfl, fun h => by cases h⟩, rfl⟩
    go_loop [11, 12] (fun t i => ∃ k : Nat, ∃ n : Int, k ≤ s1.length ∧ i = .int .i64 k ∧ t = .int .i64 n) (fun _ i => s1.length - (intOf i).toNat)
    case atStart => exact ⟨0, _, Nat.zero_le _, rfl, rfl⟩
    case round =>
      obtain ⟨k, n, hk, rfl, rfl⟩ := hrel
      by_cases hlt : k < s1.length
      · have hix := fun w' => h1.index hlt c1 w'
        have hc := h1.cell k hlt
        obtain ⟨s, es⟩ : ∃ s, s = s1.getD k ByteArray.empty := ⟨_, rfl⟩
        rw [← es] at hc
        clear es
        go_wp2
        · go_ret
          exact ⟨⟨false, rfl, fun h => by cases h⟩, rfl⟩
        · go_ret
          exact ⟨⟨false, rfl, fun h => by cases h⟩, rfl⟩
        · go_round
          case rel => exact ⟨k + 1, _, by omega, by go_num, rfl⟩
          case measure => simp [intOf]; omega
      · go_wp2
        · go_ret
          exact ⟨⟨false, rfl, fun h => by cases h⟩, rfl⟩
        · go_ret
          exact ⟨⟨false, rfl, fun h => by cases h⟩, rfl⟩
        go_loop [11, 13] (fun t i => ∃ k : Nat, ∃ n : Int, k ≤ s2.length ∧ i = .int .i64 k ∧ t = .int .i64 n) (fun _ i => s2.length - (intOf i).toNat)
        case atStart => exact ⟨0, _, Nat.zero_le _, rfl, rfl⟩
        case round =>
          obtain ⟨k, n, hk, rfl, rfl⟩ := hrel
          by_cases hlt : k < s2.length
          · have hix := fun w' => h2.index hlt c2 w'
            have hc := h2.cell k hlt
            obtain ⟨s, es⟩ : ∃ s, s = s2.getD k ByteArray.empty := ⟨_, rfl⟩
            rw [← es] at hc
            clear es
            go_wp2
            · go_ret
              exact ⟨⟨false, rfl, fun h => by cases h⟩, rfl⟩
            · go_ret
              exact ⟨⟨false, rfl, fun h => by cases h⟩, rfl⟩
            · go_round
              case rel => exact ⟨k + 1, _, by omega, by go_num, rfl⟩
              case measure => simp [intOf]; omega
          · go_wp2
            · go_ret
              exact ⟨⟨false, rfl, fun h => by cases h⟩, rfl⟩
            · go_ret
              exact ⟨⟨false, rfl, fun h => by cases h⟩, rfl⟩
            go_loop [11, 14] (fun t i => ∃ k : Nat, ∃ n : Int, k ≤ s3.length ∧ i = .int .i64 k ∧ t = .int .i64 n) (fun _ i => s3.length - (intOf i).toNat)
            case atStart => exact ⟨0, _, Nat.zero_le _, rfl, rfl⟩
            case round =>
              obtain ⟨k, n, hk, rfl, rfl⟩ := hrel
              by_cases hlt : k < s3.length
              · have hix := fun w' => h3.index hlt c3 w'
                have hc := h3.cell k hlt
                obtain ⟨s, es⟩ : ∃ s, s = s3.getD k ByteArray.empty := ⟨_, rfl⟩
                rw [← es] at hc
                clear es
                go_wp2
                · go_ret
                  exact ⟨⟨false, rfl, fun h => by cases h⟩, rfl⟩
                · go_ret
                  exact ⟨⟨false, rfl, fun h => by cases h⟩, rfl⟩
                · go_round
                  case rel => exact ⟨k + 1, _, by omega, by go_num, rfl⟩
                  case measure => simp [intOf]; omega
              · go_wp2
                · go_ret
                  exact ⟨⟨false, rfl, fun h => by cases h⟩, rfl⟩
                · go_ret
                  exact ⟨⟨false, rfl, fun h => by cases h⟩, rfl⟩
                go_loop [11, 15] (fun t i => ∃ k : Nat, ∃ n : Int, k ≤ s4.length ∧ i = .int .i64 k ∧ t = .int .i64 n) (fun _ i => s4.length - (intOf i).toNat)
                case atStart => exact ⟨0, _, Nat.zero_le _, rfl, rfl⟩
                case round =>
                  obtain ⟨k, n, hk, rfl, rfl⟩ := hrel
                  by_cases hlt : k < s4.length
                  · have hix := fun w' => h4.index hlt c4 w'
                    have hc := h4.cell k hlt
                    obtain ⟨s, es⟩ : ∃ s, s = s4.getD k ByteArray.empty := ⟨_, rfl⟩
                    rw [← es] at hc
                    clear es
                    go_wp2
                    · go_ret
                      exact ⟨⟨false, rfl, fun h => by cases h⟩, rfl⟩
                    · go_ret
                      exact ⟨⟨false, rfl, fun h => by cases h⟩, rfl⟩
                    · go_round
                      case rel => exact ⟨k + 1, _, by omega, by go_num, rfl⟩
                      case measure => simp [intOf]; omega
                  · go_wp2
                    go_ret
                    exact ⟨⟨true, rfl, fun _ => hfin⟩, rfl⟩
  · go_enter Try.func5, Try.ntmps5
    go_wp2
    · go_ret
      exact ⟨⟨false, rfl, fun h => by cases h⟩, rfl⟩
    · go_ret
      exact ⟨⟨false, rfl, fun h => by cases h⟩, rfl⟩

set_option maxRecDepth 100000 in
set_option maxHeartbeats 4000000 in
theorem zzBytes9_any (f : ByteArray) (a1 : Option Addr) (b1 o1 c1 : Nat) (s1 : List ByteArray) (a2 : Option Addr) (b2 o2 c2 : Nat) (s2 : List ByteArray) (a3 : Option Addr) (b3 o3 c3 : Nat) (s3 : List ByteArray) (a4 : Option Addr) (b4 o4 c4 : Nat) (s4 : List ByteArray) (kk : Int) (w : World) (h1 : Strs w a1 b1 o1 s1) (h2 : Strs w a2 b2 o2 s2) (h3 : Strs w a3 b3 o3 s3) (h4 : Strs w a4 b4 o4 s4) :
    Calls Try.prog 9 #[.string f, .slice a1 s1.length c1, .slice a2 s2.length c2, .slice a3 s3.length c3, .slice a4 s4.length c4, .int .i64 kk] w (ZzPost s1.length w) := by
  have hl1 := h1.len
  have hl2 := h2.len
  have hl3 := h3.len
  have hl4 := h4.len
  by_cases hfin : s1.length ≤ 1048576
  · go_enter Try.func9, Try.ntmps9
    go_wp2
    · go_ret
      exact ⟨⟨false, rfl, fun h => by cases h⟩, rfl⟩
    · go_ret
      exact ⟨⟨false, rfl, fun h => by cases h⟩, rfl⟩
    go_loop [13, 14] (fun t i => ∃ k : Nat, ∃ n : Int, k ≤ s1.length ∧ i = .int .i64 k ∧ t = .int .i64 n) (fun _ i => s1.length - (intOf i).toNat)
    case atStart => exact ⟨0, _, Nat.zero_le _, rfl, rfl⟩
    case round =>
      obtain ⟨k, n, hk, rfl, rfl⟩ := hrel
      by_cases hlt : k < s1.length
      · have hix := fun w' => h1.index hlt c1 w'
        have hc := h1.cell k hlt
        obtain ⟨s, es⟩ : ∃ s, s = s1.getD k ByteArray.empty := ⟨_, rfl⟩
        rw [← es] at hc
        clear es
        go_wp2
        · go_ret
          exact ⟨⟨false, rfl, fun h => by cases h⟩, rfl⟩
        · go_ret
          exact ⟨⟨false, rfl, fun h => by cases h⟩, rfl⟩
        · go_round
          case rel => exact ⟨k + 1, _, by omega, by go_num, rfl⟩
          case measure => simp [intOf]; omega
      · go_wp2
        · go_ret
          exact ⟨⟨false, rfl, fun h => by cases h⟩, rfl⟩
        · go_ret
          exact ⟨⟨false, rfl, fun h => by cases h⟩, rfl⟩
        go_loop [13, 15] (fun t i => ∃ k : Nat, ∃ n : Int, k ≤ s2.length ∧ i = .int .i64 k ∧ t = .int .i64 n) (fun _ i => s2.length - (intOf i).toNat)
        case atStart => exact ⟨0, _, Nat.zero_le _, rfl, rfl⟩
        case round =>
          obtain ⟨k, n, hk, rfl, rfl⟩ := hrel
          by_cases hlt : k < s2.length
          · have hix := fun w' => h2.index hlt c2 w'
            have hc := h2.cell k hlt
            obtain ⟨s, es⟩ : ∃ s, s = s2.getD k ByteArray.empty := ⟨_, rfl⟩
            rw [← es] at hc
            clear es
            go_wp2
            · go_ret
              exact ⟨⟨false, rfl, fun h => by cases h⟩, rfl⟩
            · go_ret
              exact ⟨⟨false, rfl, fun h => by cases h⟩, rfl⟩
            · go_round
              case rel => exact ⟨k + 1, _, by omega, by go_num, rfl⟩
              case measure => simp [intOf]; omega
          · go_wp2
            · go_ret
              exact ⟨⟨false, rfl, fun h => by cases h⟩, rfl⟩
            · go_ret
              exact ⟨⟨false, rfl, fun h => by cases h⟩, rfl⟩
            go_loop [13, 16] (fun t i => ∃ k : Nat, ∃ n : Int, k ≤ s3.length ∧ i = .int .i64 k ∧ t = .int .i64 n) (fun _ i => s3.length - (intOf i).toNat)
            case atStart => exact ⟨0, _, Nat.zero_le _, rfl, rfl⟩
            case round =>
              obtain ⟨k, n, hk, rfl, rfl⟩ := hrel
              by_cases hlt : k < s3.length
              · have hix := fun w' => h3.index hlt c3 w'
                have hc := h3.cell k hlt
                obtain ⟨s, es⟩ : ∃ s, s = s3.getD k ByteArray.empty := ⟨_, rfl⟩
                rw [← es] at hc
                clear es
                go_wp2
                · go_ret
                  exact ⟨⟨false, rfl, fun h => by cases h⟩, rfl⟩
                · go_ret
                  exact ⟨⟨false, rfl, fun h => by cases h⟩, rfl⟩
                · go_round
                  case rel => exact ⟨k + 1, _, by omega, by go_num, rfl⟩
                  case measure => simp [intOf]; omega
              · go_wp2
                · go_ret
                  exact ⟨⟨false, rfl, fun h => by cases h⟩, rfl⟩
                · go_ret
                  exact ⟨⟨false, rfl, fun h => by cases h⟩, rfl⟩
                go_loop [13, 17] (fun t i => ∃ k : Nat, ∃ n : Int, k ≤ s4.length ∧ i = .int .i64 k ∧ t = .int .i64 n) (fun _ i => s4.length - (intOf i).toNat)
                case atStart => exact ⟨0, _, Nat.zero_le _, rfl, rfl⟩
                case round =>
                  obtain ⟨k, n, hk, rfl, rfl⟩ := hrel
                  by_cases hlt : k < s4.length
                  · have hix := fun w' => h4.index hlt c4 w'
                    have hc := h4.cell k hlt
                    obtain ⟨s, es⟩ : ∃ s, s = s4.getD k ByteArray.empty := ⟨_, rfl⟩
                    rw [← es] at hc
                    clear es
                    go_wp2
                    · go_ret
                      exact ⟨⟨false, rfl, fun h => by cases h⟩, rfl⟩
                    · go_ret
                      exact ⟨⟨false, rfl, fun h => by cases h⟩, rfl⟩
                    · go_round
                      case rel => exact ⟨k + 1, _, by omega, by go_num, rfl⟩
                      case measure => simp [intOf]; omega
                  · go_wp2
                    go_ret
                    exact ⟨⟨true, rfl, fun _ => hfin⟩, rfl⟩
  · go_enter Try.func9, Try.ntmps9
    go_wp2
    · go_ret
      exact ⟨⟨false, rfl, fun h => by cases h⟩, rfl⟩
    · go_ret
      exact ⟨⟨false, rfl, fun h => by cases h⟩, rfl⟩

end Go.Proofs.Qxb6000535a
