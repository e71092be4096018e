/- FnBatchOfAPrefixIsAPrefix (4): the walk. -/
import Derived.Test.Qxb6000535aZz
import Derived.Test.Qxb6000535aBatWalk
import Derived.Test.Qxb6000535aRead
namespace Go.Proofs.Qxb6000535a
open Go.ChangeShapes Go.WideShapes Go.ChangeAt Go.RowKit

set_option maxRecDepth 100000 in
set_option maxHeartbeats 4000000 in
theorem pre_any (f : ByteArray) (a1 : Option Addr) (b1 o1 c1 : Nat) (s1 : List ByteArray) (a2 : Option Addr) (b2 o2 c2 : Nat) (s2 : List ByteArray) (a3 : Option Addr) (b3 o3 c3 : Nat) (s3 : List ByteArray) (a4 : Option Addr) (b4 o4 c4 : Nat) (s4 : List ByteArray) (kk : Int) (w : World) (h1 : Strs w a1 b1 o1 s1) (h2 : Strs w a2 b2 o2 s2) (h3 : Strs w a3 b3 o3 s3) (h4 : Strs w a4 b4 o4 s4) (hkey : ∀ s ∈ s1, s.size ≤ maxLen) :
    Calls Try.prog 4 #[.string f, .slice a1 s1.length c1, .slice a2 s2.length c2, .slice a3 s3.length c3, .slice a4 s4.length c4, .int .i64 kk] w fun e w' => e = .returned (.bool true) ∧ Below w.heap.size w w' := by
  go_enter Try.func4, Try.ntmps4
  go_wp2_with fail
  refine (zzBytes9_any f a1 b1 o1 c1 s1 a2 b2 o2 c2 s2 a3 b3 o3 c3 s3 a4 b4 o4 c4 s4 kk _ h1 h2 h3 h4).mono ?_
  rintro e w' ⟨⟨b, rfl, hb⟩, rfl⟩
  cases b
  · go_wp2
    go_ret
    exact ⟨rfl, Below.refl _ _⟩
  have hn := hb rfl
  clear hb
  go_wp2_with fail
  refine (batchBytes_any f a1 b1 o1 c1 s1 a2 b2 o2 c2 s2 a3 b3 o3 c3 s3 a4 b4 o4 c4 s4 _ h1 h2 h3 h4).mono ?_
  rintro e w' ⟨⟨tb, rfl⟩, rfl⟩
  by_cases htb : 1048576 < tb
  · go_wp2
    go_ret
    exact ⟨rfl, Below.refl _ _⟩
  by_cases hk0 : kk < 0
  · go_wp2
    go_ret
    exact ⟨rfl, Below.refl _ _⟩
  by_cases hkn : (s1.length : Int) < kk
  · go_wp2
    go_ret
    exact ⟨rfl, Below.refl _ _⟩
  obtain ⟨k, rfl⟩ := Int.eq_ofNat_of_zero_le (by omega : 0 ≤ kk)
  have hk : k ≤ s1.length := by omega
  have hki : (k : Int) ≤ (s1.length : Int) := by omega
  go_wp2_with fail
  refine (notes_any a1 b1 o1 c1 s1 a2 b2 o2 c2 s2 a3 b3 o3 c3 s3 a4 b4 o4 c4 s4 _ h1 h2 h3 h4 hn).mono ?_
  rintro e w1 ⟨rfl, hN, hbel1, hsz1⟩
  go_wp2_with fail
  have hkeyN : ∀ i, i < s1.length → (noteAt s1 s2 s3 s4 i).1.size ≤ maxLen := fun i hi => hkey _ (by simp [noteAt, List.getD, hi])
  obtain ⟨N, eN⟩ : ∃ N, N = noteAt s1 s2 s3 s4 := ⟨_, rfl⟩
  rw [← eN] at hN hkeyN
  clear eN
  refine (batch_any f w'.heap.size k s1.length N _ (fun i hi => hN i (by omega)) (fun i hi => hkeyN i (by omega)) (by omega)).mono ?_
  rintro e w2 ⟨aoA, cA, rfl, ⟨nvsA, hA⟩, hbel2, hsz2⟩
  go_wp2_with fail
  refine (batch_any f w'.heap.size s1.length s1.length N _ (fun i hi => (hN i hi).stays hbel2 hsz1) hkeyN hn).mono ?_
  rintro e w3 ⟨aoB, cB, rfl, ⟨nvsB, hB⟩, hbel3, hsz3⟩
  have hA3 := hA.stays hbel3
  have hext := Bat.ext_st N k (s1.length - k)
  rw [show k + (s1.length - k) = s1.length from by omega] at hext
  have hcnt := (Bat.inv_st N k).count
  have hszA := (Bat.inv_st N k).size
  have hszB := (Bat.inv_st N s1.length).size
  have hlenB := (Bat.inv_st N s1.length).len
  have hBel : Below w'.heap.size w' w3 := (hbel1.trans (hbel2.mono (by omega))).trans (hbel3.mono (by omega))
  obtain ⟨A, eA⟩ : ∃ A, A = (Bat.st N k).1 := ⟨_, rfl⟩
  obtain ⟨B, eB⟩ : ∃ B, B = (Bat.st N s1.length).1 := ⟨_, rfl⟩
  rw [← eA] at hA3 hext hcnt hszA ⊢
  rw [← eB] at hB hext hszB hlenB ⊢
  clear eA eB hA hN hkeyN hkey h1 h2 h3 h4 hbel1 hbel2 hbel3
  have hle : A.length ≤ B.length := hext.len
  have hle' : (A.length : Int) ≤ (B.length : Int) := by omega
  have hBn : (B.length : Int) ≤ 1048576 := by omega
  rcases Nat.eq_zero_or_pos A.length with hA0 | hApos
  · have hk00 : k = 0 := by
      rw [List.eq_nil_of_length_eq_zero hA0] at hcnt
      simpa [Bat.count] using hcnt.symm
    subst hk00
    have hA0' : (A.length : Int) = 0 := by omega
    go_wp2_with fail
    refine wp_loop_rounds 1 ?_
    rw [rounds_succ]
    go_wp2
    go_ret
    exact ⟨rfl, hBel⟩
  · obtain ⟨ga, rfl⟩ := hA3.addr hApos
    obtain ⟨gb, rfl⟩ := hB.addr (by omega)
    have hcl : ∀ q, Bat.count (A.take q) ≤ k := fun q => hcnt ▸ Bat.count_take_le A q
    have Hcl := hide hcl
    have Hcnt := hide hcnt
    have Hext := hide hext
    have HszA := hide hszA
    have HszB := hide hszB
    clear hcl hcnt hext hszA hszB hlenB
    go_wp2_with fail
    go_loopw [16, 17] (fun t i wr => ∃ q : Nat, q ≤ A.length ∧ i = .int .i64 q ∧ t = .int .i64 (Bat.count (A.take q) : Int) ∧ Below w3.heap.size w3 wr) (fun _ i _ => A.length - (intOf i).toNat)
    case atStart => exact ⟨0, Nat.zero_le _, rfl, rfl, Below.refl _ _⟩
    case round =>
      obtain ⟨q, hq, rfl, rfl, hbr⟩ := hrel
      have hcq := unhide Hcl q
      have hcq1 := unhide Hcl (q + 1)
      by_cases hlt : q < A.length
      · obtain ⟨m, hm⟩ : ∃ m, A[q]? = some m := ⟨A[q], List.getElem?_eq_getElem hlt⟩
        obtain ⟨m', hm', e1, l1, p1⟩ := (unhide Hext).get q m hm
        have hsm := unhide HszA q m hm
        have hsm' := unhide HszB q m' hm'
        obtain ⟨gai, cai, ka, na, hga, hgai⟩ := hA3.msg hm hsm.1
        obtain ⟨gbi, cbi, kb, nb, hgb, hgbi⟩ := hB.msg hm' hsm'.1
        have x2 := (hbr.cell (p := ⟨ga, q * 20 + 2, none⟩) hga).trans (ka 2 (by omega))
        have x3 := (hbr.cell (p := ⟨ga, q * 20 + 3, none⟩) hga).trans (ka 3 (by omega))
        have x19 := (hbr.cell (p := ⟨ga, q * 20 + 19, none⟩) hga).trans (ka 19 (by omega))
        have y2 := (hbr.cell (p := ⟨gb, q * 20 + 2, none⟩) hgb).trans (kb 2 (by omega))
        have y3 := (hbr.cell (p := ⟨gb, q * 20 + 3, none⟩) hgb).trans (kb 3 (by omega))
        have y19 := (hbr.cell (p := ⟨gb, q * 20 + 19, none⟩) hgb).trans (kb 19 (by omega))
        rw [e1] at y2 y3 y19
        simp [msgCells] at x2 x3 x19 y2 y3 y19
        have hct := Bat.count_take_succ A q m hm
        rw [hct] at hcq1
        have Hct := hide hct
        have Hna := hide na
        have Hnb := hide nb
        have Hp1 := hide p1
        have hq0 : (0 : Int) ≤ (q : Int) := Int.natCast_nonneg _
        have hq1 : (q : Int) < (A.length : Int) := by omega
        have hq2 : (q : Int) < (B.length : Int) := by omega
        have hd : decide ((m'.2.length : Int) < (m.2.length : Int)) = false := by simp; omega
        have ll : m.2.length ≤ 10000 := hsm.2
        have z19 := ka 19 (by omega)
        simp [msgCells] at z19
        have Z19 := hide z19
        have z19b := kb 19 (by omega)
        simp [msgCells] at z19b
        have Z19b := hide z19b
        clear z19 z19b hct na nb p1 ka kb e1 hm' hsm hsm'
        have Hm := hide hm
        clear hm
        go_wp2
        go_quiet (fail)
        go_wp2
        have hbr2 := below_dN hbr nq
        clear x2 x3 x19 y2 y3
        go_loopw [18] (fun j wx => ∃ p : Nat, p ≤ m.2.length ∧ j = .int .i64 p ∧ Below w3.heap.size w3 wx) (fun j _ => m.2.length - (intOf j).toNat)
        case atStart => exact ⟨0, Nat.zero_le _, rfl, hbr2⟩
        case round =>
          obtain ⟨p, hp, rfl, hbx⟩ := hrel
          have v19 : wr.cell? ⟨ga, q * 20 + 19, none⟩ = some (.slice (some ⟨gai, 0, none⟩) m.2.length cai) := (hbx.cell (p := ⟨ga, q * 20 + 19, none⟩) hga).trans (unhide Z19)
          by_cases hpl : p < m.2.length
          · obtain ⟨x, hx⟩ : ∃ x, m.2[p]? = some x := ⟨m.2[p], List.getElem?_eq_getElem hpl⟩
            have hx' : m'.2[p]? = some x := ((unhide Hp1) p hpl).trans hx
            have w19 : wr.cell? ⟨gb, q * 20 + 19, none⟩ = some (.slice (some ⟨gbi, 0, none⟩) m'.2.length cbi) := (hbx.cell (p := ⟨gb, q * 20 + 19, none⟩) hgb).trans (unhide Z19b)
            have na := ((unhide Hna) p x hx).stays hbx hgai
            have nb := ((unhide Hnb) p x hx').stays hbx hgbi
            have n0 := na.c0
            have n1 := na.c1
            have n2 := na.c2
            have k0 := nb.c0
            have k1 := nb.c1
            have k2 := nb.c2
            have hp0 : (0 : Int) ≤ (p : Int) := Int.natCast_nonneg _
            have hp1 : (p : Int) < (m.2.length : Int) := by omega
            have hp2 : (p : Int) < (m'.2.length : Int) := by omega
            clear na nb hx hx'
            go_wp2
            go_quiet (fail)
            go_wp2
            go_roundw
            case rel => exact ⟨p + 1, by omega, by go_num, below_dN hbx _⟩
            case measure => simp [intOf]; omega
          · go_wp2
            go_roundw
            case rel => exact ⟨q + 1, by omega, by go_num, by rw [unhide Hct]; go_num, hbx⟩
            case measure => simp [intOf]; omega
      · have hq' : q = A.length := by omega
        have hfin : ((Bat.count (A.take q) : Int) == (k : Int)) = true := by
          rw [beq_iff_eq, hq', List.take_length, unhide Hcnt]
        clear hq'
        go_wp2
        go_ret
        exact ⟨rfl, hBel.trans (hbr.mono (by omega))⟩
end Go.Proofs.Qxb6000535a
