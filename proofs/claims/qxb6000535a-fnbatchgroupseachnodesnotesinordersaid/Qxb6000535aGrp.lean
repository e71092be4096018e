/- FnBatchGroupsEachNodesNotesInOrder (3): the walk. -/
import Derived.Test.Qxb6000535aZz
import Derived.Test.Qxb6000535aBatWalk
import Derived.Test.Qxb6000535aGrpRel
import Derived.Deep.CutRange
namespace Go.Proofs.Qxb6000535a
open Go.ChangeShapes Go.WideShapes Go.ChangeAt Go.RowKit

theorem info3 : (Try.prog.info? 3).map (fun i => (i.zero, i.size, i.bytes)) = some (some (.int .i64 0), 1, 8) := by kernel_rfl

set_option maxRecDepth 100000 in
set_option maxHeartbeats 8000000 in
theorem grp_any (f : ByteArray) (a1 : Option Addr) (b1 o1 c1 : Nat) (s1 : List ByteArray) (a2 : Option Addr) (b2 o2 c2 : Nat) (s2 : List ByteArray) (a3 : Option Addr) (b3 o3 c3 : Nat) (s3 : List ByteArray) (a4 : Option Addr) (b4 o4 c4 : Nat) (s4 : List ByteArray) (w : World) (h1 : Strs w a1 b1 o1 s1) (h2 : Strs w a2 b2 o2 s2) (h3 : Strs w a3 b3 o3 s3) (h4 : Strs w a4 b4 o4 s4) (hkey : ∀ s ∈ s1, s.size ≤ maxLen) :
    Calls Try.prog 3 #[.string f, .slice a1 s1.length c1, .slice a2 s2.length c2, .slice a3 s3.length c3, .slice a4 s4.length c4] w fun e w' => e = .returned (.bool true) ∧ Below w.heap.size w w' := by
  have hmm := @run_makeMap Try.prog
  obtain ⟨i3, hi3, hz3, hs3, hb3⟩ := info_parts info3
  go_enter Try.func3, Try.ntmps3
  go_wp2_with fail
  refine (zzBytes5_any f a1 b1 o1 c1 s1 a2 b2 o2 c2 s2 a3 b3 o3 c3 s3 a4 b4 o4 c4 s4 _ h1 h2 h3 h4).mono ?_
  rintro e w' ⟨⟨b, rfl, hb⟩, rfl⟩
  cases b
  · go_wp2
    go_ret
    exact ⟨rfl, Below.refl _ _⟩
  have hn := hb rfl
  clear hb
  go_wp2_with fail
  refine (batchBytes_any f a1 b1 o1 c1 s1 a2 b2 o2 c2 s2 a3 b3 o3 c3 s3 a4 b4 o4 c4 s4 _ h1 h2 h3 h4).mono ?_
  rintro e w' ⟨⟨tb, rfl⟩, rfl⟩
  by_cases htb : 1048576 < tb
  · go_wp2
    go_ret
    exact ⟨rfl, Below.refl _ _⟩
  go_wp2_with fail
  refine (notes_any a1 b1 o1 c1 s1 a2 b2 o2 c2 s2 a3 b3 o3 c3 s3 a4 b4 o4 c4 s4 _ h1 h2 h3 h4 hn).mono ?_
  rintro e w1 ⟨rfl, hN, hbel1, hsz1⟩
  go_wp2_with fail
  have hkeyN : ∀ i, i < s1.length → (noteAt s1 s2 s3 s4 i).1.size ≤ maxLen := fun i hi => hkey _ (by simp [noteAt, List.getD, hi])
  obtain ⟨N, eN⟩ : ∃ N, N = noteAt s1 s2 s3 s4 := ⟨_, rfl⟩
  rw [← eN] at hN hkeyN
  clear eN
  refine (batch_any f w'.heap.size s1.length s1.length N _ hN hkeyN hn).mono ?_
  rintro e w2 ⟨aoA, cA, rfl, ⟨nvsA, hA⟩, hbel2, hsz2⟩
  have hN2 : ∀ i, i < s1.length → NoteAt w2 w'.heap.size i (N i) := fun i hi => (hN i hi).stays hbel2 hsz1
  have hBel2 : Below w'.heap.size w' w2 := hbel1.trans (hbel2.mono (by omega))
  have hb02 : w'.heap.size < w2.heap.size := by omega
  obtain ⟨n, en⟩ : ∃ n, n = s1.length := ⟨_, rfl⟩
  obtain ⟨L, eL⟩ : ∃ L, L = (Bat.st N s1.length).1.length := ⟨_, rfl⟩
  rw [← eL] at hA ⊢
  have EL := hide eL
  clear eL
  rw [← en] at hA hn hN2 hkeyN EL ⊢
  have HN2 := hide hN2
  have Hkey := hide hkeyN
  clear en hN hkey hkeyN hN2 h1 h2 h3 h4 hbel1 hbel2 hsz1 hsz2
  go_wp2_with (at_make; refine wpList_make_full _ rfl _ _ 29 rfl w2.heap.size 3 i3 _ 1 Try.underlying29 hi3 hz3 hs3 _ _ _ _ n rfl rfl rfl rfl (by rw [hb3]; omega) (by unfold maxLen; omega) (Nat.le_refl _) ?_; intro w3 hrow3 hgrow3)
  have hR0 : Rel1 w2 (w3.alloc (.map #[] 0)) w3.heap.size N n n := Rel1.start hrow3 hgrow3
  clear hrow3 hgrow3
  go_loopw [16] (fun i wr => ∃ e : Nat, e ≤ n ∧ i = .int .i64 ((e : Int) - 1) ∧ Rel1 w2 wr w3.heap.size N n e) (fun i _ => (intOf i + 1).toNat)
  case atStart => exact ⟨n, Nat.le_refl _, rfl, hR0⟩
  case round =>
    obtain ⟨e, he, rfl, hR⟩ := hrel
    clear hR0
    cases e with
    | succ e =>
      rw [show (((e + 1 : Nat) : Int) - 1) = (e : Int) from by omega]
      have hbc := hR.bc
      have hNe := unhide HN2 e (by omega)
      have c0 : wr.cell? ⟨w'.heap.size, e * 4, none⟩ = some (.string (N e).1) := (hR.below.cell hb02).trans hNe.c0
      have hks := unhide Hkey e (by omega)
      obtain ⟨u, hu⟩ := hR.there (j := e) (by omega)
      have hfz := hR.free e
      obtain ⟨D, hmap, hD⟩ := hR.map
      have HR := hide hR
      clear hR hNe hmm
      obtain ⟨t, et⟩ : ∃ t, t = (N e).1 := ⟨_, rfl⟩
      rw [← et] at c0 hks
      have ET := hide et
      clear et
      have hne2 : w3.heap.size ≠ w2.heap.size := by omega
      have hne3 : w'.heap.size ≠ w2.heap.size := by omega
      have hkm : n - (e + 1) < maxLen := by unfold maxLen; omega
      have hwf : (Lit.int .i64 (e : Int)).wf = true := WalkArith.wf_i64 (by omega)
      have hi0 : (0 : Int) ≤ (e : Int) := Int.natCast_nonneg _
      have hi1 : (e : Int) < (n : Int) := by omega
      cases hfr : Pos.from_ N n (e + 1) t with
      | none =>
        have hl1 : (Pos.asInt (Pos.from_ N n (e + 1)) t).getD 0 = 0 := by simp [Pos.asInt, hfr]
        have hl2 : (Pos.asInt (Pos.from_ N n (e + 1)) t).isSome = false := by simp [Pos.asInt, hfr]
        have hnx : Pos.nx N n e = (-1) := by unfold Pos.nx; rw [← unhide ET, hfr]; rfl
        have Hnx := hide hnx
        clear hnx hfr
        go_wp2_with (first | (at_lookup; refine wpList_look _ rfl _ _ rfl w3.heap.size (n - (e + 1)) D (Pos.asInt (Pos.from_ N n (e + 1))) rfl hmap hD t rfl hks 0 false hl1 hl2 ?_) | (at_mapUpdate; refine wpList_mark _ rfl _ _ _ rfl w3.heap.size (n - (e + 1)) D (Pos.asInt (Pos.from_ N n (e + 1))) rfl (hmap.setCell (a := ⟨w2.heap.size, e, none⟩) hne2 _) hD t rfl hks hkm (e : Int) rfl hwf ?_; intro w4 D4 hmap4 hD4 hg4))
        have hg5 := hg4
        rw [← unhide Hnx] at hg5
        have hR' : Rel1 w2 w4 w3.heap.size N n e := Rel1.next (unhide HR) he hmap4 (by rw [← unhide ET]; exact hD4) hg5
        clear hmap4 hD4 hg4 hg5
        go_wp2
        go_roundw
        case rel => exact ⟨e, by omega, rfl, hR'⟩
        case measure => simp [intOf]
      | some p =>
        have hl1 : (Pos.asInt (Pos.from_ N n (e + 1)) t).getD 0 = (p : Int) := by simp [Pos.asInt, hfr]
        have hl2 : (Pos.asInt (Pos.from_ N n (e + 1)) t).isSome = true := by simp [Pos.asInt, hfr]
        have hnx : Pos.nx N n e = (p : Int) := by unfold Pos.nx; rw [← unhide ET, hfr]; rfl
        have Hnx := hide hnx
        clear hnx hfr
        go_wp2_with (first | (at_lookup; refine wpList_look _ rfl _ _ rfl w3.heap.size (n - (e + 1)) D (Pos.asInt (Pos.from_ N n (e + 1))) rfl hmap hD t rfl hks (p : Int) true hl1 hl2 ?_) | (at_mapUpdate; refine wpList_mark _ rfl _ _ _ rfl w3.heap.size (n - (e + 1)) D (Pos.asInt (Pos.from_ N n (e + 1))) rfl (hmap.setCell (a := ⟨w2.heap.size, e, none⟩) hne2 _) hD t rfl hks hkm (e : Int) rfl hwf ?_; intro w4 D4 hmap4 hD4 hg4))
        have hg5 := hg4
        rw [← unhide Hnx] at hg5
        have hR' : Rel1 w2 w4 w3.heap.size N n e := Rel1.next (unhide HR) he hmap4 (by rw [← unhide ET]; exact hD4) hg5
        clear hmap4 hD4 hg4 hg5
        go_wp2
        go_roundw
        case rel => exact ⟨e, by omega, rfl, hR'⟩
        case measure => simp [intOf]
    | zero =>
      rw [show (((0 : Nat) : Int) - 1) = -1 from rfl]
      go_wp2_with fail
      obtain ⟨W, rfl⟩ : ∃ W, W = wr := ⟨wr, rfl⟩
      have hNW : ∀ j, j < n → NoteAt W w'.heap.size j (N j) := fun j hj => (unhide HN2 j hj).stays hR.below hb02
      have hMW := hA.stays hR.below
      have hnxW := hR.done
      obtain ⟨D1, hf1, hD1⟩ := hR.map
      have hW0 : Below w'.heap.size w' W := hBel2.trans (hR.below.mono (by omega))
      have hs1 := hR.bc
      have hs2 := hf1.lt
      have hcnt := (Bat.inv_st N n).count
      have hlen : L ≤ n := (unhide EL) ▸ (Bat.inv_st N n).len
      have hst := Pos.real_st N n
      have hst1 : (Bat.st N n).1 = (Pos.st N n).1.map (Pos.real N) := by rw [hst]
      have HNW := hide hNW
      have HnxW := hide hnxW
      have Hst := hide hst1
      have Hcnt := hide hcnt
      have R20 := Rel2.start W N n
      clear hNW hnxW hst hst1 hcnt hR hA HN2 hBel2 hmm
      rcases Nat.eq_zero_or_pos L with hL0 | hLpos
      · have hn0 : n = 0 := by
          have h1 := unhide EL
          rw [hL0] at h1
          have h2 := unhide Hcnt
          rw [List.eq_nil_of_length_eq_zero h1.symm] at h2
          simpa [Bat.count] using h2.symm
        have hL0' : (L : Int) = 0 := by omega
        have hfin : ((0 : Int) == (n : Int)) = true := by rw [beq_iff_eq]; omega
        clear R20 hL0 hn0
        refine wp_loop_rounds 1 ?_
        rw [rounds_succ]
        go_wp2
        go_ret
        exact ⟨rfl, (hW0.alloc (by omega) _).alloc (by simp; omega) _⟩
      · obtain ⟨gv, rfl⟩ := hMW.addr (by rw [← unhide EL]; exact hLpos)
        go_loopw [21, 22, 23] (fun ps tot i wx => ∃ mi : Nat, mi ≤ L ∧ i = .int .i64 mi ∧ ps = .int .i64 (Pos.prevStart (Pos.st N n).1 mi) ∧ tot = .int .i64 (Bat.count ((Bat.st N n).1.take mi) : Int) ∧ Rel2 W wx N n mi) (fun _ _ i _ => L - (intOf i).toNat)
        case atStart => exact ⟨0, Nat.zero_le _, rfl, rfl, rfl, R20⟩
        case round =>
          clear R20
          obtain ⟨mi, hmi, rfl, rfl, rfl, hR⟩ := hrel
          have hcl : Bat.count ((Bat.st N n).1.take mi) ≤ n := by have := Bat.count_take_le (Bat.st N n).1 mi; rw [unhide Hcnt] at this; exact this
          by_cases hlt : mi < L
          · obtain ⟨m, hm⟩ : ∃ m, (Pos.st N n).1[mi]? = some m := by
              have hl : mi < (Pos.st N n).1.length := by
                have := unhide EL
                rw [unhide Hst, List.length_map] at this
                omega
              exact ⟨(Pos.st N n).1[mi], List.getElem?_eq_getElem hl⟩
            have hAm : (Bat.st N n).1[mi]? = some (Pos.real N m) := by rw [unhide Hst, List.getElem?_map, hm]; rfl
            obtain ⟨p0, hp0, hp0n, hp0t, hcase⟩ := Pos.begins hm
            have hrise := Pos.prevStart_lt hm hp0
            have hsz := (Pos.inv_st N n).size mi m hm
            have hrl : (Pos.real N m).2.length = m.2.length := by simp [Pos.real]
            obtain ⟨gi, ci, kc, nc, hgvl, hgil⟩ := hMW.msg hAm (by omega)
            rw [hrl] at kc
            have hct := Bat.count_take_succ _ mi _ hAm
            rw [hrl] at hct
            have hbr := hR.below
            have hrng : wr.rangeAt gv (mi * 20) (msgCells f m.1 (.slice (some ⟨gi, 0, none⟩) m.2.length ci)) := fun j v hv => by
              have hj : j < 20 := (List.getElem?_eq_some_iff.1 hv).1
              rw [hbr.cell (p := ⟨gv, mi * 20 + j, none⟩) hgvl, kc j hj]
              exact hv
            obtain ⟨Dc, hoc, hDc⟩ := hR.cur
            obtain ⟨Dl, hol, hDl⟩ := hR.lens
            have hof := ownsMap_below hf1 hbr hs2
            have hks : m.1.size ≤ maxLen := hp0t ▸ unhide Hkey p0 hp0n
            have hne0 : ((m.2.length : Int) == 0) = false := by rw [beq_eq_false_iff_ne]; omega
            have hle : (m.2.length : Int) ≤ 10000 := by omega
            have hi0 : (0 : Int) ≤ (mi : Int) := Int.natCast_nonneg _
            have hi1 : (mi : Int) < (L : Int) := by omega
            have hp00 : (0 : Int) ≤ (p0 : Int) := Int.natCast_nonneg _
            have hsz2 := hR.size
            have Hm := hide hm
            have Hct := hide hct
            have Hp0 := hide hp0
            have Hnc := hide nc
            have HR := hide hR
            have Hp0t := hide hp0t
            clear hm hct hp0 nc hR hAm kc hrl hp0t
            obtain ⟨ps, eps⟩ : ∃ ps, ps = Pos.prevStart (Pos.st N n).1 mi := ⟨_, rfl⟩
            rw [← eps] at hrise ⊢
            have Eps := hide eps
            clear eps
            have hd1 : decide ((p0 : Int) < 0) = false := by simp
            have hd2 : decide ((p0 : Int) ≤ ps) = false := by simp; omega
            rcases hcase with ⟨hcu, hle1, hfi⟩ | ⟨hcu, hle1⟩
            · have q1 : (Pos.curF N n (Pos.st N n).1 mi m.1).getD 0 = 0 := by rw [hcu]; rfl
              have q2 : (Pos.curF N n (Pos.st N n).1 mi m.1).isSome = false := by rw [hcu]; rfl
              have q3 : (Pos.asInt (Pos.from_ N n 0) m.1).getD 0 = (p0 : Int) := by simp [Pos.asInt, hfi]
              have q4 : (Pos.asInt (Pos.from_ N n 0) m.1).isSome = true := by simp [Pos.asInt, hfi]
              clear hcu hle1 hfi
              go_upto_region 26 with (first | (refine wpList_load_msg rfl (.tmp 98) rfl gv (mi * 20) rfl f m.1 (.slice (some ⟨gi, 0, none⟩) m.2.length ci) hrng ?_) | (refine wpList_store_msg rfl (.tmp 24) (.tmp 99) rfl _ f m.1 (.slice (some ⟨gi, 0, none⟩) m.2.length ci) rfl rfl rfl rfl ?_; intro wm hown20 hgm hsm; have z0 := hown20.c0; have z1 := hown20.c1; have z2 := hown20.c2; have z3 := hown20.c3; have z19 := hown20.c19))
              go_wp2_with (first | (at_lookup; refine wpList_look _ rfl (.tmp 125) (.tmp 127) rfl W.heap.size mi Dc (Pos.curF N n (Pos.st N n).1 mi) rfl (hoc.kept hgm (by simp)) hDc m.1 rfl hks 0 false q1 q2 ?_) | (at_lookup; refine wpList_look _ rfl (.tmp 134) (.tmp 136) rfl w3.heap.size (n - 0) D1 (Pos.asInt (Pos.from_ N n 0)) rfl (hof.kept hgm (by simp)) hD1 m.1 rfl hks (p0 : Int) true q3 q4 ?_))
              have hbm : Below W.heap.size W wm := hbr.grown hgm hbr.size (fun k hk => by cases hk)
              have hocm := hoc.kept hgm (by simp)
              have holm := hol.kept hgm (by simp)
              have hWm : W.heap.size + 2 ≤ wm.heap.size := by omega
              have hB0 : w'.heap.size < W.heap.size := by omega
              have hB1 : w2.heap.size < W.heap.size := by omega
              have hwfc := cur_wf (unhide Hm) hn
              have hkm : mi < maxLen := by unfold maxLen; omega
              have hwfl : (Lit.int .i64 (m.2.length : Int)).wf = true := WalkArith.wf_i64 (by omega)
              obtain ⟨B5, eB5⟩ : ∃ B5, B5 = wr.heap.size := ⟨_, rfl⟩
              rw [← eB5] at z3 z19 hsm hsz2 ⊢
              clear z0 z1 z2 hoc hol hof hrng hd1 hd2 hne0 hown20 eB5
              go_loopw [25, 29] (fun c k wx => ∃ a : Nat, a ≤ m.2.length ∧ k = .int .i64 a ∧ c = .int .i64 (Pos.curAt N n m a) ∧ Below wm.heap.size wm wx) (fun _ k _ => m.2.length - (intOf k).toNat)
              case atStart => exact ⟨0, Nat.zero_le _, rfl, by rw [Pos.curAt_lt (unhide Hp0)], Below.refl _ _⟩
              case round =>
                obtain ⟨a, ha, rfl, rfl, hbx⟩ := hrel
                have v19 : wr.cell? ⟨B5, 19, none⟩ = some (.slice (some ⟨gi, 0, none⟩) m.2.length ci) := (hbx.cell (p := ⟨B5, 19, none⟩) hsm).trans z19
                by_cases hal : a < m.2.length
                · obtain ⟨p, hp⟩ : ∃ p, m.2[a]? = some p := ⟨m.2[a], List.getElem?_eq_getElem hal⟩
                  have helt := (Pos.inv_st N n).elt mi m (unhide Hm) a p hp
                  have hnext := Pos.curAt_next (unhide Hm) hp
                  have hnote := ((unhide HNW p helt.1).stays hbm hB0).stays hbx (by omega)
                  have hx : (Pos.real N m).2[a]? = some (N p).2 := by simp [Pos.real, hp]
                  have hnt := ((unhide Hnc a _ hx).stays hbm hgil).stays hbx (by omega)
                  have hnxc := (hbx.cell (p := ⟨w2.heap.size, p, none⟩) (by show w2.heap.size < wm.heap.size; omega)).trans ((hbm.cell (p := ⟨w2.heap.size, p, none⟩) hB1).trans (unhide HnxW p helt.1))
                  have e1 := hnote.c1
                  have e2 := hnote.c2
                  have e3 := hnote.c3
                  have g0 := hnt.c0
                  have g1 := hnt.c1
                  have g2 := hnt.c2
                  have hp00' : (0 : Int) ≤ (p : Int) := Int.natCast_nonneg _
                  have hpn : (p : Int) < (n : Int) := by have := helt.1; omega
                  have ha0 : (0 : Int) ≤ (a : Int) := Int.natCast_nonneg _
                  have ha1 : (a : Int) < (m.2.length : Int) := by omega
                  have hdd : decide ((p : Int) < 0) = false := by simp
                  rw [hnext] at hnxc
                  rw [Pos.curAt_lt hp]
                  clear helt hnext hnote hx hnt hp
                  go_wp2
                  go_quiet (fail)
                  go_wp2
                  go_roundw
                  case rel => exact ⟨a + 1, by omega, by go_num, rfl, below_dN hbx _⟩
                  case measure => simp [intOf]; omega
                · have ea : a = m.2.length := by omega
                  subst ea
                  have v3 : wr.cell? ⟨B5, 3, none⟩ = some (.string m.1) := (hbx.cell (p := ⟨B5, 3, none⟩) hsm).trans z3
                  have hocx := ownsMap_below hocm hbx (by omega)
                  have holx := ownsMap_below holm hbx (by omega)
                  have hszx := hbx.size
                  have hbWx : Below W.heap.size W wr := hbm.trans (hbx.mono (by omega))
                  go_wp2_with (first | (at_mapUpdate; refine wpList_mark _ rfl (.tmp 182) (.tmp 184) (.tmp 185) rfl W.heap.size mi Dc (Pos.curF N n (Pos.st N n).1 mi) rfl hocx hDc m.1 rfl hks hkm (Pos.curAt N n m m.2.length) rfl hwfc ?_; intro w6 D6 ho6 hD6 hg6; have u3 : w6.cell? ⟨B5, 3, none⟩ = some (.string m.1) := (hg6.cell_far ⟨B5, 3, none⟩ (Nat.lt_of_lt_of_le hsm hszx) (by simp; omega)).trans v3; have u19 : w6.cell? ⟨B5, 19, none⟩ = some (.slice (some ⟨gi, 0, none⟩) m.2.length ci) := (hg6.cell_far ⟨B5, 19, none⟩ (Nat.lt_of_lt_of_le hsm hszx) (by simp; omega)).trans v19; have ho6l := holx.kept hg6 (by simp)) | (at_mapUpdate; refine wpList_mark _ rfl (.tmp 186) (.tmp 188) (.tmp 191) rfl (W.heap.size + 1) mi Dl (Pos.lenF (Pos.st N n).1 mi) rfl ho6l hDl m.1 rfl hks hkm (m.2.length : Int) rfl hwfl ?_; intro w7 D7 ho7 hD7 hg7; have t19 : w7.cell? ⟨B5, 19, none⟩ = some (.slice (some ⟨gi, 0, none⟩) m.2.length ci) := (hg7.cell_far ⟨B5, 19, none⟩ (Nat.lt_of_lt_of_le (Nat.lt_of_lt_of_le hsm hszx) hg6.size) (by simp; omega)).trans u19))
                  have R := Rel2.next (unhide Hm) hbWx (by omega) ho6 hD6 hg6 ho7 hD7 hg7
                  have hps := Pos.prevStart_step (unhide Hm) (unhide Hp0)
                  have HR7 := hide R
                  have Hps := hide hps
                  clear R hps ho6 hD6 hg6 ho7 hD7 hg7 ho6l u3 u19 t19 v3 v19 hocx holx
                  go_wp2
                  go_roundw
                  case rel => exact ⟨mi + 1, by omega, by go_num, by rw [unhide Hps], by rw [unhide Hct]; go_num, unhide HR7⟩
                  case measure => simp [intOf]; omega
            · have q1 : (Pos.curF N n (Pos.st N n).1 mi m.1).getD 0 = (p0 : Int) := by rw [hcu]; rfl
              have q2 : (Pos.curF N n (Pos.st N n).1 mi m.1).isSome = true := by rw [hcu]; rfl
              have q3 : (Pos.lenF (Pos.st N n).1 mi m.1).getD 0 = 10000 := by rw [hle1]; rfl
              clear hcu hle1
              go_upto_region 26 with (first | (refine wpList_load_msg rfl (.tmp 98) rfl gv (mi * 20) rfl f m.1 (.slice (some ⟨gi, 0, none⟩) m.2.length ci) hrng ?_) | (refine wpList_store_msg rfl (.tmp 24) (.tmp 99) rfl _ f m.1 (.slice (some ⟨gi, 0, none⟩) m.2.length ci) rfl rfl rfl rfl ?_; intro wm hown20 hgm hsm; have z0 := hown20.c0; have z1 := hown20.c1; have z2 := hown20.c2; have z3 := hown20.c3; have z19 := hown20.c19))
              go_wp2_with (first | (at_lookup; refine wpList_look _ rfl (.tmp 125) (.tmp 127) rfl W.heap.size mi Dc (Pos.curF N n (Pos.st N n).1 mi) rfl (hoc.kept hgm (by simp)) hDc m.1 rfl hks (p0 : Int) true q1 q2 ?_) | (at_lookup; refine wpList_look1 _ rfl (.tmp 143) (.tmp 145) rfl (W.heap.size + 1) mi Dl (Pos.lenF (Pos.st N n).1 mi) rfl (hol.kept hgm (by simp)) hDl m.1 rfl hks 10000 q3 ?_))
              have hbm : Below W.heap.size W wm := hbr.grown hgm hbr.size (fun k hk => by cases hk)
              have hocm := hoc.kept hgm (by simp)
              have holm := hol.kept hgm (by simp)
              have hWm : W.heap.size + 2 ≤ wm.heap.size := by omega
              have hB0 : w'.heap.size < W.heap.size := by omega
              have hB1 : w2.heap.size < W.heap.size := by omega
              have hwfc := cur_wf (unhide Hm) hn
              have hkm : mi < maxLen := by unfold maxLen; omega
              have hwfl : (Lit.int .i64 (m.2.length : Int)).wf = true := WalkArith.wf_i64 (by omega)
              obtain ⟨B5, eB5⟩ : ∃ B5, B5 = wr.heap.size := ⟨_, rfl⟩
              rw [← eB5] at z3 z19 hsm hsz2 ⊢
              clear z0 z1 z2 hoc hol hof hrng hd1 hd2 hne0 hown20 eB5
              go_loopw [25, 29] (fun c k wx => ∃ a : Nat, a ≤ m.2.length ∧ k = .int .i64 a ∧ c = .int .i64 (Pos.curAt N n m a) ∧ Below wm.heap.size wm wx) (fun _ k _ => m.2.length - (intOf k).toNat)
              case atStart => exact ⟨0, Nat.zero_le _, rfl, by rw [Pos.curAt_lt (unhide Hp0)], Below.refl _ _⟩
              case round =>
                obtain ⟨a, ha, rfl, rfl, hbx⟩ := hrel
                have v19 : wr.cell? ⟨B5, 19, none⟩ = some (.slice (some ⟨gi, 0, none⟩) m.2.length ci) := (hbx.cell (p := ⟨B5, 19, none⟩) hsm).trans z19
                by_cases hal : a < m.2.length
                · obtain ⟨p, hp⟩ : ∃ p, m.2[a]? = some p := ⟨m.2[a], List.getElem?_eq_getElem hal⟩
                  have helt := (Pos.inv_st N n).elt mi m (unhide Hm) a p hp
                  have hnext := Pos.curAt_next (unhide Hm) hp
                  have hnote := ((unhide HNW p helt.1).stays hbm hB0).stays hbx (by omega)
                  have hx : (Pos.real N m).2[a]? = some (N p).2 := by simp [Pos.real, hp]
                  have hnt := ((unhide Hnc a _ hx).stays hbm hgil).stays hbx (by omega)
                  have hnxc := (hbx.cell (p := ⟨w2.heap.size, p, none⟩) (by show w2.heap.size < wm.heap.size; omega)).trans ((hbm.cell (p := ⟨w2.heap.size, p, none⟩) hB1).trans (unhide HnxW p helt.1))
                  have e1 := hnote.c1
                  have e2 := hnote.c2
                  have e3 := hnote.c3
                  have g0 := hnt.c0
                  have g1 := hnt.c1
                  have g2 := hnt.c2
                  have hp00' : (0 : Int) ≤ (p : Int) := Int.natCast_nonneg _
                  have hpn : (p : Int) < (n : Int) := by have := helt.1; omega
                  have ha0 : (0 : Int) ≤ (a : Int) := Int.natCast_nonneg _
                  have ha1 : (a : Int) < (m.2.length : Int) := by omega
                  have hdd : decide ((p : Int) < 0) = false := by simp
                  rw [hnext] at hnxc
                  rw [Pos.curAt_lt hp]
                  clear helt hnext hnote hx hnt hp
                  go_wp2
                  go_quiet (fail)
                  go_wp2
                  go_roundw
                  case rel => exact ⟨a + 1, by omega, by go_num, rfl, below_dN hbx _⟩
                  case measure => simp [intOf]; omega
                · have ea : a = m.2.length := by omega
                  subst ea
                  have v3 : wr.cell? ⟨B5, 3, none⟩ = some (.string m.1) := (hbx.cell (p := ⟨B5, 3, none⟩) hsm).trans z3
                  have hocx := ownsMap_below hocm hbx (by omega)
                  have holx := ownsMap_below holm hbx (by omega)
                  have hszx := hbx.size
                  have hbWx : Below W.heap.size W wr := hbm.trans (hbx.mono (by omega))
                  go_wp2_with (first | (at_mapUpdate; refine wpList_mark _ rfl (.tmp 182) (.tmp 184) (.tmp 185) rfl W.heap.size mi Dc (Pos.curF N n (Pos.st N n).1 mi) rfl hocx hDc m.1 rfl hks hkm (Pos.curAt N n m m.2.length) rfl hwfc ?_; intro w6 D6 ho6 hD6 hg6; have u3 : w6.cell? ⟨B5, 3, none⟩ = some (.string m.1) := (hg6.cell_far ⟨B5, 3, none⟩ (Nat.lt_of_lt_of_le hsm hszx) (by simp; omega)).trans v3; have u19 : w6.cell? ⟨B5, 19, none⟩ = some (.slice (some ⟨gi, 0, none⟩) m.2.length ci) := (hg6.cell_far ⟨B5, 19, none⟩ (Nat.lt_of_lt_of_le hsm hszx) (by simp; omega)).trans v19; have ho6l := holx.kept hg6 (by simp)) | (at_mapUpdate; refine wpList_mark _ rfl (.tmp 186) (.tmp 188) (.tmp 191) rfl (W.heap.size + 1) mi Dl (Pos.lenF (Pos.st N n).1 mi) rfl ho6l hDl m.1 rfl hks hkm (m.2.length : Int) rfl hwfl ?_; intro w7 D7 ho7 hD7 hg7; have t19 : w7.cell? ⟨B5, 19, none⟩ = some (.slice (some ⟨gi, 0, none⟩) m.2.length ci) := (hg7.cell_far ⟨B5, 19, none⟩ (Nat.lt_of_lt_of_le (Nat.lt_of_lt_of_le hsm hszx) hg6.size) (by simp; omega)).trans u19))
                  have R := Rel2.next (unhide Hm) hbWx (by omega) ho6 hD6 hg6 ho7 hD7 hg7
                  have hps := Pos.prevStart_step (unhide Hm) (unhide Hp0)
                  have HR7 := hide R
                  have Hps := hide hps
                  clear R hps ho6 hD6 hg6 ho7 hD7 hg7 ho6l u3 u19 t19 v3 v19 hocx holx
                  go_wp2
                  go_roundw
                  case rel => exact ⟨mi + 1, by omega, by go_num, by rw [unhide Hps], by rw [unhide Hct]; go_num, unhide HR7⟩
                  case measure => simp [intOf]; omega
          · have emi : mi = L := by omega
            have hfin : ((Bat.count ((Bat.st N n).1.take mi) : Int) == (n : Int)) = true := by
              rw [beq_iff_eq, emi, unhide EL, List.take_length, unhide Hcnt]
            have hbW := hR.below
            clear emi hR
            go_wp2
            go_ret
            exact ⟨rfl, hW0.trans (hbW.mono (by omega))⟩
end Go.Proofs.Qxb6000535a
