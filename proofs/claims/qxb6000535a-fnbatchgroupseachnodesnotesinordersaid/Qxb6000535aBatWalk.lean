/- Batch (8): the walk. -/
import Derived.Test.Qxb6000535aBatRel
import Derived.Deep.RegionLaw
namespace Go.Proofs.Qxb6000535a
open Go.ChangeShapes Go.WideShapes Go.ChangeAt Go.RowKit
/-- Batch's answer: a slice that owns the messages; old memory is as it was. -/
def BatPost (f : ByteArray) (N : Nat → NtTo) (n : Nat) (w : World) (e : Ending) (w' : World) : Prop :=
  ∃ ao c, e = .returned (.slice ao (Bat.st N n).1.length c) ∧ (∃ nvs, MsOwn w' (w.heap.size + 1) f (.slice ao (Bat.st N n).1.length c) (Bat.st N n).1 nvs) ∧ Below w.heap.size w w' ∧ w.heap.size + 1 ≤ w'.heap.size
set_option maxRecDepth 100000 in
set_option maxHeartbeats 4000000 in
theorem batch_any (f : ByteArray) (nb n cap : Nat) (N : Nat → NtTo) (w : World) (hN : ∀ k, k < n → NoteAt w nb k (N k)) (hkey : ∀ k, k < n → (N k).1.size ≤ maxLen) (hn : n ≤ 1048576) :
    Calls Try.prog 8 #[.string f, .slice (some ⟨nb, 0, none⟩) n cap] w (BatPost f N n w) := by
  have hmm := @run_makeMap Try.prog
  obtain ⟨i41, hi41, hz41, hs41, hb41⟩ := info_parts info41
  obtain ⟨i33, hi33, hz33, hs33, hb33⟩ := info_parts info33
  go_enter Try.func8, Try.ntmps8
  go_wp2
  go_loopw [5, 14] (fun v i wr => ∃ (k : Nat) (ao : Option Addr) (cv : Nat), k ≤ n ∧ i = .int .i64 k ∧ v = .slice ao (Bat.st N k).1.length cv ∧ BatRel w wr f N k (.slice ao (Bat.st N k).1.length cv)) (fun _ i _ => n - (intOf i).toNat)
  case atStart => exact ⟨0, none, 0, Nat.zero_le _, rfl, rfl, BatRel.start w f N⟩
  case round =>
    obtain ⟨k, ao, cv, hk, rfl, rfl, hR⟩ := hrel
    clear hmm
    by_cases hlt : k < n
    · have hnt := hN k hlt
      have hnb : nb < w.heap.size := World.block_lt_of_cell? w _ hnt.c0
      have hnb' : nb < wr.heap.size := Nat.lt_of_lt_of_le hnb hR.below.size
      have c0 : wr.cell? ⟨nb, k * 4, none⟩ = some (.string (N k).1) := (hR.below.cell hnb).trans hnt.c0
      have c1 : wr.cell? ⟨nb, k * 4 + 1, none⟩ = some (.string (N k).2.1) := (hR.below.cell hnb).trans hnt.c1
      have c2 : wr.cell? ⟨nb, k * 4 + 2, none⟩ = some (.string (N k).2.2.1) := (hR.below.cell hnb).trans hnt.c2
      have c3 : wr.cell? ⟨nb, k * 4 + 3, none⟩ = some (.string (N k).2.2.2) := (hR.below.cell hnb).trans hnt.c3
      have hks := hkey k hlt
      have hsz := hR.size
      obtain ⟨D, hown, hD⟩ := hR.map
      obtain ⟨nvs, hM⟩ := hR.ms
      have hbel := hR.below
      have inv := Bat.inv_st N k
      have hst : Bat.st N (k + 1) = Bat.step (Bat.st N k) (N k) := rfl
      obtain ⟨s, es⟩ : ∃ s, s = Bat.st N k := ⟨_, rfl⟩
      have HN := hide (hst)
      clear hst hR hnt
      rw [← es] at hM inv hD HN ⊢
      have ES := hide es
      clear es
      obtain ⟨ms, last⟩ := s
      obtain ⟨x, ex⟩ : ∃ x, x = N k := ⟨_, rfl⟩
      rw [← ex] at c0 c1 c2 c3 hks HN
      have EX := hide ex
      clear ex
      obtain ⟨t, xn⟩ := x
      simp only at hM inv hD c0 c1 c2 c3 hks ⊢
      cases hl : last t with
      | none =>
        have hl1 : (asInts last t).getD 0 = 0 := by simp [asInts, hl]
        have hl2 : (asInts last t).isSome = false := by simp [asInts, hl]
        have ho : Bat.opens ms last t = true := by simp [Bat.opens, hl]
        obtain ⟨xs, hx, hxc⟩ := hM.row
        have hML : ms.length ≤ k := inv.len
        have hkm : k < maxLen := by unfold maxLen; omega
        have hwf : (Lit.int .i64 (ms.length : Int)).wf = true := WalkArith.wf_i64 (by omega)
        have hxne : (Value.slice ao ms.length cv).ownBlock = none ∨ (Value.slice ao ms.length cv).ownBlock ≠ some w.heap.size := by
          cases hq : (Value.slice ao ms.length cv).ownBlock with
          | none => exact .inl rfl
          | some g => right; intro e; simp at e; subst e; have := (hx.lt _ hq).1; omega
        have hxnt : (Value.slice ao ms.length cv).ownBlock ≠ some wr.heap.size := fun e => by have := (hx.lt _ e).2; omega
        have Hxc := hide hxc
        clear hxc hl
        go_wp2_with (first | (at_lookup; refine wpList_look _ rfl _ _ rfl w.heap.size k D (asInts last) rfl (hown.alloc _) hD t rfl hks 0 false hl1 hl2 ?_) | (at_mapUpdate; refine wpList_mark _ rfl _ _ _ rfl w.heap.size k D (asInts last) rfl (hown.alloc _) hD t rfl hks hkm (ms.length : Int) rfl hwf ?_; intro w2 D2 hown2 hD2 hg2; obtain ⟨hM2, hbel2, hsz2⟩ := marked (hM.alloc _) (hbel.alloc (by omega) _) (by simp; omega) hg2; have hq2 : Own4 w2 wr.heap.size t xn := (Own4.made wr t xn).grown hg2 (by simp; omega); have q0 := hq2.c0; have hx2 := (hx.alloc (.cells #[.string t, .string xn.1, .string xn.2.1, .string xn.2.2] 35)).kept hg2 hxne; have hsz2' : wr.heap.size + 1 ≤ w2.heap.size := by simpa using hsz2) | (at_builtin; refine wpList_append_lies _ rfl (.tmp 42) (.tmp 47) 27 rfl (w.heap.size + 1) 41 i41 _ 20 272 Try.underlying27 hi41 hz41 hs41 hb41 rfl (by omega) (.slice ao ms.length cv) ms.length xs rfl (hx2.alloc _) ⟨w2.heap.size, 0, none⟩ 1 1 (msgCells f t (.slice none 0 0)) rfl rfl (World.news_of_block (t := 41) (fr := (0, 0)) (cs := (msgCells f t (.slice none 0 0)).toArray) (heap_alloc_new w2 _)) (by simp [msgCells, Value.oneCell']) (by omega) (by unfold maxLen; omega) (by omega) (by simp; omega) (w2.heap.size + 1) (by simp) ?_; intro g2 c2' w3 hown3 hgrow3 hat3 hlt3))
        obtain ⟨hM3, hmap3, hbel3, hsz3, k19, kfz, hg2lt, hg2ge⟩ := opened hM2 hx2 (unhide Hxc) hown2 hbel2 (by omega) hown3 hgrow3
        have hq3 : Own4 w3 wr.heap.size t xn := (hq2.alloc _).grown hgrow3 hxnt
        have q1 := hq3.c1
        have q2 := hq3.c2
        have q3 := hq3.c3
        have hm3 : (ms ++ [(t, ([] : List Nt))])[ms.length]? = some (t, []) := by simp
        have hnv3 : (nvs ++ [Value.slice none 0 0]).getD ms.length undef = .slice none 0 0 := by simp [List.getD, ← hM2.len]
        have Hm3 := hide hm3
        have Hnv3 := hide hnv3
        have Hblk : Hid ((w3.alloc (.cells #[.string xn.1, .string xn.2.1, .string xn.2.2] 33)).drew.heap[w3.heap.size]? = some (.cells #[.string xn.1, .string xn.2.1, .string xn.2.2] 33 (0, 0))) := blk1 _ _
        have C19 : Hid ((w3.alloc (.cells #[.string xn.1, .string xn.2.1, .string xn.2.2] 33)).drew.cell? ⟨g2, ms.length * 20 + 19, none⟩ = some (.slice none 0 0)) := (cel_alloc1 _ _ _ hg2lt).trans k19
        have F19 : Hid ((w3.alloc (.cells #[.string xn.1, .string xn.2.1, .string xn.2.2] 33)).drew.frozen? ⟨g2, ms.length * 20 + 19, none⟩ = false) := (frz_alloc _ _ _ hg2lt).trans kfz
        have hnt3 : wr.heap.size < w3.heap.size := by omega
        have hib0 : (0 : Int) ≤ (ms.length : Int) := Int.natCast_nonneg _
        have hib1 : (ms.length : Int) < (ms.length : Int) + 1 := by omega
        clear hm3 hnv3 hown3 hgrow3 hat3 hlt3 hM2 hx2 hown2 hbel2 hg2 hq2 q0 hq3
        go_region_law ((refine step_append_lies _ (by rfl) _ _ _ (by rfl) (w.heap.size + 1) 33 i33 _ 3 48 Try.underlying39 hi33 hz33 hs33 hb33 rfl (by omega) (.slice none 0 0) 0 [] (by rfl) (World.ownsRow_nil _ _ _ _) ⟨w3.heap.size, 0, none⟩ 1 1 (ntCells xn) (by rfl) (by rfl) (World.news_of_block (cs := #[.string xn.1, .string xn.2.1, .string xn.2.2]) (t := 33) (fr := (0, 0)) (unhide Hblk)) (by simp [ntCells, Value.oneCell']) (by omega) (by unfold maxLen; omega) (by omega) (by simp; omega) (w3.heap.size + 1) (by simp) ?_; intro g cp w4 hown4 hgrow4 hat4 hlt4; have d1 : w4.cell? ⟨g2, ms.length * 20 + 19, none⟩ = some (.slice none 0 0) := (hgrow4.cell_far ⟨g2, ms.length * 20 + 19, none⟩ (by simp; omega) (by simp [Value.ownBlock])).trans (unhide C19); have d2 : w4.frozen? ⟨g2, ms.length * 20 + 19, none⟩ = false := (hgrow4.frozen_far ⟨g2, ms.length * 20 + 19, none⟩ (by simp; omega) (by simp [Value.ownBlock])).trans (unhide F19)))
        all_goals
          have P := pushed hM3 (unhide Hm3) (unhide Hnv3) (World.ownsRow_nil _ _ _ _) (fun j x hj => by simp at hj) hmap3 hbel3 (by omega) _ hown4 hgrow4 hat4
          obtain ⟨nvs', hM'⟩ := P.ms
          have R := BatRel.fresh (unhide ES) (unhide EX) ho hM' P.map hD2 P.below P.size
          have R' := hide R
          clear R P hM' hown4 hgrow4 hat4 hlt4 d1 d2
          go_wp2
          go_roundw
          case rel => exact ⟨k + 1, some ⟨g2, 0, none⟩, c2', by omega, by go_num, by rw [(unhide R').1], by rw [(unhide R').1]; exact (unhide R').2⟩
          case measure => simp [intOf]; omega
      | some i =>
        obtain ⟨m, hm, hmt⟩ := inv.last t i hl
        simp only at hm
        have hilt : i < ms.length := (List.getElem?_eq_some_iff.1 hm).1
        have hl1 : (asInts last t).getD 0 = (i : Int) := by simp [asInts, hl]
        have hl2 : (asInts last t).isSome = true := by simp [asInts, hl]
        have hms := inv.size i m hm
        obtain ⟨gv, rfl⟩ : ∃ g, ao = some ⟨g, 0, none⟩ := by
          obtain ⟨xs, hx, _⟩ := hM.row
          obtain ⟨ao', c', e, h'⟩ := ownsRow_shape hx
          simp at e
          obtain ⟨g, hg, _⟩ := h' (by omega)
          exact ⟨g, e.1.trans hg⟩
        obtain ⟨ys, hy, hyc⟩ := hM.notes i m hm
        obtain ⟨gi, ci, hnv⟩ : ∃ gi ci, nvs.getD i undef = .slice (some ⟨gi, 0, none⟩) m.2.length ci := by
          obtain ⟨g, c, e, _⟩ := hy.form (by omega)
          exact ⟨g, c, e⟩
        have c19 : wr.cell? ⟨gv, i * 20 + 19, none⟩ = some (.slice (some ⟨gi, 0, none⟩) m.2.length ci) := by
          rw [hM.at_ hm 19 (by omega), hnv]; rfl
        have hgv : gv < wr.heap.size := World.block_lt_of_cell? wr _ c19
        have hML : ms.length ≤ k := inv.len
        by_cases hfull : m.2.length = 10000
        · have hne : ((m.2.length : Int) == 10000) = true := by rw [beq_iff_eq]; omega
          have ho : Bat.opens ms last t = true := by simp [Bat.opens, hl, List.getD, hm, hfull]
          obtain ⟨xs, hx, hxc⟩ := hM.row
          have hkm : k < maxLen := by unfold maxLen; omega
          have hwf : (Lit.int .i64 (ms.length : Int)).wf = true := WalkArith.wf_i64 (by omega)
          have hxne : (Value.slice (some ⟨gv, 0, none⟩) ms.length cv).ownBlock = none ∨ (Value.slice (some ⟨gv, 0, none⟩) ms.length cv).ownBlock ≠ some w.heap.size := by
            right; intro e; simp [Value.ownBlock] at e; have := (hx.lt gv rfl).1; omega
          have hxnt : (Value.slice (some ⟨gv, 0, none⟩) ms.length cv).ownBlock ≠ some wr.heap.size := fun e => by have := (hx.lt _ e).2; omega
          have Hxc := hide hxc
          have hi0' : (0 : Int) ≤ (i : Int) := Int.natCast_nonneg _
          have hi1' : (i : Int) < (ms.length : Int) := by omega
          clear hxc hl hm hyc hy hnv
          go_wp2_with (first | (at_lookup; refine wpList_look _ rfl _ _ rfl w.heap.size k D (asInts last) rfl (hown.alloc _) hD t rfl hks (i : Int) true hl1 hl2 ?_) | (at_mapUpdate; refine wpList_mark _ rfl _ _ _ rfl w.heap.size k D (asInts last) rfl (hown.alloc _) hD t rfl hks hkm (ms.length : Int) rfl hwf ?_; intro w2 D2 hown2 hD2 hg2; obtain ⟨hM2, hbel2, hsz2⟩ := marked (hM.alloc _) (hbel.alloc (by omega) _) (by simp; omega) hg2; have hq2 : Own4 w2 wr.heap.size t xn := (Own4.made wr t xn).grown hg2 (by simp; omega); have q0 := hq2.c0; have hx2 := (hx.alloc (.cells #[.string t, .string xn.1, .string xn.2.1, .string xn.2.2] 35)).kept hg2 hxne; have hsz2' : wr.heap.size + 1 ≤ w2.heap.size := by simpa using hsz2) | (at_builtin; refine wpList_append_lies _ rfl (.tmp 42) (.tmp 47) 27 rfl (w.heap.size + 1) 41 i41 _ 20 272 Try.underlying27 hi41 hz41 hs41 hb41 rfl (by omega) (.slice (some ⟨gv, 0, none⟩) ms.length cv) ms.length xs rfl (hx2.alloc _) ⟨w2.heap.size, 0, none⟩ 1 1 (msgCells f t (.slice none 0 0)) rfl rfl (World.news_of_block (t := 41) (fr := (0, 0)) (cs := (msgCells f t (.slice none 0 0)).toArray) (heap_alloc_new w2 _)) (by simp [msgCells, Value.oneCell']) (by omega) (by unfold maxLen; omega) (by omega) (by simp; omega) (w2.heap.size + 1) (by simp) ?_; intro g2 c2' w3 hown3 hgrow3 hat3 hlt3))
          obtain ⟨hM3, hmap3, hbel3, hsz3, k19, kfz, hg2lt, hg2ge⟩ := opened hM2 hx2 (unhide Hxc) hown2 hbel2 (by omega) hown3 hgrow3
          have hq3 : Own4 w3 wr.heap.size t xn := (hq2.alloc _).grown hgrow3 hxnt
          have q1 := hq3.c1
          have q2 := hq3.c2
          have q3 := hq3.c3
          have hm3 : (ms ++ [(t, ([] : List Nt))])[ms.length]? = some (t, []) := by simp
          have hnv3 : (nvs ++ [Value.slice none 0 0]).getD ms.length undef = .slice none 0 0 := by simp [List.getD, ← hM2.len]
          have Hm3 := hide hm3
          have Hnv3 := hide hnv3
          have Hblk : Hid ((w3.alloc (.cells #[.string xn.1, .string xn.2.1, .string xn.2.2] 33)).drew.heap[w3.heap.size]? = some (.cells #[.string xn.1, .string xn.2.1, .string xn.2.2] 33 (0, 0))) := blk1 _ _
          have C19 : Hid ((w3.alloc (.cells #[.string xn.1, .string xn.2.1, .string xn.2.2] 33)).drew.cell? ⟨g2, ms.length * 20 + 19, none⟩ = some (.slice none 0 0)) := (cel_alloc1 _ _ _ hg2lt).trans k19
          have F19 : Hid ((w3.alloc (.cells #[.string xn.1, .string xn.2.1, .string xn.2.2] 33)).drew.frozen? ⟨g2, ms.length * 20 + 19, none⟩ = false) := (frz_alloc _ _ _ hg2lt).trans kfz
          have hnt3 : wr.heap.size < w3.heap.size := by omega
          have hib0 : (0 : Int) ≤ (ms.length : Int) := Int.natCast_nonneg _
          have hib1 : (ms.length : Int) < (ms.length : Int) + 1 := by omega
          clear hm3 hnv3 hown3 hgrow3 hat3 hlt3 hM2 hx2 hown2 hbel2 hg2 hq2 q0 hq3
          go_region_law ((refine step_append_lies _ (by rfl) _ _ _ (by rfl) (w.heap.size + 1) 33 i33 _ 3 48 Try.underlying39 hi33 hz33 hs33 hb33 rfl (by omega) (.slice none 0 0) 0 [] (by rfl) (World.ownsRow_nil _ _ _ _) ⟨w3.heap.size, 0, none⟩ 1 1 (ntCells xn) (by rfl) (by rfl) (World.news_of_block (cs := #[.string xn.1, .string xn.2.1, .string xn.2.2]) (t := 33) (fr := (0, 0)) (unhide Hblk)) (by simp [ntCells, Value.oneCell']) (by omega) (by unfold maxLen; omega) (by omega) (by simp; omega) (w3.heap.size + 1) (by simp) ?_; intro g cp w4 hown4 hgrow4 hat4 hlt4; have d1 : w4.cell? ⟨g2, ms.length * 20 + 19, none⟩ = some (.slice none 0 0) := (hgrow4.cell_far ⟨g2, ms.length * 20 + 19, none⟩ (by simp; omega) (by simp [Value.ownBlock])).trans (unhide C19); have d2 : w4.frozen? ⟨g2, ms.length * 20 + 19, none⟩ = false := (hgrow4.frozen_far ⟨g2, ms.length * 20 + 19, none⟩ (by simp; omega) (by simp [Value.ownBlock])).trans (unhide F19)))
          all_goals
            have P := pushed hM3 (unhide Hm3) (unhide Hnv3) (World.ownsRow_nil _ _ _ _) (fun j x hj => by simp at hj) hmap3 hbel3 (by omega) _ hown4 hgrow4 hat4
            obtain ⟨nvs', hM'⟩ := P.ms
            have R := BatRel.fresh (unhide ES) (unhide EX) ho hM' P.map hD2 P.below P.size
            have R' := hide R
            clear R P hM' hown4 hgrow4 hat4 hlt4 d1 d2
            go_wp2
            go_roundw
            case rel => exact ⟨k + 1, some ⟨g2, 0, none⟩, c2', by omega, by go_num, by rw [(unhide R').1], by rw [(unhide R').1]; exact (unhide R').2⟩
            case measure => simp [intOf]; omega
        · have hne : ((m.2.length : Int) == 10000) = false := by rw [beq_eq_false_iff_ne]; omega
          go_wp2_with (at_lookup; refine wpList_look _ rfl _ _ rfl w.heap.size k D (asInts last) rfl (hown.alloc _) hD t rfl hks (i : Int) true hl1 hl2 ?_)
          rw [hnv] at hy
          have hgi := hy.lt gi rfl
          have hgig : gi ≠ gv := by
            obtain ⟨xs, hx, _⟩ := hM.row
            rcases rows_ne hy hx (by decide) with h' | h'
            · simp [Value.ownBlock] at h'
            · intro e; subst e; exact h' rfl
          have hfz := hM.free (i * 20 + 19)
          have hfz1 : (wr.alloc (.cells #[.string t, .string xn.1, .string xn.2.1, .string xn.2.2] 35)).frozen? ⟨gv, i * 20 + 19, none⟩ = false := (frz_alloc _ _ _ hgv).trans hfz
          have hfz2 : ((wr.alloc (.cells #[.string t, .string xn.1, .string xn.2.1, .string xn.2.2] 35)).alloc (.cells #[.string xn.1, .string xn.2.1, .string xn.2.2] 33)).frozen? ⟨gv, i * 20 + 19, none⟩ = false := (frz_alloc _ _ _ (by simp; omega)).trans hfz1
          have Hblk : Hid (((wr.alloc (.cells #[.string t, .string xn.1, .string xn.2.1, .string xn.2.2] 35)).alloc (.cells #[.string xn.1, .string xn.2.1, .string xn.2.2] 33)).drew.heap[wr.heap.size + 1]? = some (.cells #[.string xn.1, .string xn.2.1, .string xn.2.2] 33 (0, 0))) := blk2 _ _ _
          have C19 : Hid (((wr.alloc (.cells #[.string t, .string xn.1, .string xn.2.1, .string xn.2.2] 35)).alloc (.cells #[.string xn.1, .string xn.2.1, .string xn.2.2] 33)).drew.cell? ⟨gv, i * 20 + 19, none⟩ = some (.slice (some ⟨gi, 0, none⟩) m.2.length ci)) := (cel_alloc2 _ _ _ _ hgv).trans c19
          have hi0' : (0 : Int) ≤ (i : Int) := Int.natCast_nonneg _
          have hi1' : (i : Int) < (ms.length : Int) := by omega
          have hlen5 : m.2.length + 1 ≤ 10001 := by omega
          go_region_law ((refine step_append_lies _ (by rfl) _ _ _ (by rfl) (w.heap.size + 1) 33 i33 _ 3 48 Try.underlying39 hi33 hz33 hs33 hb33 rfl (by omega) (.slice (some ⟨gi, 0, none⟩) m.2.length ci) m.2.length ys (by rfl) (((hy.alloc _).alloc _).drew) ⟨wr.heap.size + 1, 0, none⟩ 1 1 (ntCells xn) (by rfl) (by rfl) (World.news_of_block (cs := #[.string xn.1, .string xn.2.1, .string xn.2.2]) (t := 33) (fr := (0, 0)) (unhide Hblk)) (by simp [ntCells, Value.oneCell']) (by omega) (by unfold maxLen; omega) (by omega) (by simp; omega) (wr.heap.size + 2) (by simp) ?_; intro g cp w1 hown1 hgrow hat hlt1; have d1 : w1.cell? ⟨gv, i * 20 + 19, none⟩ = some (.slice (some ⟨gi, 0, none⟩) m.2.length ci) := (hgrow.cell_far ⟨gv, i * 20 + 19, none⟩ (by simp; omega) (by simp [Value.ownBlock]; omega)).trans (unhide C19); have d2 : w1.frozen? ⟨gv, i * 20 + 19, none⟩ = false := (hgrow.frozen_far ⟨gv, i * 20 + 19, none⟩ (by simp; omega) (by simp [Value.ownBlock]; omega)).trans hfz2))
          all_goals
            have P := pushed (hM.alloc _) hm hnv (hy.alloc _) hyc (hown.alloc _) (hbel.alloc (by omega) _) (by simp; omega) _ hown1 hgrow (by simpa using hat)
            obtain ⟨nvs', hM'⟩ := P.ms
            have R := BatRel.same (unhide ES) (unhide EX) hl hm hfull hM' P.map hD P.below P.size
            have R' := hide R
            clear R P hM' hown1 hgrow hat hlt1 d1
            go_wp2
            go_roundw
            case rel => exact ⟨k + 1, some ⟨gv, 0, none⟩, cv, by omega, by go_num, by rw [(unhide R').1], by rw [(unhide R').1]; exact (unhide R').2⟩
            case measure => simp [intOf]; omega
    · have e : k = n := by omega
      subst e
      go_wp2
      go_ret
      exact ⟨ao, cv, rfl, hR.ms, hR.below, hR.size⟩
end Go.Proofs.Qxb6000535a
