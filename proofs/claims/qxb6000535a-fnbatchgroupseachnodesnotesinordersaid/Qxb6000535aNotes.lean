/- zzNotes (7): note i out of the four lists; where it lies. -/
import Derived.Test.Qxb6000535aArgs
import Derived.Test.Qxb6000535aBat
import Derived.OwnWalk
import Derived.Laws.OwnMore
namespace Go.Proofs.Qxb6000535a
open Go.ChangeShapes Go.WideShapes Go.ChangeAt Go.RowKit

def noteAt (s1 s2 s3 s4 : List ByteArray) (k : Nat) : NtTo := (s1.getD k .empty, s2.getD k .empty, s3.getD k .empty, s4.getD k .empty)

/-- Block g holds the note x as its element k (four cells each). -/
structure NoteAt (w : World) (g k : Nat) (x : NtTo) : Prop where
  c0 : w.cell? ⟨g, k * 4, none⟩ = some (.string x.1)
  c1 : w.cell? ⟨g, k * 4 + 1, none⟩ = some (.string x.2.1)
  c2 : w.cell? ⟨g, k * 4 + 2, none⟩ = some (.string x.2.2.1)
  c3 : w.cell? ⟨g, k * 4 + 3, none⟩ = some (.string x.2.2.2)

/-- What holds when k notes are laid. -/
structure NotesRel (w wr : World) (N : Nat → NtTo) (n k : Nat) : Prop where
  own : ∃ xs, wr.ownsRow w.heap.size 35 4 (.slice (some ⟨w.heap.size, 0, none⟩) n n) n xs
  done : ∀ i, i < k → NoteAt wr w.heap.size i (N i)
  below : Below w.heap.size w wr
  size : w.heap.size < wr.heap.size

theorem NotesRel.there {w wr : World} {N : Nat → NtTo} {n k i : Nat} (h : NotesRel w wr N n k) (hi : i < n) :
    (∃ u, wr.cell? ⟨w.heap.size, i * 4, none⟩ = some u) ∧ (∃ u, wr.cell? ⟨w.heap.size, i * 4 + 1, none⟩ = some u) ∧ (∃ u, wr.cell? ⟨w.heap.size, i * 4 + 2, none⟩ = some u) ∧ (∃ u, wr.cell? ⟨w.heap.size, i * 4 + 3, none⟩ = some u) := by
  obtain ⟨xs, hown⟩ := h.own
  have hx : ∀ j, j < n * 4 → ∃ u, wr.cell? ⟨w.heap.size, j, none⟩ = some u := fun j hj => by
    rw [hown.cellAt j hj]
    exact ⟨xs[j]'(by rw [hown.1]; exact hj), List.getElem?_eq_getElem _⟩
  exact ⟨hx _ (by omega), hx _ (by omega), hx _ (by omega), hx _ (by omega)⟩
theorem NotesRel.free {w wr : World} {N : Nat → NtTo} {n k : Nat} (h : NotesRel w wr N n k) (j : Nat) : wr.frozen? ⟨w.heap.size, j, none⟩ = false := by
  obtain ⟨xs, hown⟩ := h.own
  exact hown.frozenAt j

/-- The world behind one round: the note's four cells in the row, and its own block. -/
def noteWorld (w wr : World) (k : Nat) (x : NtTo) : World :=
  ((((wr.setCell ⟨w.heap.size, k * 4, none⟩ (.string x.1)).setCell ⟨w.heap.size, k * 4 + 1, none⟩ (.string x.2.1)).setCell ⟨w.heap.size, k * 4 + 2, none⟩ (.string x.2.2.1)).setCell ⟨w.heap.size, k * 4 + 3, none⟩ (.string x.2.2.2)).alloc (.cells #[.string x.1, .string x.2.1, .string x.2.2.1, .string x.2.2.2] 35)

theorem NotesRel.next {w wr : World} {N : Nat → NtTo} {n k : Nat} (h : NotesRel w wr N n k) (hk : k < n) (x : NtTo) (hx : x = N k) : NotesRel w (noteWorld w wr k x) N n (k + 1) := by
  obtain ⟨xs, hown⟩ := h.own
  have q1 := hown.stored (k * 4) (.string x.1)
  have q2 := q1.1.stored (k * 4 + 1) (.string x.2.1)
  have q3 := q2.1.stored (k * 4 + 2) (.string x.2.2.1)
  have q4 := q3.1.stored (k * 4 + 3) (.string x.2.2.2)
  have q5 := q4.1.alloc (.cells #[.string x.1, .string x.2.1, .string x.2.2.1, .string x.2.2.2] 35)
  have hl := hown.1
  have hcells : ∀ j, j < n * 4 → (noteWorld w wr k x).cell? ⟨w.heap.size, j, none⟩ = _ := fun j hj => q5.cellAt j hj
  refine ⟨⟨_, q5⟩, fun i hi => ?_, ?_, ?_⟩
  · by_cases e : i = k
    · subst e
      subst hx
      refine ⟨?_, ?_, ?_, ?_⟩ <;> rw [hcells _ (by omega)] <;> simp [List.getElem?_set, hl] <;> omega
    · have old := h.done i (by omega)
      have o0 := old.c0
      have o1 := old.c1
      have o2 := old.c2
      have o3 := old.c3
      rw [hown.cellAt _ (by omega)] at o0 o1 o2 o3
      refine ⟨?_, ?_, ?_, ?_⟩
      · rw [hcells _ (by omega), List.getElem?_set_ne (by omega), List.getElem?_set_ne (by omega), List.getElem?_set_ne (by omega), List.getElem?_set_ne (by omega)]; exact o0
      · rw [hcells _ (by omega), List.getElem?_set_ne (by omega), List.getElem?_set_ne (by omega), List.getElem?_set_ne (by omega), List.getElem?_set_ne (by omega)]; exact o1
      · rw [hcells _ (by omega), List.getElem?_set_ne (by omega), List.getElem?_set_ne (by omega), List.getElem?_set_ne (by omega), List.getElem?_set_ne (by omega)]; exact o2
      · rw [hcells _ (by omega), List.getElem?_set_ne (by omega), List.getElem?_set_ne (by omega), List.getElem?_set_ne (by omega), List.getElem?_set_ne (by omega)]; exact o3
  · have b4 := (((h.below.setCell (p := ⟨w.heap.size, k * 4, none⟩) (Nat.le_refl _) (.string x.1)).setCell (p := ⟨w.heap.size, k * 4 + 1, none⟩) (Nat.le_refl _) (.string x.2.1)).setCell (p := ⟨w.heap.size, k * 4 + 2, none⟩) (Nat.le_refl _) (.string x.2.2.1)).setCell (p := ⟨w.heap.size, k * 4 + 3, none⟩) (Nat.le_refl _) (.string x.2.2.2)
    exact b4.alloc b4.size _
  · have := h.size
    show w.heap.size < (noteWorld w wr k x).heap.size
    simp [noteWorld]
    omega

theorem Strs.step {w wr : World} {ao : Option Addr} {b off : Nat} {ss : List ByteArray} (h : Strs w ao b off ss) (hb : Below w.heap.size w wr) (k cap : Nat) (t : ByteArray) (ht : t = ss.getD k .empty) :
    (k < ss.length ∧ (∀ w', (Instr.indexAt 22 (.slice ao ss.length cap) (.int .i64 (k : Int))).run Try.prog w' = .ok (.pointer (some ⟨b, off + k, none⟩)) w') ∧ wr.cell? ⟨b, off + k, none⟩ = some (.string t) ∧ b < wr.heap.size) ∨ (¬ k < ss.length ∧ t = ByteArray.empty) := by
  by_cases hlt : k < ss.length
  · refine .inl ⟨hlt, fun w' => h.index hlt cap w', ?_⟩
    have hb1 : b < w.heap.size := World.block_lt_of_cell? w _ (h.cell k hlt)
    rw [ht]
    exact ⟨(hb.cell hb1).trans (h.cell k hlt), Nat.lt_of_lt_of_le hb1 hb.size⟩
  · refine .inr ⟨hlt, ?_⟩
    rw [ht]; simp [List.getD, List.getElem?_eq_none (Nat.le_of_not_lt hlt)]

theorem info35 : (Try.prog.info? 35).map (fun i => (i.zero, i.size, i.bytes)) = some (some (.agg #[.string .empty, .string .empty, .string .empty, .string .empty]), 4, 64) := by kernel_rfl

set_option maxRecDepth 100000 in
set_option maxHeartbeats 4000000 in
theorem notes_any (a1 : Option Addr) (b1 o1 c1 : Nat) (s1 : List ByteArray) (a2 : Option Addr) (b2 o2 c2 : Nat) (s2 : List ByteArray) (a3 : Option Addr) (b3 o3 c3 : Nat) (s3 : List ByteArray) (a4 : Option Addr) (b4 o4 c4 : Nat) (s4 : List ByteArray)
    (w : World) (h1 : Strs w a1 b1 o1 s1) (h2 : Strs w a2 b2 o2 s2) (h3 : Strs w a3 b3 o3 s3) (h4 : Strs w a4 b4 o4 s4) (hn : s1.length ≤ 1048576) :
    Calls Try.prog 7 #[.slice a1 s1.length c1, .slice a2 s2.length c2, .slice a3 s3.length c3, .slice a4 s4.length c4] w fun e w' =>
      e = .returned (.slice (some ⟨w.heap.size, 0, none⟩) s1.length s1.length) ∧ (∀ k, k < s1.length → NoteAt w' w.heap.size k (noteAt s1 s2 s3 s4 k)) ∧ Below w.heap.size w w' ∧ w.heap.size < w'.heap.size := by
  obtain ⟨i0, hi, hz0, hz1, hz2⟩ := info_parts info35
  go_enter Try.func7, Try.ntmps7
  go_wp2_with (at_make; refine wpList_make_full _ rfl _ _ 25 rfl w.heap.size 35 i0 _ 4 Try.underlying25 hi hz0 hz1 _ _ _ _ s1.length rfl rfl rfl rfl ?_ ?_ ?_ ?_)
  · rw [hz2]; omega
  · unfold maxLen; omega
  · exact Nat.le_refl _
  · intro w1 hown hgrow
    have hrel0 : NotesRel w w1 (noteAt s1 s2 s3 s4) s1.length 0 := by
      refine ⟨⟨_, hown⟩, fun i hi => by omega, (Below.refl _ _).grown hgrow (Nat.le_refl _) (fun k h => by cases h), ?_⟩
      exact (hown.lt _ rfl).2
    clear hown hgrow
    go_wp2
    go_loopw [10, 11] (fun i _ wr => ∃ k : Nat, k ≤ s1.length ∧ i = .int .i64 k ∧ NotesRel w wr (noteAt s1 s2 s3 s4) s1.length k) (fun i _ _ => s1.length - (intOf i).toNat)
    case atStart => exact ⟨0, Nat.zero_le _, rfl, hrel0⟩
    case round =>
      clear hrel0
      obtain ⟨k, hk, rfl, hR⟩ := hrel
      by_cases hlt : k < s1.length
      · have hix1 := fun w' => h1.index hlt c1 w'
        have hb1 : b1 < w.heap.size := World.block_lt_of_cell? w _ (h1.cell k hlt)
        have hc1 : wr.cell? ⟨b1, o1 + k, none⟩ = some (.string (s1.getD k .empty)) := (hR.below.cell hb1).trans (h1.cell k hlt)
        have hb1' : b1 < wr.heap.size := Nat.lt_of_lt_of_le hb1 hR.below.size
        obtain ⟨e0, e1, e2, e3⟩ := hR.there hlt
        obtain ⟨u0, e0⟩ := e0
        obtain ⟨u1, e1⟩ := e1
        obtain ⟨u2, e2⟩ := e2
        obtain ⟨u3, e3⟩ := e3
        have hf := hR.free
        have hsz := hR.size
        obtain ⟨t1, E1⟩ : ∃ t1, t1 = s1.getD k .empty := ⟨_, rfl⟩
        rw [← E1] at hc1
        obtain ⟨t2, E2⟩ : ∃ t2, t2 = s2.getD k .empty := ⟨_, rfl⟩
        obtain ⟨t3, E3⟩ : ∃ t3, t3 = s3.getD k .empty := ⟨_, rfl⟩
        obtain ⟨t4, E4⟩ : ∃ t4, t4 = s4.getD k .empty := ⟨_, rfl⟩
        have hstep := hR.next hlt (t1, t2, t3, t4) (by rw [E1, E2, E3, E4]; rfl)
        have HS := hide hstep
        clear hstep E1
        have g2 := h2.step hR.below k c2 t2 E2
        have g3 := h3.step hR.below k c3 t3 E3
        have g4 := h4.step hR.below k c4 t4 E4
        clear E2 E3 E4 hR
        rcases g2 with ⟨l2, hix2, hc2, hb2⟩ | ⟨l2, rfl⟩ <;> rcases g3 with ⟨l3, hix3, hc3, hb3⟩ | ⟨l3, rfl⟩ <;> rcases g4 with ⟨l4, hix4, hc4, hb4⟩ | ⟨l4, rfl⟩
        all_goals
          go_wp2
          go_roundw
          case rel => exact ⟨k + 1, by omega, by go_num, unhide HS⟩
          case measure => simp [intOf]; omega
      · have e : k = s1.length := by omega
        subst e
        go_wp2
        go_ret
        exact ⟨rfl, hR.done, hR.below, hR.size⟩
end Go.Proofs.Qxb6000535a
