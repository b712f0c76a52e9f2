/- Memory while a dict is written. -/
import Derived.Test.YtjbpphomlmlmaaaGreatDoorQG3
import Derived.Sort.OwnSorted
namespace Go.Proofs.YtjbpphomlmlmaaaGreatDoor
open Go.RowKit
set_option linter.unusedVariables false
set_option linter.unusedSimpArgs false
/-- Rows that no write into a buffer turns. -/
def SideM (M : List (Nat × Obj)) : Prop := ∀ k o, (k, o) ∈ M → ∃ c t fz, o = .cells c t fz ∧ t ≠ 5 ∧ t ≠ 134
structure LM (w0 : World) (q : Nat) (M : List (Nat × Obj)) (acc : List UInt8) (w : World) : Prop where
  side : SideM M
  bel : Below w0.heap.size w0 w
  rows : ∀ k o, (k, o) ∈ M → w.heap[k]? = some o
  buf : Lib.IsBuffer 134 5 w0.heap.size q (Lib.byteCells acc) w
theorem LM.lt {w0 w : World} {q : Nat} {M : List (Nat × Obj)} {acc : List UInt8} (h : LM w0 q M acc w) {k : Nat} {o : Obj} (hm : (k, o) ∈ M) : k < w.heap.size := (Array.getElem?_eq_some_iff.1 (h.rows k o hm)).1
theorem LM.below {w0 w w' : World} {q : Nat} {M : List (Nat × Obj)} {acc : List UInt8} (h : LM w0 q M acc w) (hb : Below w.heap.size w w') : LM w0 q M acc w' :=
  ⟨h.side, h.bel.trans (hb.mono h.bel.size), fun k o hm => (hb.block k (h.lt hm)).trans (h.rows k o hm), h.buf.old hb⟩
theorem LM.ne {w0 w : World} {q : Nat} {M : List (Nat × Obj)} {acc : List UInt8} (h : LM w0 q M acc w) {k : Nat} {o : Obj} (hm : (k, o) ∈ M) : k ≠ q := by
  rintro rfl
  obtain ⟨_, v, lr, hq, _⟩ := h.buf
  obtain ⟨c, t, fz, rfl, _, ht⟩ := h.side _ _ hm
  rw [h.rows _ _ hm] at hq
  simp at hq
  exact ht hq.2.1
theorem LM.keep {w0 w w' : World} {q : Nat} {M : List (Nat × Obj)} {acc acc' : List UInt8} (h : LM w0 q M acc w) (hb : Lib.IsBuffer 134 5 w0.heap.size q (Lib.byteCells acc') w') (hbel : Below w0.heap.size w w') (ho : Lib.OthersKept 5 (some q) w w') : LM w0 q M acc' w' := by
  refine ⟨h.side, h.bel.trans hbel, fun k o hm => ho k o (h.rows k o hm) (fun hc => h.ne hm (by simpa using hc)) ?_, hb⟩
  intro c fz hc
  obtain ⟨c', t, fz', rfl, ht, _⟩ := h.side _ _ hm
  simp at hc
  exact ht hc.2.1
theorem LM.str {w0 w : World} {q : Nat} {M : List (Nat × Obj)} {acc : List UInt8} (h : LM w0 q M acc w) (s : List UInt8) (hl : acc.length + s.length ≤ 140737488355328) :
    Calls Tryz.prog 84 #[.pointer (some ⟨q, 0, none⟩), .string ⟨s.toArray⟩] w fun e w' => (∃ m, e = .returned (.tuple #[m, .nilIface])) ∧ LM w0 q M (acc ++ s) w' := by
  refine (Tryz.Buffer_WriteString_kept _ q _ ⟨s.toArray⟩ w h.buf h.bel.size (byte_cells_one acc) (by rw [Lib.byteCells_length]; exact hl)).mono ?_
  rintro e w' ⟨rfl, hb, hbel, ho⟩
  refine ⟨⟨_, rfl⟩, h.keep ?_ hbel ho⟩
  simpa [Lib.byteCells] using hb
theorem LM.chr {w0 w : World} {q : Nat} {M : List (Nat × Obj)} {acc : List UInt8} (h : LM w0 q M acc w) (c : UInt8) (hl : acc.length + 1 ≤ 140737488355328) :
    Calls Tryz.prog 85 #[.pointer (some ⟨q, 0, none⟩), .int .u8 (c.toNat : Int)] w fun e w' => e = .returned .nilIface ∧ LM w0 q M (acc ++ [c]) w' := by
  refine (Tryz.Buffer_WriteByte_kept _ q _ (c.toNat : Int) w h.buf h.bel.size (byte_cells_one acc) (by rw [Lib.byteCells_length]; exact hl)).mono ?_
  rintro e w' ⟨rfl, hb, hbel, ho⟩
  refine ⟨rfl, h.keep ?_ hbel ho⟩
  simpa [Lib.byteCells] using hb
theorem LM.reset {w0 w : World} {q : Nat} {M : List (Nat × Obj)} {acc : List UInt8} (h : LM w0 q M acc w) :
    Calls Tryz.prog 88 #[.pointer (some ⟨q, 0, none⟩)] w fun e w' => e = .returned (.tuple #[]) ∧ LM w0 q M [] w' := by
  refine (Tryz.Buffer_Reset_kept _ q _ w h.buf).mono ?_
  rintro e w' ⟨rfl, hb, hbel, ho⟩
  exact ⟨rfl, h.keep hb hbel ho⟩
theorem LM.text {w0 w : World} {q : Nat} {M : List (Nat × Obj)} {acc : List UInt8} (h : LM w0 q M acc w) :
    Calls Tryz.prog 86 #[.pointer (some ⟨q, 0, none⟩)] w fun e w' => e = .returned (.string ⟨acc.toArray⟩) ∧ LM w0 q M acc w' := by
  refine (Tryz.Buffer_String _ q acc w h.buf).mono ?_
  rintro e w' ⟨rfl, n, rfl⟩
  exact ⟨rfl, h.below (below_drewN (Below.refl _ _) n)⟩
/-- One more row. -/
theorem LM.more {w0 w : World} {q : Nat} {M : List (Nat × Obj)} {acc : List UInt8} (h : LM w0 q M acc w) {k : Nat} {c : Array Value} {t : TypeId} {fz : Nat × Nat} (hk : w.heap[k]? = some (.cells c t fz)) (h5 : t ≠ 5) (h134 : t ≠ 134) : LM w0 q ((k, .cells c t fz) :: M) acc w := by
  refine ⟨?_, h.bel, ?_, h.buf⟩
  · intro k' o hm
    rcases List.mem_cons.1 hm with hm | hm
    · cases hm; exact ⟨_, _, _, rfl, h5, h134⟩
    · exact h.side _ _ hm
  · intro k' o hm
    rcases List.mem_cons.1 hm with hm | hm
    · cases hm; exact hk
    · exact h.rows _ _ hm
theorem LM.less {w0 w : World} {q : Nat} {M M' : List (Nat × Obj)} {acc : List UInt8} (h : LM w0 q M acc w) (hs : ∀ x ∈ M', x ∈ M) : LM w0 q M' acc w :=
  ⟨fun k o hm => h.side _ _ (hs _ hm), h.bel, fun k o hm => h.rows _ _ (hs _ hm), h.buf⟩
/-- A store into a row of texts. -/
theorem LM.put {w0 w : World} {q r : Nat} {M : List (Nat × Obj)} {acc : List UInt8} {cs : Array Value} (h : LM w0 q ((r, .cells cs 9 (0, 0)) :: M) acc w) (hr : w0.heap.size ≤ r) (hM : ∀ k o, (k, o) ∈ M → k ≠ r) (i : Nat) (v : Value) :
    LM w0 q ((r, .cells (cs.setIfInBounds i v) 9 (0, 0)) :: M) acc (w.setCell ⟨r, i, none⟩ v) := by
  have hrow := h.rows r _ (List.mem_cons_self ..)
  have hrq : r ≠ q := h.ne (List.mem_cons_self ..)
  have hne : ∀ k, k ≠ r → (w.setCell ⟨r, i, none⟩ v).heap[k]? = w.heap[k]? := fun k hk => Below.heap_setCell w ⟨r, i, none⟩ v k hk
  have h1 : (w.setCell ⟨r, i, none⟩ v).heap[r]? = some (.cells (cs.setIfInBounds i v) 9 (0, 0)) := Lib.heap_setCell_same (i := i) hrow v
  have hbel : Below w0.heap.size w (w.setCell ⟨r, i, none⟩ v) := (Below.refl _ w).setCell (p := ⟨r, i, none⟩) hr _
  have hbuf : Lib.IsBuffer 134 5 w0.heap.size q (Lib.byteCells acc) (w.setCell ⟨r, i, none⟩ v) := by
    obtain ⟨hB, v0, lr, hbk, hown, hnq⟩ := h.buf
    refine ⟨hB, v0, lr, (hne q (Ne.symm hrq)).trans hbk, ?_, hnq⟩
    refine own_keep' hown fun k hk => hne k ?_
    rintro rfl
    rcases hown.2 with ⟨rfl, _⟩ | ⟨g, cap, cur, rfl, _, hg, _⟩
    · simp [Value.ownBlock] at hk
    · simp [Value.ownBlock] at hk
      subst hk
      rw [hrow] at hg
      simp at hg
  refine LM.more ⟨fun k o hm => h.side _ _ (List.mem_cons_of_mem _ hm), h.bel.trans hbel, fun k o hm => (hne k (hM k o hm)).trans (h.rows _ _ (List.mem_cons_of_mem _ hm)), hbuf⟩ h1 (by decide) (by decide)
/-- Behind the sort. -/
theorem LM.sorted {w0 w w' : World} {q r n : Nat} {os : Array Obj} {M : List (Nat × Obj)} {acc : List UInt8} {cs : Array Value} {d : Array (List UInt8)} (h : LM w0 q ((r, .cells cs 9 (0, 0)) :: M) acc w) (hr : w0.heap.size ≤ r) (hM : ∀ k o, (k, o) ∈ M → k ≠ r)
    (hw' : w' = Sort.grow (Sort.putRow encStr (Sort.ahead w n) r 0 d) os) :
    LM w0 q ((r, .cells (Sort.putCells encStr 0 d cs) 9 (0, 0)) :: M) acc w' := by
  have hrow := h.rows r _ (List.mem_cons_self ..)
  have hrq : r ≠ q := h.ne (List.mem_cons_self ..)
  have hg : w.grownBy w' (some r) := by rw [hw']; exact grownBy_sorted d
  have hlt : ∀ k o, (k, o) ∈ M → w'.heap[k]? = some o := fun k o hm => (hg.block k (h.lt (List.mem_cons_of_mem _ hm)) (fun hc => hM k o hm (by simpa using hc))).trans (h.rows _ _ (List.mem_cons_of_mem _ hm))
  have h1 : w'.heap[r]? = some (.cells (Sort.putCells encStr 0 d cs) 9 (0, 0)) := by rw [hw']; exact heap_sorted d hrow
  have hbel : Below w0.heap.size w0 w' := h.bel.grown hg h.bel.size (by intro k hk; cases hk; exact hr)
  have hbuf : Lib.IsBuffer 134 5 w0.heap.size q (Lib.byteCells acc) w' := by
    have hlq := h.buf.lt
    obtain ⟨hB, v0, lr, hbk, hown, hnq⟩ := h.buf
    refine ⟨hB, v0, lr, (hg.block q hlq (fun hc => hrq (by simpa using hc.symm))).trans hbk, hown.kept hg ?_, hnq⟩
    rcases hown.2 with ⟨rfl, _⟩ | ⟨g, cap, cur, rfl, _, hg2, _⟩
    · exact .inl rfl
    · right
      intro hc
      obtain rfl : g = r := by simpa [Value.ownBlock] using hc
      rw [hrow] at hg2
      simp at hg2
  exact LM.more ⟨fun k o hm => h.side _ _ (List.mem_cons_of_mem _ hm), hbel, hlt, hbuf⟩ h1 (by decide) (by decide)
theorem LM.new {w0 w3 : World} {p : Nat} {x z : Value} (hB : Below w0.heap.size w0 w3) (hP : w3.heap[p]? = some (.cells #[x, z] 83 (0, 0))) :
    LM w0 w3.heap.size [(p, .cells #[x, z] 83 (0, 0))] [] (w3.alloc (.cells #[.slice none 0 0, .int .i64 0, .int .i8 0] 134)) := by
  have h := li_new hB hP
  refine LM.more ⟨fun k o hm => absurd hm List.not_mem_nil, h.bel, fun k o hm => absurd hm List.not_mem_nil, h.buf⟩ h.cell (by decide) (by decide)
end Go.Proofs.YtjbpphomlmlmaaaGreatDoor
