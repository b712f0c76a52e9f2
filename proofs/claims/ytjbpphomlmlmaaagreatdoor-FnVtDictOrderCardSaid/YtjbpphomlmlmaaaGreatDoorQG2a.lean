/- The first write into a buffer that begins with one marked byte. -/
import Derived.Test.YtjbpphomlmlmaaaGreatDoorQShelf
import Derived.Test.YtjbpphomlmlmaaaGreatDoorQK2
import Derived.Lib.SlBytesConst
import Derived.Lib.BufferGrow
import Derived.Lib.AppendZeros
import Derived.Recover
import Derived.Shelf.RegionOpenPlain
namespace Go.Proofs.YtjbpphomlmlmaaaGreatDoor
open Go.RowKit
set_option linter.unusedVariables false
set_option linter.unusedSimpArgs false
theorem info5' : (Tryz.prog.info? 5).map (fun i => (i.zero, i.size, i.bytes)) = some (some (.int .u8 0), 1, 1) := by kernel_rfl
set_option maxHeartbeats 6400000 in
set_option maxRecDepth 100000 in
/-- 'growSlice' of the marked row of one byte. -/
theorem gs_marked (g n : Nat) (x : Value) (hx : x.oneCell' = true) (fz : Nat × Nat) (w : World) (hg : w.heap[g]? = some (.cells #[x] 5 fz)) (hn : 1 ≤ n) (hlim : 1 + n ≤ 140737488355328) :
    Calls Tryz.prog 148 #[.slice (some ⟨g, 0, none⟩) 1 1, .int .i64 n] w fun e w' => ∃ cap2 cells, e = .returned (.slice (some ⟨w.heap.size, 0, none⟩) 1 cap2) ∧ w'.heap[w.heap.size]? = some (.cells cells 5 (0, 0)) ∧
      cells.size = cap2 ∧ cells.toList.take 1 = [x] ∧ 1 + n ≤ cap2 ∧ cap2 ≤ maxLen ∧ Below w.heap.size w w' := by
  obtain ⟨i0, hi, hz0, hz1, hz2⟩ := info_parts info5'
  have hsz1 : (Tryz.prog.info? 5).map (·.size) = some 1 := by rw [hi]; simp [hz1]
  have happ := Lib.run_append_nil_zeros (P := Tryz.prog) w 46 3 46 5 i0 (.int .u8 0) .i64 .i64 Tryz.underlying46 Tryz.underlying3 hi hz0 (1 + n) (by omega) (by omega) (by omega) (by rw [hz2]; omega)
  rw [show (((1 + n : Nat)) : Int) = 1 + (n : Int) by omega] at happ
  generalize hcap : grownCap w (1 + n) 0 5 = cap2 at happ
  have hcapge : 1 + n ≤ cap2 := by rw [← hcap]; exact grownCap_ge w _ 0 5
  have hcaple : cap2 ≤ maxLen := by rw [← hcap]; exact grownCap_le_maxLen w _ 0 5 (by unfold maxLen; omega)
  generalize hZ : (Builtin.zeroCells (Value.int .u8 0).cells (1 + n) ++ Builtin.zeroCells (Value.int .u8 0).cells (cap2 - (1 + n))) = Z at happ
  have hZs : Z.size = cap2 := by rw [← hZ]; simp [size_zeroCells, Value.cells]; omega
  clear hcap hZ
  have hgl := (Array.getElem?_eq_some_iff.1 hg).1
  have hg1 : (w.alloc (.cells Z 5)).drew.heap[g]? = some (.cells #[x] 5 fz) := by show (w.alloc (.cells Z 5)).heap[g]? = _; rw [Below.heap_alloc w _ g hgl]; exact hg
  have hcl : ∀ j u, [x][j]? = some u → (w.alloc (.cells Z 5)).drew.cell? ((⟨g, 0, none⟩ : Addr).add j) = some u := fun j u hj => by
    match j with
    | 0 =>
      obtain rfl : x = u := by simpa using hj
      show (w.alloc (.cells Z 5)).drew.cell? ⟨g, 0, none⟩ = _
      rw [cell_of_row _ _ _ _ _ _ hg1]; rfl
    | j + 1 => simp at hj
  have hcopy := run_copy_row (P := Tryz.prog) (w.alloc (.cells Z 5)).drew 46 46 3 5 w.heap.size 0 (1 + n) cap2 ⟨g, 0, none⟩ 1 1 Z 5 [x] Tryz.underlying46 hsz1 (heap_alloc_new w _) (by simp) hcl (by simp; omega) (by simpa using hx)
  generalize hY : (Z.toList.take 0 ++ [x] ++ Z.toList.drop (0 + [x].length)).toArray = Y at hcopy
  have hlt : decide ((1 : Int) + n < 2) = false := by simp; omega
  go_enter_defers Tryz.func148, Tryz.ntmps148
  go_wp2_with (at_builtin; refine Lib.wpList_append_run _ rfl _ _ _ _ rfl _ _ rfl rfl _ _ happ ?_)
  refine leaves_cons (f := 177) (args := #[]) (by simp) (by simp [go_sem]) ?_
  refine (Tryz.growSlice_catch_idle _).mono ?_
  rintro e u' w'' ⟨rfl, rfl, rfl⟩
  refine ⟨_, results_tmp rfl _ _ _, ?_⟩
  have hYl : Y.toList = x :: Z.toList.drop 1 := by rw [← hY]; simp
  refine ⟨cap2, Y, rfl, setRow_heap _ _ Z Y 5 (0, 0) (heap_alloc_new w _), ?_, ?_, by omega, hcaple, ?_⟩
  · have : Y.toList.length = cap2 := by rw [hYl, List.length_cons, List.length_drop, Array.length_toList, hZs]; omega
    simpa using this
  · rw [hYl]; rfl
  · exact ⟨rfl, rfl, rfl, by simp, fun k hk => by rw [setRow_other _ _ _ _ (by omega)]; exact Below.heap_alloc w _ k hk⟩
set_option maxHeartbeats 12800000 in
set_option maxRecDepth 100000 in
/-- 'grow' of the marked buffer. -/
theorem grow_marked (B b g n : Nat) (x : Value) (hx : x.oneCell' = true) (fz : Nat × Nat) (w : World) (hB : B ≤ b) (hBw : B ≤ w.heap.size)
    (hbk : w.heap[b]? = some (.cells #[.slice (some ⟨g, 0, none⟩) 1 1, .int .i64 0, .int .i8 0] 134 (0, 0))) (hg : w.heap[g]? = some (.cells #[x] 5 fz)) (hgb : g ≠ b) (hn : 1 ≤ n) (hlim : 1 + n ≤ 140737488355328) :
    Calls Tryz.prog 123 #[.pointer (some ⟨b, 0, none⟩), .int .i64 n] w fun e w' => e = .returned (.int .i64 1) ∧ ∃ xs, xs.length = n ∧ Lib.IsBuffer 134 5 B b ([x] ++ xs) w' ∧ Below B w w' ∧ Lib.OthersKept 5 (some b) w w' := by
  have mixed : Tryz.prog.follows Departure.mixedOrders = true := by kernel_rfl
  have hnil : ∀ W, (binOp .eql 46 (.slice (some ⟨g, 0, none⟩) 1 1) (.slice none 0 0)).run Tryz.prog W = .ok (.bool false) W := fun W => Lib.run_eql_slice_some_nil W _ _ _ Tryz.underlying46
  have c0 : w.cell? ⟨b, 0, none⟩ = some (.slice (some ⟨g, 0, none⟩) 1 1) := by rw [cell_of_row _ _ _ _ _ _ hbk]; rfl
  have c1 : w.cell? ⟨b, 1, none⟩ = some (.int .i64 0) := by rw [cell_of_row _ _ _ _ _ _ hbk]; rfl
  have f0 : w.frozen? ⟨b, 0, none⟩ = false := frozen_of_row w b 0 _ _ hbk
  have f1 : w.frozen? ⟨b, 1, none⟩ = false := frozen_of_row w b 1 _ _ hbk
  have hlen : ∀ W : World, W.cell? ⟨b, 0, none⟩ = some (.slice (some ⟨g, 0, none⟩) 1 1) → W.cell? ⟨b, 1, none⟩ = some (.int .i64 0) → Calls Tryz.prog 147 #[.pointer (some ⟨b, 0, none⟩)] W fun e w' => e = .returned (.int .i64 1) ∧ ∃ k, w' = W.drewN k := by
    intro W p0 p1
    go_enter Tryz.func147, Tryz.ntmps147
    go_wp2_with fail
    go_region
    go_wp2_with fail
    go_ret
    exact ⟨rfl, 1, rfl⟩
  go_enter Tryz.func123, Tryz.ntmps123
  go_wp2_with fail
  refine (hlen _ c0 c1).mono ?_
  rintro _ W0 ⟨rfl, k, hW0⟩
  have hbk0 : W0.heap[b]? = some (.cells #[.slice (some ⟨g, 0, none⟩) 1 1, .int .i64 0, .int .i8 0] 134 (0, 0)) := by rw [hW0]; exact hbk
  have hg0 : W0.heap[g]? = some (.cells #[x] 5 fz) := by rw [hW0]; exact hg
  have hb0 : Below B w W0 := by rw [hW0]; exact ⟨rfl, rfl, rfl, Nat.le_refl _, fun _ _ => rfl⟩
  have hk0 : Lib.OthersKept 5 (some b) w W0 := by rw [hW0]; exact fun _ _ h _ _ => h
  clear hW0 c0 c1 f0 f1 hlen hbk hg
  have c0 : W0.cell? ⟨b, 0, none⟩ = some (.slice (some ⟨g, 0, none⟩) 1 1) := by rw [cell_of_row _ _ _ _ _ _ hbk0]; rfl
  have c1 : W0.cell? ⟨b, 1, none⟩ = some (.int .i64 0) := by rw [cell_of_row _ _ _ _ _ _ hbk0]; rfl
  have f0 : W0.frozen? ⟨b, 0, none⟩ = false := frozen_of_row W0 b 0 _ _ hbk0
  have f1 : W0.frozen? ⟨b, 1, none⟩ = false := frozen_of_row W0 b 1 _ _ hbk0
  have hbW := (Array.getElem?_eq_some_iff.1 hbk0).1
  have hwn : IntKind.i64.wrap (n : Int) = n := by rw [IntKind.wrap_i64]; omega
  go_wp2_with (go_at_call 122; refine (Tryz.Buffer_tryGrow_none b _ 1 1 n _ c0 (by omega) (by decide) (by omega)).mono ?_; rintro e w' ⟨rfl, rfl⟩)
  go_region_with_o (
      go_at_call 148
      refine (gs_marked g n x hx fz _ ?_ hn hlim).mono ?_
      exact hg0
      rintro e w2 ⟨cap2, cells, rfl, hN, hcsz, htk, hcap2, hcm2, hbel⟩
      have hbk2 : w2.heap[b]? = some (.cells #[.slice (some ⟨g, 0, none⟩) 1 1, .int .i64 0, .int .i8 0] 134 (0, 0)) := (hbel.block b hbW).trans hbk0
      have d0 : w2.cell? ⟨b, 0, none⟩ = some (.slice (some ⟨g, 0, none⟩) 1 1) := by rw [cell_of_row _ _ _ _ _ _ hbk2]; rfl
      have d1 : w2.cell? ⟨b, 1, none⟩ = some (.int .i64 0) := by rw [cell_of_row _ _ _ _ _ _ hbk2]; rfl
      have e0 : w2.frozen? ⟨b, 0, none⟩ = false := frozen_of_row w2 b 0 _ _ hbk2
      have e1 : w2.frozen? ⟨b, 1, none⟩ = false := frozen_of_row w2 b 1 _ _ hbk2)
  all_goals (
    go_wp2
    go_ret
    have hBs := hb0.size
    have hk2 : Lib.OthersKept 5 (some b) w w2 := Lib.OthersKept.below (w := w'.drew) hk0 hbel
    obtain ⟨xs, q1, q2, q3⟩ := Lib.grow_end (bs := [x]) hB hbk2 hN (by show B ≤ w'.heap.size; omega) (by show w'.heap.size ≠ b; omega) hcsz htk hcap2 hcm2 (hb0.drew.trans (hbel.mono (by show B ≤ w'.heap.size; omega))) _
    exact ⟨rfl, xs, q1, q2, q3, ((hk2.setCell ⟨b, 0, none⟩ rfl _).setCell ⟨b, 1, none⟩ rfl _).setCell ⟨b, 0, none⟩ rfl _⟩)
set_option maxHeartbeats 12800000 in
set_option maxRecDepth 100000 in
/-- The first text written behind the marked byte. -/
theorem ws_first (B b g : Nat) (s : List UInt8) (hs : s ≠ []) (w : World) (hB : B ≤ b) (hBw : B ≤ w.heap.size)
    (hbk : w.heap[b]? = some (.cells #[.slice (some ⟨g, 0, none⟩) 1 1, .int .i64 0, .int .i8 0] 134 (0, 0))) (fz : Nat × Nat) (hg : w.heap[g]? = some (.cells #[.int .u8 91] 5 fz)) (hgb : g ≠ b) (hlim : 1 + s.length ≤ 140737488355328) :
    Calls Tryz.prog 84 #[.pointer (some ⟨b, 0, none⟩), .string ⟨s.toArray⟩] w fun e w' => (∃ m, e = .returned (.tuple #[m, .nilIface])) ∧ Lib.IsBuffer 134 5 B b (Lib.byteCells (91 :: s)) w' ∧ Below B w w' ∧ Lib.OthersKept 5 (some b) w w' := by
  have hsl : 0 < s.length := List.length_pos_iff.2 hs
  have hinfo : (Tryz.prog.info? 5).map (·.size) = some 1 := by
    obtain ⟨i0, hi, -, hz1, -⟩ := info_parts info5'
    rw [hi]; simp [hz1]
  have c2 : w.cell? ⟨b, 2, none⟩ = some (.int .i8 0) := by rw [cell_of_row _ _ _ _ _ _ hbk]; rfl
  have f2 : w.frozen? ⟨b, 2, none⟩ = false := frozen_of_row w b 2 _ _ hbk
  have hbk1 : (w.setCell ⟨b, 2, none⟩ (.int .i8 0)).heap[b]? = some (.cells #[.slice (some ⟨g, 0, none⟩) 1 1, .int .i64 0, .int .i8 0] 134 (0, 0)) := Lib.heap_setCell_same (i := 2) hbk (.int .i8 0)
  have hg1 : (w.setCell ⟨b, 2, none⟩ (.int .i8 0)).heap[g]? = some (.cells #[.int .u8 91] 5 fz) := (Below.heap_setCell w ⟨b, 2, none⟩ _ g hgb).trans hg
  have hbel0 : Below B w (w.setCell ⟨b, 2, none⟩ (.int .i8 0)) := (Below.refl B w).setCell (p := ⟨b, 2, none⟩) hB _
  have hk0 : Lib.OthersKept 5 (some b) w (w.setCell ⟨b, 2, none⟩ (.int .i8 0)) := (Lib.OthersKept.refl _ _ w).setCell ⟨b, 2, none⟩ rfl _
  have hBw' : B ≤ (w.setCell ⟨b, 2, none⟩ (.int .i8 0)).heap.size := by simpa [World.setCell] using hBw
  have c0 : (w.setCell ⟨b, 2, none⟩ (.int .i8 0)).cell? ⟨b, 0, none⟩ = some (.slice (some ⟨g, 0, none⟩) 1 1) := by rw [cell_of_row _ _ _ _ _ _ hbk1]; rfl
  have hT := Tryz.Buffer_tryGrow_none b (some ⟨g, 0, none⟩) 1 1 s.length _ c0 (by omega) (by decide) (by omega)
  have hG := grow_marked B b g s.length (.int .u8 91) rfl fz _ hB hBw' hbk1 hg1 hgb hsl hlim
  clear hbk1 hg1 c0 hbk hg
  go_enter Tryz.func84, Tryz.ntmps84
  go_wp2_with (go_at_call 122; refine hT.mono ?_; rintro e w' ⟨rfl, rfl⟩)
  refine hG.mono ?_
  rintro e W1 ⟨rfl, xs, hxl, hI, hbel, hk⟩
  have hbelW := hbel0.trans hbel
  have hkW := hk0.trans hk
  clear hbel hbel0 hBw' c2 f2 hT hG
  obtain ⟨-, lr2, hc⟩ := hI.cases
  rcases hc with ⟨hnil, -⟩ | ⟨g2, cap, cur, hbk2, hBg, hg2, hnc, hcm, hcs, htk, hgb2⟩
  · simp at hnil
  · rw [List.length_append, hxl, List.length_singleton] at hbk2 hnc htk
    have d0 : W1.cell? ⟨b, 0, none⟩ = some (.slice (some ⟨g2, 0, none⟩) (1 + s.length) cap) := by rw [cell_of_row _ _ _ _ _ _ hbk2]; rfl
    have hsz : (⟨s.toArray⟩ : ByteArray).size = s.length := by simp [ByteArray.size]
    have hcp := Lib.run_copy_row_string (P := Tryz.prog) W1 46 9 3 5 g2 1 s.length (cap - 1) ⟨s.toArray⟩ cur 5 Tryz.underlying46 hinfo hg2 (by rw [hsz]; omega) (by omega)
    have hcm' := hcm
    unfold maxLen at hcm'
    go_wp2
    go_ret2
    have hnl : (Lib.byteCells s).length = s.length := Lib.byteCells_length s
    obtain ⟨r1, r2⟩ := Lib.written_end (news := Lib.byteCells s) (l := 1) hB (by rw [hnl]; exact hbk2) hBg hg2 hcm hcs hgb2 (by rw [hnl]; exact hnc)
    have e1 : cur.toList.take 1 = [.int .u8 91] := by
      have h3 := congrArg (List.take 1) htk
      rw [List.take_take, Nat.min_eq_left (Nat.le_add_right _ _)] at h3
      exact h3.trans rfl
    rw [e1, hnl] at r1 r2
    rw [e1, ← List.append_assoc]
    exact ⟨⟨_, rfl⟩, r1, hbelW.trans r2, hkW.setRow hg2 _⟩
end Go.Proofs.YtjbpphomlmlmaaaGreatDoor
