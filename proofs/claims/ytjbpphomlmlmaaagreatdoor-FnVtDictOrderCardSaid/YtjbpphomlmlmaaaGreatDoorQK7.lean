/- The looks into a dict: its keys, what it has at a key. -/
import Derived.Test.YtjbpphomlmlmaaaGreatDoorQE14
namespace Go.Proofs.YtjbpphomlmlmaaaGreatDoor
open Go.RowKit
set_option linter.unusedVariables false
set_option linter.unusedSimpArgs false
theorem info83 : (Tryz.prog.info? 83).map (fun i => (i.zero, i.size, i.bytes)) = some (some (.agg #[.nilIface, .string ByteArray.empty]), 2, 32) := by kernel_rfl
def keyCells (kb : ByteArray) (ks : List Value) : List Value := ks.flatMap fun k => [k, .string kb]
theorem keyCells_len (kb : ByteArray) (ks : List Value) : (keyCells kb ks).length = ks.length * 2 := by
  induction ks with
  | nil => rfl
  | cons k ks ih => simp [keyCells] at *; omega
set_option maxRecDepth 100000 in
set_option maxHeartbeats 3200000 in
theorem mapKeys_calls (b : Nat) (kb eb : ByteArray) (A : Option Addr) (cap : Nat) (vv : Value) (ks : List Value) (l : List UInt8) (w : World) (hvar : w.heap[b]? = some (.cells #[.string kb, .string eb, .slice A ks.length cap, vv] 116 (0, 0))) (hcap : ks.length ≤ cap) (hlen : ks.length ≤ 1000) (S : Nat → Prop) (hrow : Row S w A ks) (hk : ∀ k ∈ ks, ∃ (u : TypeId) (y : Value), k = .iface u y) :
    Calls Tryz.prog 87 #[.agg #[.iface 113 (.pointer (some ⟨b, 0, none⟩)), .string (bs l)]] w fun e w' => ∃ v, e = .returned v ∧ w'.ownsRow w.heap.size 83 2 v ks.length (keyCells kb ks) ∧ Below w.heap.size w w' := by
  obtain ⟨i0, hi0, hz0, hz1, hz2⟩ := info_parts info83
  have has : ∀ w, (Instr.typeAssert (.iface 113 (.pointer (some ⟨b, 0, none⟩))) 20 113 false).run Tryz.prog w = .ok (.pointer (some ⟨b, 0, none⟩)) w := fun w => by kernel_rfl
  have hW : Below w.heap.size w (w.alloc (.cells #[.iface 113 (.pointer (some ⟨b, 0, none⟩)), .string (bs l)] 83)) := (Below.refl _ _).alloc (Nat.le_refl _) _
  have hv1 := (hW.block b (Array.getElem?_eq_some_iff.1 hvar).1).trans hvar
  have c2 := (kid_cells hv1).2.2.1
  go_enter Tryz.func87, Tryz.ntmps87
  go_wp2_with fail
  go_loopw [3, 15] (fun v i wr => ∃ j : Nat, j ≤ ks.length ∧ i = .int .i64 j ∧ wr.ownsRow w.heap.size 83 2 v j (keyCells kb (ks.take j)) ∧ Below w.heap.size w wr) (fun _ i _ => ks.length - (intOf i).toNat)
  case atStart => exact ⟨0, Nat.zero_le _, rfl, World.ownsRow_nil _ _ _ _, hW⟩
  case round =>
    obtain ⟨j, hj, rfl, hown, hb⟩ := hrel
    by_cases hlt : j < ks.length
    · have hltk : decide (j < ks.length) = true := by simp; omega
      obtain ⟨u, y, hkj⟩ := hk _ (List.getElem_mem hlt)
      rcases hrow with h0 | ⟨g, rfl, _, hg, hcell⟩
      · subst h0; simp at hlt
      have kc := cell_keep hb.block (hcell j _ (by rw [List.getElem?_eq_getElem hlt, hkj]))
      have d0 := (kid_cells ((hb.block b (Array.getElem?_eq_some_iff.1 hvar).1).trans hvar)).1
      have hbs := hb.size
      go_wp2_with (at_builtin; refine Hid.out ?_)
      refine Lib.hid ?_
      refine wpList_append_own _ rfl _ _ 135 rfl w.heap.size 83 i0 (.agg #[.nilIface, .string ByteArray.empty]) 2 32 Tryz.underlying135 hi0 hz0 hz1 hz2 rfl (by decide) _ _ _ rfl (hown.alloc _) ⟨_, 0, none⟩ 1 1 [.iface u y, .string kb] rfl rfl (World.news_of_block (heap_alloc_new _ _)) (by simp [Value.oneCell']) (by unfold maxLen; omega) (by omega) (by simp; omega) ?_
      intro v' w1 hown1 hgrow _
      go_wp2_with fail
      go_roundw
      case rel => exact ⟨j + 1, by omega, by go_num, by rw [List.take_succ_eq_append_getElem hlt, hkj]; simpa [keyCells] using hown1, (hb.alloc hb.size _).grown hgrow (by simp; omega) (fun k hk => own_base' hown hk)⟩
      case measure => simp [intOf]; omega
    · obtain rfl : ks.length = j := by omega
      have hltk : decide (ks.length < ks.length) = false := by simp
      rw [List.take_length] at hown
      go_wp2_with fail
      go_ret
      exact ⟨_, rfl, hown, hb⟩
set_option maxRecDepth 100000 in
set_option maxHeartbeats 6400000 in
theorem mapIndex_calls (b : Nat) (kb eb : ByteArray) (A A2 : Option Addr) (cap cap2 : Nat) (ks xs : List Value) (l lk : List UInt8) (w : World) (hvar : w.heap[b]? = some (.cells #[.string kb, .string eb, .slice A ks.length cap, .slice A2 ks.length cap2] 116 (0, 0))) (hcap : ks.length ≤ cap) (hcap2 : ks.length ≤ cap2) (hlen : ks.length ≤ 1000) (S : Nat → Prop) (hrow : Row S w A ks) (hrow2 : Row S w A2 xs)
    (j0 : Nat) (hj0 : j0 < ks.length) (ku xu : TypeId) (ky xy : Value) (hx0 : xs[j0]? = some (.iface xu xy)) (heq : ∀ i (hi : i < ks.length), i ≤ j0 → ∃ (u : TypeId) (y : Value), ks[i] = .iface u y ∧ ∀ w, (binOp .eql 20 (.iface u y) (.iface ku ky)).run Tryz.prog w = .ok (.bool (decide (i = j0))) w) :
    Calls Tryz.prog 89 #[.agg #[.iface 113 (.pointer (some ⟨b, 0, none⟩)), .string (bs l)], .agg #[.iface ku ky, .string (bs lk)]] w fun e w' => e = .returned (.agg #[.iface xu xy, .string eb]) ∧ Below w.heap.size w w' := by
  have has : ∀ w, (Instr.typeAssert (.iface 113 (.pointer (some ⟨b, 0, none⟩))) 20 113 false).run Tryz.prog w = .ok (.pointer (some ⟨b, 0, none⟩)) w := fun w => by kernel_rfl
  have hW : Below w.heap.size w (((w.alloc (.cells #[.iface 113 (.pointer (some ⟨b, 0, none⟩)), .string (bs l)] 83)).alloc (.cells #[.iface ku ky, .string (bs lk)] 83)).alloc (.cells #[.nilIface, .string { data := #[] }] 83)) := (((Below.refl _ _).alloc (Nat.le_refl _) _).alloc (by simp) _).alloc (by simp; omega) _
  have e0 : (((w.alloc (.cells #[.iface 113 (.pointer (some ⟨b, 0, none⟩)), .string (bs l)] 83)).alloc (.cells #[.iface ku ky, .string (bs lk)] 83)).alloc (.cells #[.nilIface, .string { data := #[] }] 83)).heap[w.heap.size + 1]? = some (.cells #[.iface ku ky, .string (bs lk)] 83 (0, 0)) := by
    have h0 := heap_alloc_new (w.alloc (.cells #[.iface 113 (.pointer (some ⟨b, 0, none⟩)), .string (bs l)] 83)) (.cells #[.iface ku ky, .string (bs lk)] 83)
    have hz : (w.alloc (.cells #[.iface 113 (.pointer (some ⟨b, 0, none⟩)), .string (bs l)] 83)).heap.size = w.heap.size + 1 := by simp
    rw [hz] at h0
    exact (Below.heap_alloc _ _ _ (by simp)).trans h0
  have e1 : (((w.alloc (.cells #[.iface 113 (.pointer (some ⟨b, 0, none⟩)), .string (bs l)] 83)).alloc (.cells #[.iface ku ky, .string (bs lk)] 83)).alloc (.cells #[.nilIface, .string { data := #[] }] 83)).heap[w.heap.size + 2]? = some (.cells #[.nilIface, .string { data := #[] }] 83 (0, 0)) := by
    have h0 := heap_alloc_new ((w.alloc (.cells #[.iface 113 (.pointer (some ⟨b, 0, none⟩)), .string (bs l)] 83)).alloc (.cells #[.iface ku ky, .string (bs lk)] 83)) (.cells #[.nilIface, .string { data := #[] }] 83)
    have hz : ((w.alloc (.cells #[.iface 113 (.pointer (some ⟨b, 0, none⟩)), .string (bs l)] 83)).alloc (.cells #[.iface ku ky, .string (bs lk)] 83)).heap.size = w.heap.size + 2 := by simp
    rw [hz] at h0
    exact h0
  have hv1 := (hW.block b (Array.getElem?_eq_some_iff.1 hvar).1).trans hvar
  obtain ⟨c0, c1, c2, c3⟩ := kid_cells hv1
  go_enter Tryz.func89, Tryz.ntmps89
  go_wp2_with fail
  generalize (((w.alloc (.cells #[.iface 113 (.pointer (some ⟨b, 0, none⟩)), .string (bs l)] 83)).alloc (.cells #[.iface ku ky, .string (bs lk)] 83)).alloc (.cells #[.nilIface, .string { data := #[] }] 83)) = W3 at *
  go_loopw [15] (fun i wr => ∃ j : Nat, j ≤ j0 ∧ i = .int .i64 j ∧ wr.heap = W3.heap ∧ Below 0 W3 wr) (fun i _ => ks.length - (intOf i).toNat)
  case atStart => exact ⟨0, Nat.zero_le _, rfl, rfl, Below.refl _ _⟩
  case round =>
    obtain ⟨j, hj, rfl, hh, hb0⟩ := hrel
    have hlt : j < ks.length := by omega
    have hltk : decide (j < ks.length) = true := by simp; omega
    rcases hrow with h0 | ⟨g, rfl, hg1, hg2, hg3⟩
    · subst h0; simp at hlt
    obtain ⟨u, y, hq, heq0⟩ := heq j hlt hj
    have q0 : wr.cell? ⟨g, j, none⟩ = some (.iface u y) := by
      have h1 := hg3 j (.iface u y) (by rw [List.getElem?_eq_getElem hlt, hq])
      refine (World.cell?_of_block (a := ⟨g, j, none⟩) ?_).trans h1
      rw [hh]; exact hW.block g hg2
    have d2 : wr.cell? ⟨b, 2, none⟩ = some (.slice (some ⟨g, 0, none⟩) ks.length cap) := (World.cell?_of_block (a := ⟨b, 2, none⟩) (by rw [hh])).trans c2
    have d3 : wr.cell? ⟨b, 3, none⟩ = some (.slice A2 ks.length cap2) := (World.cell?_of_block (a := ⟨b, 3, none⟩) (by rw [hh])).trans c3
    have d1 : wr.cell? ⟨b, 1, none⟩ = some (.string eb) := (World.cell?_of_block (a := ⟨b, 1, none⟩) (by rw [hh])).trans c1
    have b0 : wr.cell? ⟨w.heap.size + 1, 0, none⟩ = some (.iface ku ky) := by
      refine (World.cell?_of_block (a := ⟨w.heap.size + 1, 0, none⟩) (w := W3) (by rw [hh])).trans ?_
      rw [cell_of_row _ _ _ _ _ _ e0]; rfl
    by_cases hjj : j = j0
    · subst hjj
      simp only [decide_true] at heq0
      rcases hrow2 with h0 | ⟨g2, rfl, hg4, hg5, hg6⟩
      · subst h0; simp at hx0
      have x0 : wr.cell? ⟨g2, j, none⟩ = some (.iface xu xy) := by
        refine (World.cell?_of_block (a := ⟨g2, j, none⟩) ?_).trans (hg6 j _ hx0)
        rw [hh]; exact hW.block g2 hg5
      clear heq
      go_wp2_with fail
      go_quiet (fail)
      go_wp2_with fail
      have hg2 : g2 < w.heap.size := hg5
      have hbl : b < w.heap.size := (Array.getElem?_eq_some_iff.1 hvar).1
      have er : (wr.drewN nq).drew.heap[w.heap.size + 1 + 1]? = some (.cells #[.nilIface, .string { data := #[] }] 83 (0, 0)) := by
        rw [show (wr.drewN nq).drew.heap = wr.heap from rfl, hh]; exact e1
      have t3 : (wr.drewN nq).drew.cell? ⟨b, 3, none⟩ = some (.slice (some ⟨g2, 0, none⟩) ks.length cap2) := d3
      have t1 : (wr.drewN nq).drew.cell? ⟨b, 1, none⟩ = some (.string eb) := d1
      have tx : (wr.drewN nq).drew.cell? ⟨g2, j, none⟩ = some (.iface xu xy) := x0
      have z0 : (wr.drewN nq).drew.cell? ⟨w.heap.size + 1 + 1, 0, none⟩ = some .nilIface := by rw [cell_of_row _ _ _ _ _ _ er]; rfl
      have z1 : (wr.drewN nq).drew.cell? ⟨w.heap.size + 1 + 1, 1, none⟩ = some (.string { data := #[] }) := by rw [cell_of_row _ _ _ _ _ _ er]; rfl
      have zf := fun o => frozen_of_row _ (w.heap.size + 1 + 1) o _ _ er
      have hji : (j : Int) < (ks.length : Int) := by omega
      have er' : wr.heap[w.heap.size + 1 + 1]? = some (.cells #[.nilIface, .string { data := #[] }] 83 (0, 0)) := er
      have y0 : wr.cell? ⟨w.heap.size + 1 + 1, 0, none⟩ = some .nilIface := by rw [cell_of_row _ _ _ _ _ _ er']; rfl
      have y1 : wr.cell? ⟨w.heap.size + 1 + 1, 1, none⟩ = some (.string { data := #[] }) := by rw [cell_of_row _ _ _ _ _ _ er']; rfl
      have yf := fun o => frozen_of_row wr (w.heap.size + 1 + 1) o _ _ er'
      have hBel : Below w.heap.size w (wr.drewN nq).drew := below_same hW (show (wr.drewN nq).drew.heap = W3.heap from hh) ((below_drewN hb0 _).drew)
      have f1 := row_setC (row_setC er 0 (.iface xu xy)) 1 (.string eb)
      have far : ∀ q, q ≠ w.heap.size + 1 + 1 → (((wr.drewN nq).drew.setCell ⟨w.heap.size + 1 + 1, 0, none⟩ (.iface xu xy)).setCell ⟨w.heap.size + 1 + 1, 1, none⟩ (.string eb)).heap[q]? = (wr.drewN nq).drew.heap[q]? := fun q hq => by
        rw [Below.heap_setCell _ ⟨w.heap.size + 1 + 1, 1, none⟩ _ q hq, Below.heap_setCell _ ⟨w.heap.size + 1 + 1, 0, none⟩ _ q hq]
      go_region_held3 (fun w' => w'.cell? ⟨b, 3, none⟩ = some (.slice (some ⟨g2, 0, none⟩) ks.length cap2) ∧ w'.cell? ⟨b, 1, none⟩ = some (.string eb) ∧ w'.cell? ⟨g2, j, none⟩ = some (.iface xu xy))
        (first | exact ⟨t3, t1, tx⟩ | exact ⟨(World.cell?_of_block (a := ⟨b, 3, none⟩) (far _ (show b ≠ w.heap.size + 1 + 1 by omega))).trans t3, (World.cell?_of_block (a := ⟨b, 1, none⟩) (far _ (show b ≠ w.heap.size + 1 + 1 by omega))).trans t1, (World.cell?_of_block (a := ⟨g2, j, none⟩) (far _ (show g2 ≠ w.heap.size + 1 + 1 by omega))).trans tx⟩)
        (fail)
      go_wp2_with fail
      refine bodyPost_ret (results_cell_row rfl _ _ (w.heap.size + 1 + 1) 83 #[.iface xu xy, .string eb] (0, 0) _ rfl f1 Tryz.underlying83 rfl (by kernel_rfl)) rfl ⟨rfl, ?_⟩
      exact (hBel.setCell (p := ⟨w.heap.size + 1 + 1, 0, none⟩) (by show w.heap.size ≤ w.heap.size + 1 + 1; omega) _).setCell (p := ⟨w.heap.size + 1 + 1, 1, none⟩) (by show w.heap.size ≤ w.heap.size + 1 + 1; omega) _
    · have hjf : decide (j = j0) = false := by simp; omega
      rw [hjf] at heq0
      clear heq
      go_wp2_with fail
      go_quiet (fail)
      go_wp2_with fail
      go_roundw
      case rel => exact ⟨j + 1, by omega, by go_num, hh, below_drewN hb0 _⟩
      case measure => simp [intOf]; omega
end Go.Proofs.YtjbpphomlmlmaaaGreatDoor

/- A key is the same as itself. -/
namespace Go.Proofs.YtjbpphomlmlmaaaGreatDoor
open Go.RowKit
set_option linter.unusedVariables false
theorem ba_beq_self (a : ByteArray) : (a == a) = true := by
  show (a.data == a.data) = true
  exact beq_self_eq_true a.data
/-- A key is the same as itself as 'any' too. -/
theorem key_same {u : V} {k : UInt8} (hk : keyB k.toNat = true) (hu : HT u (.basic k)) :
    ∃ (t : TypeId) (y : Value), numV u.k u.n u.s = .iface t y ∧ ∀ w, (binOp .eql 20 (.iface t y) (.iface t y)).run Tryz.prog w = .ok (.bool true) w := by
  obtain ⟨n, s, rfl, hU⟩ := hu.basic_cases
  simp only [V.k, V.n, V.s]
  rcases keyB_cases hk with rfl | rfl | rfl | rfl | rfl | rfl | rfl | rfl | rfl
  · exact ⟨_, _, rfl, fun w => by rw [Lib.run_eql_iface_int w _ _ Tryz.underlying20 (by kernel_rfl) Tryz.underlying5]; simp⟩
  · exact ⟨_, _, rfl, fun w => by rw [Lib.run_eql_iface_int w _ _ Tryz.underlying20 (by kernel_rfl) Tryz.underlying73]; simp⟩
  · exact ⟨_, _, rfl, fun w => by rw [Lib.run_eql_iface_int w _ _ Tryz.underlying20 (by kernel_rfl) Tryz.underlying74]; simp⟩
  · exact ⟨_, _, rfl, fun w => by rw [Lib.run_eql_iface_int w _ _ Tryz.underlying20 (by kernel_rfl) Tryz.underlying21]; simp⟩
  · exact ⟨_, _, rfl, fun w => by rw [Lib.run_eql_iface_int w _ _ Tryz.underlying20 (by kernel_rfl) Tryz.underlying75]; simp⟩
  · exact ⟨_, _, rfl, fun w => by rw [Lib.run_eql_iface_int w _ _ Tryz.underlying20 (by kernel_rfl) Tryz.underlying2]; simp⟩
  · exact ⟨_, _, rfl, fun w => by rw [Lib.run_eql_iface_int w _ _ Tryz.underlying20 (by kernel_rfl) Tryz.underlying22]; simp⟩
  · exact ⟨_, _, rfl, fun w => by rw [eql_str s s (by kernel_rfl) Tryz.underlying9 w, ba_beq_self]⟩
  · exact ⟨_, _, rfl, fun w => by rw [eql_str s s (by kernel_rfl) Tryz.underlying76 w, ba_beq_self]⟩
end Go.Proofs.YtjbpphomlmlmaaaGreatDoor
