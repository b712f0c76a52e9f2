/- A row of bytes that grows, beside a row of digits that stays. -/
import Derived.Test.YtjbpphomlmlmaaaGreatDoorQC4
import Derived.Maps.AppendAt
namespace Go.Proofs.YtjbpphomlmlmaaaGreatDoor
open Go.RowKit Go.Sort Go.Lib
set_option linter.unusedVariables false
set_option linter.unusedSimpArgs false
theorem info5 : (Tryz.prog.info? 5).map (fun i => (i.zero, i.size, i.bytes)) = some (some (.int .u8 0), 1, 1) := by kernel_rfl
/-- The slice v is a row of its own that holds the bytes zs; beside it, in block D, the digits ds. -/
structure Grow (D : Nat) (ds : List UInt8) (W0 : World) (v : Value) (zs : List Int) (w : World) : Prop where
  own : w.ownsRow W0.heap.size 5 1 v zs.length (zs.map (Value.int .u8))
  bel : Below W0.heap.size W0 w
  lt : D < w.heap.size
  far : v.ownBlock ≠ some D
  dig : ByteRow w D ds
theorem ByteRow.keep {w w' : World} {D : Nat} {ds : List UInt8} (h : ByteRow w D ds) (hb : w'.heap[D]? = w.heap[D]?) : ByteRow w' D ds :=
  fun j hj => (World.cell?_of_block (a := ⟨D, j, none⟩) hb).trans (h j hj)
theorem Grow.alloc {D : Nat} {ds : List UInt8} {W0 w : World} {v : Value} {zs : List Int} (h : Grow D ds W0 v zs w) (o : Obj) : Grow D ds W0 v zs (w.alloc o) :=
  ⟨h.own.kept (World.grownBy_alloc w o none) (by rcases hv : v.ownBlock with _ | k; exact .inl rfl; exact .inr (by simp)), h.bel.alloc h.bel.size o, by have := h.lt; simp; omega, h.far, h.dig.keep (Below.heap_alloc w o D h.lt)⟩
theorem Grow.drew {D : Nat} {ds : List UInt8} {W0 w : World} {v : Value} {zs : List Int} (h : Grow D ds W0 v zs w) (n : Nat) : Grow D ds W0 v zs (w.drewN n) :=
  ⟨h.own, below_drewN h.bel n, h.lt, h.far, h.dig⟩
theorem Grow.next {D : Nat} {ds : List UInt8} {W0 w w' : World} {v v' : Value} {zs news : List Int} {m : Nat} (h : Grow D ds W0 v zs w) (hm : news.length = m)
    (ho : w'.ownsRow W0.heap.size 5 1 v' (zs.length + m) (zs.map (Value.int .u8) ++ news.map (Value.int .u8))) (hg : w.grownBy w' v.ownBlock) (ha : v'.ownBlock = v.ownBlock ∨ v'.ownBlock = some w.heap.size) : Grow D ds W0 v' (zs ++ news) w' := by
  refine ⟨?_, ?_, ?_, ?_, ?_⟩
  · rw [List.map_append, List.length_append, hm]; exact ho
  · exact h.bel.grown hg h.bel.size (fun k hk => own_base' h.own hk)
  · have := hg.size; have := h.lt; omega
  · rcases ha with ha | ha
    · rw [ha]; exact h.far
    · rw [ha]; intro hc; have := h.lt; cases hc; omega
  · exact h.dig.keep (hg.block D h.lt (fun hc => h.far hc.symm))
/-- The bytes of the row are those of a text. -/
theorem Grow.text {D : Nat} {ds : List UInt8} {W0 w : World} {v : Value} {zs : List Int} (h : Grow D ds W0 v zs w) : (convert 46 9 v).run Tryz.prog w = .ok (.string (strOfNums zs)) w := by
  rcases h.own.2 with ⟨rfl, h0⟩ | ⟨g, cap, cur, rfl, hb, hg, hn, hc, hs, ht⟩
  · obtain rfl := List.eq_nil_of_length_eq_zero h0
    exact run_convert_bytes_nil (P := Tryz.prog) w 46 5 Tryz.underlying46 Tryz.underlying5 0 0 9 Tryz.underlying9
  · refine run_convert_bytes_arg (P := Tryz.prog) w 46 5 Tryz.underlying46 Tryz.underlying5 g 0 zs.length cap zs rfl (fun i hi => ?_) 9 Tryz.underlying9
    have hz : (zs.map (Value.int IntKind.u8))[i]? = some (.int .u8 (zs.getD i 0)) := by
      rw [List.getElem?_map, List.getD, List.getElem?_eq_getElem hi]; rfl
    rw [Nat.zero_add, cell_of_row w g i cur 5 (0, 0) hg]
    rw [← ht] at hz
    rw [List.getElem?_take] at hz
    split at hz
    · simpa using hz
    · cases hz
/-- What 'fmtEFG' answers of these digits: some text, always the same. -/
def FmtOk (neg : Bool) (ds : List UInt8) (sv : Nat → Value) (dp nd prec : Int) : Prop :=
  ∃ zs : List Int, (zs ≠ [] ∧ zs.length ≤ 64) ∧ ∀ (D : Nat) (W0 w : World) (v : Value), Grow D ds W0 v [] w →
    Calls Tryz.prog 132 #[v, .bool neg, sv D, .int .i64 dp, .int .i64 nd, .int .i64 prec, .int .u8 103, .bool true] w fun e w' => ∃ v', e = .returned v' ∧ Grow D ds W0 v' zs w'
set_option maxRecDepth 100000 in
set_option maxHeartbeats 3200000 in
theorem fmt_zero (neg : Bool) : FmtOk neg [] (fun _ => .slice none 0 0) 0 0 (-1) := by
  obtain ⟨i0, hi0, hz0, hz1, hz2⟩ := info_parts info5
  refine ⟨if neg then [45, 48] else [48], by cases neg <;> simp, ?_⟩
  intro D W0 w v hG
  have hm : max (-1 : Int) 0 = 0 := by decide
  cases neg
  · go_enter Tryz.func132, Tryz.ntmps132
    go_wp2_with (at_builtin; refine Hid.out ?_)
    (refine Lib.hid ?_; refine wpList_append_own_at _ rfl _ _ 46 rfl W0.heap.size 5 i0 (.int .u8 0) 1 1 Tryz.underlying46 hi0 hz0 hz1 hz2 rfl (by decide) _ _ _ rfl (Grow.own (Grow.alloc hG _)) ⟨_, 0, none⟩ 1 1 [.int .u8 48] rfl rfl (cell_one_new _ _ _) (by simp [Value.oneCell']) (by unfold maxLen; simp; try omega) (by simp; try omega) (by have := hG.bel.size; simp; omega) ?_; intro v1 w1 ho hg _ ha; replace hG := Grow.next (news := [48]) (Grow.alloc hG _) rfl ho hg ha; clear ho hg ha)
    go_wp2_with (at_builtin; refine Hid.out ?_)
    go_ret
    exact ⟨_, rfl, hG⟩
  · go_enter Tryz.func132, Tryz.ntmps132
    go_wp2_with (at_builtin; refine Hid.out ?_)
    (refine Lib.hid ?_; refine wpList_append_own_at _ rfl _ _ 46 rfl W0.heap.size 5 i0 (.int .u8 0) 1 1 Tryz.underlying46 hi0 hz0 hz1 hz2 rfl (by decide) _ _ _ rfl (Grow.own (Grow.alloc hG _)) ⟨_, 0, none⟩ 1 1 [.int .u8 45] rfl rfl (cell_one_new _ _ _) (by simp [Value.oneCell']) (by unfold maxLen; simp; try omega) (by simp; try omega) (by have := hG.bel.size; simp; omega) ?_; intro v1 w1 ho hg _ ha; replace hG := Grow.next (news := [45]) (Grow.alloc hG _) rfl ho hg ha; clear ho hg ha)
    go_wp2_with (at_builtin; refine Hid.out ?_)
    (refine Lib.hid ?_; refine wpList_append_own_at _ rfl _ _ 46 rfl W0.heap.size 5 i0 (.int .u8 0) 1 1 Tryz.underlying46 hi0 hz0 hz1 hz2 rfl (by decide) _ _ _ rfl (Grow.own (Grow.alloc hG _)) ⟨_, 0, none⟩ 1 1 [.int .u8 48] rfl rfl (cell_one_new _ _ _) (by simp [Value.oneCell']) (by unfold maxLen; simp; try omega) (by simp; try omega) (by have := hG.bel.size; simp; omega) ?_; intro v1 w1 ho hg _ ha; replace hG := Grow.next (news := [48]) (Grow.alloc hG _) rfl ho hg ha; clear ho hg ha)
    go_wp2_with (at_builtin; refine Hid.out ?_)
    go_ret
    exact ⟨_, rfl, hG⟩
end Go.Proofs.YtjbpphomlmlmaaaGreatDoor

/- Words for the walk of 'fmtEFG'. -/
namespace Go.Proofs.YtjbpphomlmlmaaaGreatDoor
open Go.RowKit Go.Sort Go.Lib
set_option linter.unusedVariables false
set_option linter.unusedSimpArgs false
abbrev sv32 (D : Nat) : Value := .slice (some ⟨D, 0, none⟩) 32 32
theorem Grow.piece {D : Nat} {ds : List UInt8} {W0 w : World} {v : Value} {zs : List Int} (h : Grow D ds W0 v zs w) (i n : Nat) (hn : i + n ≤ ds.length) :
    ∀ j u, (((ds.drop i).take n).map fun b => Value.int .u8 (b.toNat : Int))[j]? = some u → w.cell? ((⟨D, i, none⟩ : Addr).add j) = some u := by
  intro j u hj
  have hadd : (⟨D, i, none⟩ : Addr).add j = ⟨D, i + j, none⟩ := by unfold Addr.add; split <;> simp_all
  rw [hadd]
  rw [List.getElem?_map, List.getElem?_take] at hj
  split at hj
  · rw [List.getElem?_drop, List.getElem?_eq_getElem (by omega)] at hj
    simp only [Option.map_some, Option.some.injEq] at hj
    rw [← hj]
    exact h.dig (i + j) (by omega)
  · cases hj
theorem oneCell_map (l : List UInt8) : ∀ u ∈ l.map (fun b => Value.int .u8 (b.toNat : Int)), u.oneCell' = true := by
  intro u hu
  obtain ⟨b, _, rfl⟩ := List.mem_map.1 hu
  rfl
end Go.Proofs.YtjbpphomlmlmaaaGreatDoor
