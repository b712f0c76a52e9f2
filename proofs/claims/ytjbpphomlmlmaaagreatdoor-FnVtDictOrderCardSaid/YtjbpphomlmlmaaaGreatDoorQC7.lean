/- The text of a float with an exponent. -/
import Derived.Test.YtjbpphomlmlmaaaGreatDoorQK4
namespace Go.Proofs.YtjbpphomlmlmaaaGreatDoor
open Go.RowKit Go.Sort Go.Lib
set_option linter.unusedVariables false
set_option linter.unusedSimpArgs false
set_option maxRecDepth 100000 in
set_option maxHeartbeats 6400000 in
theorem fmt_e_a_false_0 (ds : List UInt8)  (dp : Int) (hds : 0 < ds.length) (h2 : ds.length ≤ 20) (hx : dp - 1 < -4 ∧ -10 < dp - 1) (hd0 : -900 ≤ dp) (hd1 : dp ≤ 900) : FmtOk false ds sv32 dp 1 1 := by
  obtain ⟨i0, hi0, hz0, hz1, hz2⟩ := info_parts info5
  have h_59481 : decide (dp - 1 < -4) = true := by simp; omega
  have h_67881 : decide (dp - 1 < 0) = true := by simp; omega
  have h_14858 : decide (-(dp - 1) < 10) = true := by simp; omega
  have h_5663 : decide (-(dp - 1) < 100) = true := by simp; omega
  apply Exists.intro
  case h =>
    refine And.intro ?ne ?hh
    case hh =>
      intro D W0 w v hG
      have hcell := hG.dig 0 hds
      go_enter Tryz.func132, Tryz.ntmps132
      repeat (go_wp2_with (at_builtin; refine Hid.out ?_); (first | (refine Lib.hid ?_; refine wpList_append_own_at _ rfl _ _ 46 rfl W0.heap.size 5 i0 (.int .u8 0) 1 1 Tryz.underlying46 hi0 hz0 hz1 hz2 rfl (by decide) _ _ _ rfl (Grow.own (Grow.alloc hG _)) ⟨_, 0, none⟩ 1 1 [.int .u8 _] rfl rfl (cell_one_new _ _ _) (by simp [Value.oneCell']) (by unfold maxLen; simp; try omega) (by simp; try omega) (by have := hG.bel.size; simp; omega) ?_; intro v1 w1 ho hg _ ha; replace hG := Grow.next (news := [_]) (Grow.alloc hG _) rfl ho hg ha; clear ho hg ha) | (refine Lib.hid ?_; refine wpList_append_own_at _ rfl _ _ 46 rfl W0.heap.size 5 i0 (.int .u8 0) 1 1 Tryz.underlying46 hi0 hz0 hz1 hz2 rfl (by decide) _ _ _ rfl (Grow.own (Grow.alloc hG _)) ⟨_, 0, none⟩ 2 2 [.int .u8 _, .int .u8 _] rfl rfl (World.news_of_block (heap_alloc_new _ _)) (by simp [Value.oneCell']) (by unfold maxLen; simp; try omega) (by simp; try omega) (by have := hG.bel.size; simp; omega) ?_; intro v1 w1 ho hg _ ha; replace hG := Grow.next (news := [_, _]) (Grow.alloc hG _) rfl ho hg ha; clear ho hg ha) | (refine Lib.hid ?_; refine wpList_append_own_at _ rfl _ _ 46 rfl W0.heap.size 5 i0 (.int .u8 0) 1 1 Tryz.underlying46 hi0 hz0 hz1 hz2 rfl (by decide) _ _ _ rfl (Grow.own (Grow.alloc hG _)) ⟨_, 0, none⟩ 3 3 [.int .u8 _, .int .u8 _, .int .u8 _] rfl rfl (World.news_of_block (heap_alloc_new _ _)) (by simp [Value.oneCell']) (by unfold maxLen; simp; try omega) (by simp; try omega) (by have := hG.bel.size; simp; omega) ?_; intro v1 w1 ho hg _ ha; replace hG := Grow.next (news := [_, _, _]) (Grow.alloc hG _) rfl ho hg ha; clear ho hg ha)); have hcell := hG.dig 0 hds)
      go_wp2_with fail
      go_ret
      exact ⟨_, rfl, hG⟩
    case ne => exact ⟨fun hz => by have := congrArg List.length hz; simp only [List.length_append, List.length_map, List.length_take, List.length_drop, List.length_replicate, List.length_cons, List.length_nil] at this; omega, by simp only [List.length_append, List.length_map, List.length_take, List.length_drop, List.length_replicate, List.length_cons, List.length_nil]; omega⟩
set_option maxRecDepth 100000 in
set_option maxHeartbeats 6400000 in
theorem fmt_e_a_false_1 (ds : List UInt8) (nd : Nat) (h0 : 2 ≤ nd) (h1 : nd ≤ ds.length) (dp : Int) (hds : 0 < ds.length) (h2 : ds.length ≤ 20) (hx : dp - 1 < -4 ∧ -10 < dp - 1) (hd0 : -900 ≤ dp) (hd1 : dp ≤ 900) : FmtOk false ds sv32 dp nd nd := by
  obtain ⟨i0, hi0, hz0, hz1, hz2⟩ := info_parts info5
  have h_59481 : decide (dp - 1 < -4) = true := by simp; omega
  have h_67881 : decide (dp - 1 < 0) = true := by simp; omega
  have h_14858 : decide (-(dp - 1) < 10) = true := by simp; omega
  have h_5663 : decide (-(dp - 1) < 100) = true := by simp; omega
  have hc1 : ((nd : Int) != 0) = true := by rw [bne_iff_ne]; omega
  have hc2 : decide ((nd : Int) - 1 > 0) = true := by simp; omega
  have hmin : min (nd : Int) ((nd : Int) - 1 + 1) = nd := by omega
  apply Exists.intro
  case h =>
    refine And.intro ?ne ?hh
    case hh =>
      intro D W0 w v hG
      have hcell := hG.dig 0 hds
      go_enter Tryz.func132, Tryz.ntmps132
      repeat (go_wp2_with (at_builtin; refine Hid.out ?_); (first | (refine Lib.hid ?_; refine wpList_append_own_at _ rfl _ _ 46 rfl W0.heap.size 5 i0 (.int .u8 0) 1 1 Tryz.underlying46 hi0 hz0 hz1 hz2 rfl (by decide) _ _ _ rfl (Grow.own (Grow.alloc hG _)) ⟨_, 0, none⟩ 1 1 [.int .u8 _] rfl rfl (cell_one_new _ _ _) (by simp [Value.oneCell']) (by unfold maxLen; simp; try omega) (by simp; try omega) (by have := hG.bel.size; simp; omega) ?_; intro v1 w1 ho hg _ ha; replace hG := Grow.next (news := [_]) (Grow.alloc hG _) rfl ho hg ha; clear ho hg ha) | (refine Lib.hid ?_; refine wpList_append_own_at _ rfl _ _ 46 rfl W0.heap.size 5 i0 (.int .u8 0) 1 1 Tryz.underlying46 hi0 hz0 hz1 hz2 rfl (by decide) _ _ _ rfl (Grow.own (Grow.alloc hG _)) ⟨_, 0, none⟩ 2 2 [.int .u8 _, .int .u8 _] rfl rfl (World.news_of_block (heap_alloc_new _ _)) (by simp [Value.oneCell']) (by unfold maxLen; simp; try omega) (by simp; try omega) (by have := hG.bel.size; simp; omega) ?_; intro v1 w1 ho hg _ ha; replace hG := Grow.next (news := [_, _]) (Grow.alloc hG _) rfl ho hg ha; clear ho hg ha) | (refine Lib.hid ?_; refine wpList_append_own_at _ rfl _ _ 46 rfl W0.heap.size 5 i0 (.int .u8 0) 1 1 Tryz.underlying46 hi0 hz0 hz1 hz2 rfl (by decide) _ _ _ rfl (Grow.own (Grow.alloc hG _)) ⟨_, 0, none⟩ 3 3 [.int .u8 _, .int .u8 _, .int .u8 _] rfl rfl (World.news_of_block (heap_alloc_new _ _)) (by simp [Value.oneCell']) (by unfold maxLen; simp; try omega) (by simp; try omega) (by have := hG.bel.size; simp; omega) ?_; intro v1 w1 ho hg _ ha; replace hG := Grow.next (news := [_, _, _]) (Grow.alloc hG _) rfl ho hg ha; clear ho hg ha)); have hcell := hG.dig 0 hds)
      go_wp2_with (at_builtin; refine Hid.out ?_)
      (refine Lib.hid ?_; refine wpList_append_own_at _ rfl _ _ 46 rfl W0.heap.size 5 i0 (.int .u8 0) 1 1 Tryz.underlying46 hi0 hz0 hz1 hz2 rfl (by decide) _ _ _ rfl (Grow.own hG) ⟨D, 1, none⟩ (nd - 1) (32 - 1) (((ds.drop 1).take (nd - 1)).map fun b => Value.int .u8 (b.toNat : Int)) rfl (by simp; omega) (hG.piece 1 (nd - 1) (by omega)) (oneCell_map _) (by unfold maxLen; simp; try omega) (by simp; try omega) (hG.bel.size) ?_; intro v1 w1 ho hg _ ha; replace hG := Grow.next (m := (nd - 1)) (news := ((ds.drop 1).take (nd - 1)).map fun b => (b.toNat : Int)) hG (by simp; omega) (by simpa [Function.comp_def] using ho) hg ha; clear ho hg ha)
      go_wp2_with (at_builtin; refine Hid.out ?_)
      go_loop [0, 114] (fun dv i => dv = v1 ∧ i = .int .i64 0) (fun _ _ => 0)
      case atStart => exact ⟨rfl, rfl⟩
      case round =>
        obtain ⟨hv, rfl⟩ := hrel
        subst hv
        repeat (go_wp2_with (at_builtin; refine Hid.out ?_); (first | (refine Lib.hid ?_; refine wpList_append_own_at _ rfl _ _ 46 rfl W0.heap.size 5 i0 (.int .u8 0) 1 1 Tryz.underlying46 hi0 hz0 hz1 hz2 rfl (by decide) _ _ _ rfl (Grow.own (Grow.alloc hG _)) ⟨_, 0, none⟩ 1 1 [.int .u8 _] rfl rfl (cell_one_new _ _ _) (by simp [Value.oneCell']) (by unfold maxLen; simp; try omega) (by simp; try omega) (by have := hG.bel.size; simp; omega) ?_; intro v1 w1 ho hg _ ha; replace hG := Grow.next (news := [_]) (Grow.alloc hG _) rfl ho hg ha; clear ho hg ha) | (refine Lib.hid ?_; refine wpList_append_own_at _ rfl _ _ 46 rfl W0.heap.size 5 i0 (.int .u8 0) 1 1 Tryz.underlying46 hi0 hz0 hz1 hz2 rfl (by decide) _ _ _ rfl (Grow.own (Grow.alloc hG _)) ⟨_, 0, none⟩ 2 2 [.int .u8 _, .int .u8 _] rfl rfl (World.news_of_block (heap_alloc_new _ _)) (by simp [Value.oneCell']) (by unfold maxLen; simp; try omega) (by simp; try omega) (by have := hG.bel.size; simp; omega) ?_; intro v1 w1 ho hg _ ha; replace hG := Grow.next (news := [_, _]) (Grow.alloc hG _) rfl ho hg ha; clear ho hg ha) | (refine Lib.hid ?_; refine wpList_append_own_at _ rfl _ _ 46 rfl W0.heap.size 5 i0 (.int .u8 0) 1 1 Tryz.underlying46 hi0 hz0 hz1 hz2 rfl (by decide) _ _ _ rfl (Grow.own (Grow.alloc hG _)) ⟨_, 0, none⟩ 3 3 [.int .u8 _, .int .u8 _, .int .u8 _] rfl rfl (World.news_of_block (heap_alloc_new _ _)) (by simp [Value.oneCell']) (by unfold maxLen; simp; try omega) (by simp; try omega) (by have := hG.bel.size; simp; omega) ?_; intro v1 w1 ho hg _ ha; replace hG := Grow.next (news := [_, _, _]) (Grow.alloc hG _) rfl ho hg ha; clear ho hg ha)); have hcell := hG.dig 0 hds)
        go_wp2_with fail
        go_ret
        exact ⟨_, rfl, hG⟩
    case ne => exact ⟨fun hz => by have := congrArg List.length hz; simp only [List.length_append, List.length_map, List.length_take, List.length_drop, List.length_replicate, List.length_cons, List.length_nil] at this; omega, by simp only [List.length_append, List.length_map, List.length_take, List.length_drop, List.length_replicate, List.length_cons, List.length_nil]; omega⟩
set_option maxRecDepth 100000 in
set_option maxHeartbeats 6400000 in
theorem fmt_e_a_true_0 (ds : List UInt8)  (dp : Int) (hds : 0 < ds.length) (h2 : ds.length ≤ 20) (hx : dp - 1 < -4 ∧ -10 < dp - 1) (hd0 : -900 ≤ dp) (hd1 : dp ≤ 900) : FmtOk true ds sv32 dp 1 1 := by
  obtain ⟨i0, hi0, hz0, hz1, hz2⟩ := info_parts info5
  have h_59481 : decide (dp - 1 < -4) = true := by simp; omega
  have h_67881 : decide (dp - 1 < 0) = true := by simp; omega
  have h_14858 : decide (-(dp - 1) < 10) = true := by simp; omega
  have h_5663 : decide (-(dp - 1) < 100) = true := by simp; omega
  apply Exists.intro
  case h =>
    refine And.intro ?ne ?hh
    case hh =>
      intro D W0 w v hG
      have hcell := hG.dig 0 hds
      go_enter Tryz.func132, Tryz.ntmps132
      repeat (go_wp2_with (at_builtin; refine Hid.out ?_); (first | (refine Lib.hid ?_; refine wpList_append_own_at _ rfl _ _ 46 rfl W0.heap.size 5 i0 (.int .u8 0) 1 1 Tryz.underlying46 hi0 hz0 hz1 hz2 rfl (by decide) _ _ _ rfl (Grow.own (Grow.alloc hG _)) ⟨_, 0, none⟩ 1 1 [.int .u8 _] rfl rfl (cell_one_new _ _ _) (by simp [Value.oneCell']) (by unfold maxLen; simp; try omega) (by simp; try omega) (by have := hG.bel.size; simp; omega) ?_; intro v1 w1 ho hg _ ha; replace hG := Grow.next (news := [_]) (Grow.alloc hG _) rfl ho hg ha; clear ho hg ha) | (refine Lib.hid ?_; refine wpList_append_own_at _ rfl _ _ 46 rfl W0.heap.size 5 i0 (.int .u8 0) 1 1 Tryz.underlying46 hi0 hz0 hz1 hz2 rfl (by decide) _ _ _ rfl (Grow.own (Grow.alloc hG _)) ⟨_, 0, none⟩ 2 2 [.int .u8 _, .int .u8 _] rfl rfl (World.news_of_block (heap_alloc_new _ _)) (by simp [Value.oneCell']) (by unfold maxLen; simp; try omega) (by simp; try omega) (by have := hG.bel.size; simp; omega) ?_; intro v1 w1 ho hg _ ha; replace hG := Grow.next (news := [_, _]) (Grow.alloc hG _) rfl ho hg ha; clear ho hg ha) | (refine Lib.hid ?_; refine wpList_append_own_at _ rfl _ _ 46 rfl W0.heap.size 5 i0 (.int .u8 0) 1 1 Tryz.underlying46 hi0 hz0 hz1 hz2 rfl (by decide) _ _ _ rfl (Grow.own (Grow.alloc hG _)) ⟨_, 0, none⟩ 3 3 [.int .u8 _, .int .u8 _, .int .u8 _] rfl rfl (World.news_of_block (heap_alloc_new _ _)) (by simp [Value.oneCell']) (by unfold maxLen; simp; try omega) (by simp; try omega) (by have := hG.bel.size; simp; omega) ?_; intro v1 w1 ho hg _ ha; replace hG := Grow.next (news := [_, _, _]) (Grow.alloc hG _) rfl ho hg ha; clear ho hg ha)); have hcell := hG.dig 0 hds)
      go_wp2_with fail
      go_ret
      exact ⟨_, rfl, hG⟩
    case ne => exact ⟨fun hz => by have := congrArg List.length hz; simp only [List.length_append, List.length_map, List.length_take, List.length_drop, List.length_replicate, List.length_cons, List.length_nil] at this; omega, by simp only [List.length_append, List.length_map, List.length_take, List.length_drop, List.length_replicate, List.length_cons, List.length_nil]; omega⟩
set_option maxRecDepth 100000 in
set_option maxHeartbeats 6400000 in
theorem fmt_e_a_true_1 (ds : List UInt8) (nd : Nat) (h0 : 2 ≤ nd) (h1 : nd ≤ ds.length) (dp : Int) (hds : 0 < ds.length) (h2 : ds.length ≤ 20) (hx : dp - 1 < -4 ∧ -10 < dp - 1) (hd0 : -900 ≤ dp) (hd1 : dp ≤ 900) : FmtOk true ds sv32 dp nd nd := by
  obtain ⟨i0, hi0, hz0, hz1, hz2⟩ := info_parts info5
  have h_59481 : decide (dp - 1 < -4) = true := by simp; omega
  have h_67881 : decide (dp - 1 < 0) = true := by simp; omega
  have h_14858 : decide (-(dp - 1) < 10) = true := by simp; omega
  have h_5663 : decide (-(dp - 1) < 100) = true := by simp; omega
  have hc1 : ((nd : Int) != 0) = true := by rw [bne_iff_ne]; omega
  have hc2 : decide ((nd : Int) - 1 > 0) = true := by simp; omega
  have hmin : min (nd : Int) ((nd : Int) - 1 + 1) = nd := by omega
  apply Exists.intro
  case h =>
    refine And.intro ?ne ?hh
    case hh =>
      intro D W0 w v hG
      have hcell := hG.dig 0 hds
      go_enter Tryz.func132, Tryz.ntmps132
      repeat (go_wp2_with (at_builtin; refine Hid.out ?_); (first | (refine Lib.hid ?_; refine wpList_append_own_at _ rfl _ _ 46 rfl W0.heap.size 5 i0 (.int .u8 0) 1 1 Tryz.underlying46 hi0 hz0 hz1 hz2 rfl (by decide) _ _ _ rfl (Grow.own (Grow.alloc hG _)) ⟨_, 0, none⟩ 1 1 [.int .u8 _] rfl rfl (cell_one_new _ _ _) (by simp [Value.oneCell']) (by unfold maxLen; simp; try omega) (by simp; try omega) (by have := hG.bel.size; simp; omega) ?_; intro v1 w1 ho hg _ ha; replace hG := Grow.next (news := [_]) (Grow.alloc hG _) rfl ho hg ha; clear ho hg ha) | (refine Lib.hid ?_; refine wpList_append_own_at _ rfl _ _ 46 rfl W0.heap.size 5 i0 (.int .u8 0) 1 1 Tryz.underlying46 hi0 hz0 hz1 hz2 rfl (by decide) _ _ _ rfl (Grow.own (Grow.alloc hG _)) ⟨_, 0, none⟩ 2 2 [.int .u8 _, .int .u8 _] rfl rfl (World.news_of_block (heap_alloc_new _ _)) (by simp [Value.oneCell']) (by unfold maxLen; simp; try omega) (by simp; try omega) (by have := hG.bel.size; simp; omega) ?_; intro v1 w1 ho hg _ ha; replace hG := Grow.next (news := [_, _]) (Grow.alloc hG _) rfl ho hg ha; clear ho hg ha) | (refine Lib.hid ?_; refine wpList_append_own_at _ rfl _ _ 46 rfl W0.heap.size 5 i0 (.int .u8 0) 1 1 Tryz.underlying46 hi0 hz0 hz1 hz2 rfl (by decide) _ _ _ rfl (Grow.own (Grow.alloc hG _)) ⟨_, 0, none⟩ 3 3 [.int .u8 _, .int .u8 _, .int .u8 _] rfl rfl (World.news_of_block (heap_alloc_new _ _)) (by simp [Value.oneCell']) (by unfold maxLen; simp; try omega) (by simp; try omega) (by have := hG.bel.size; simp; omega) ?_; intro v1 w1 ho hg _ ha; replace hG := Grow.next (news := [_, _, _]) (Grow.alloc hG _) rfl ho hg ha; clear ho hg ha)); have hcell := hG.dig 0 hds)
      go_wp2_with (at_builtin; refine Hid.out ?_)
      (refine Lib.hid ?_; refine wpList_append_own_at _ rfl _ _ 46 rfl W0.heap.size 5 i0 (.int .u8 0) 1 1 Tryz.underlying46 hi0 hz0 hz1 hz2 rfl (by decide) _ _ _ rfl (Grow.own hG) ⟨D, 1, none⟩ (nd - 1) (32 - 1) (((ds.drop 1).take (nd - 1)).map fun b => Value.int .u8 (b.toNat : Int)) rfl (by simp; omega) (hG.piece 1 (nd - 1) (by omega)) (oneCell_map _) (by unfold maxLen; simp; try omega) (by simp; try omega) (hG.bel.size) ?_; intro v1 w1 ho hg _ ha; replace hG := Grow.next (m := (nd - 1)) (news := ((ds.drop 1).take (nd - 1)).map fun b => (b.toNat : Int)) hG (by simp; omega) (by simpa [Function.comp_def] using ho) hg ha; clear ho hg ha)
      go_wp2_with (at_builtin; refine Hid.out ?_)
      go_loop [0, 114] (fun dv i => dv = v1 ∧ i = .int .i64 0) (fun _ _ => 0)
      case atStart => exact ⟨rfl, rfl⟩
      case round =>
        obtain ⟨hv, rfl⟩ := hrel
        subst hv
        repeat (go_wp2_with (at_builtin; refine Hid.out ?_); (first | (refine Lib.hid ?_; refine wpList_append_own_at _ rfl _ _ 46 rfl W0.heap.size 5 i0 (.int .u8 0) 1 1 Tryz.underlying46 hi0 hz0 hz1 hz2 rfl (by decide) _ _ _ rfl (Grow.own (Grow.alloc hG _)) ⟨_, 0, none⟩ 1 1 [.int .u8 _] rfl rfl (cell_one_new _ _ _) (by simp [Value.oneCell']) (by unfold maxLen; simp; try omega) (by simp; try omega) (by have := hG.bel.size; simp; omega) ?_; intro v1 w1 ho hg _ ha; replace hG := Grow.next (news := [_]) (Grow.alloc hG _) rfl ho hg ha; clear ho hg ha) | (refine Lib.hid ?_; refine wpList_append_own_at _ rfl _ _ 46 rfl W0.heap.size 5 i0 (.int .u8 0) 1 1 Tryz.underlying46 hi0 hz0 hz1 hz2 rfl (by decide) _ _ _ rfl (Grow.own (Grow.alloc hG _)) ⟨_, 0, none⟩ 2 2 [.int .u8 _, .int .u8 _] rfl rfl (World.news_of_block (heap_alloc_new _ _)) (by simp [Value.oneCell']) (by unfold maxLen; simp; try omega) (by simp; try omega) (by have := hG.bel.size; simp; omega) ?_; intro v1 w1 ho hg _ ha; replace hG := Grow.next (news := [_, _]) (Grow.alloc hG _) rfl ho hg ha; clear ho hg ha) | (refine Lib.hid ?_; refine wpList_append_own_at _ rfl _ _ 46 rfl W0.heap.size 5 i0 (.int .u8 0) 1 1 Tryz.underlying46 hi0 hz0 hz1 hz2 rfl (by decide) _ _ _ rfl (Grow.own (Grow.alloc hG _)) ⟨_, 0, none⟩ 3 3 [.int .u8 _, .int .u8 _, .int .u8 _] rfl rfl (World.news_of_block (heap_alloc_new _ _)) (by simp [Value.oneCell']) (by unfold maxLen; simp; try omega) (by simp; try omega) (by have := hG.bel.size; simp; omega) ?_; intro v1 w1 ho hg _ ha; replace hG := Grow.next (news := [_, _, _]) (Grow.alloc hG _) rfl ho hg ha; clear ho hg ha)); have hcell := hG.dig 0 hds)
        go_wp2_with fail
        go_ret
        exact ⟨_, rfl, hG⟩
    case ne => exact ⟨fun hz => by have := congrArg List.length hz; simp only [List.length_append, List.length_map, List.length_take, List.length_drop, List.length_replicate, List.length_cons, List.length_nil] at this; omega, by simp only [List.length_append, List.length_map, List.length_take, List.length_drop, List.length_replicate, List.length_cons, List.length_nil]; omega⟩
set_option maxRecDepth 100000 in
set_option maxHeartbeats 6400000 in
theorem fmt_e_b_false_0 (ds : List UInt8)  (dp : Int) (hds : 0 < ds.length) (h2 : ds.length ≤ 20) (hx : dp - 1 ≤ -10 ∧ -100 < dp - 1) (hd0 : -900 ≤ dp) (hd1 : dp ≤ 900) : FmtOk false ds sv32 dp 1 1 := by
  obtain ⟨i0, hi0, hz0, hz1, hz2⟩ := info_parts info5
  have h_59481 : decide (dp - 1 < -4) = true := by simp; omega
  have h_67881 : decide (dp - 1 < 0) = true := by simp; omega
  have h_14858 : decide (-(dp - 1) < 10) = false := by simp; omega
  have h_5663 : decide (-(dp - 1) < 100) = true := by simp; omega
  apply Exists.intro
  case h =>
    refine And.intro ?ne ?hh
    case hh =>
      intro D W0 w v hG
      have hcell := hG.dig 0 hds
      go_enter Tryz.func132, Tryz.ntmps132
      repeat (go_wp2_with (at_builtin; refine Hid.out ?_); (first | (refine Lib.hid ?_; refine wpList_append_own_at _ rfl _ _ 46 rfl W0.heap.size 5 i0 (.int .u8 0) 1 1 Tryz.underlying46 hi0 hz0 hz1 hz2 rfl (by decide) _ _ _ rfl (Grow.own (Grow.alloc hG _)) ⟨_, 0, none⟩ 1 1 [.int .u8 _] rfl rfl (cell_one_new _ _ _) (by simp [Value.oneCell']) (by unfold maxLen; simp; try omega) (by simp; try omega) (by have := hG.bel.size; simp; omega) ?_; intro v1 w1 ho hg _ ha; replace hG := Grow.next (news := [_]) (Grow.alloc hG _) rfl ho hg ha; clear ho hg ha) | (refine Lib.hid ?_; refine wpList_append_own_at _ rfl _ _ 46 rfl W0.heap.size 5 i0 (.int .u8 0) 1 1 Tryz.underlying46 hi0 hz0 hz1 hz2 rfl (by decide) _ _ _ rfl (Grow.own (Grow.alloc hG _)) ⟨_, 0, none⟩ 2 2 [.int .u8 _, .int .u8 _] rfl rfl (World.news_of_block (heap_alloc_new _ _)) (by simp [Value.oneCell']) (by unfold maxLen; simp; try omega) (by simp; try omega) (by have := hG.bel.size; simp; omega) ?_; intro v1 w1 ho hg _ ha; replace hG := Grow.next (news := [_, _]) (Grow.alloc hG _) rfl ho hg ha; clear ho hg ha) | (refine Lib.hid ?_; refine wpList_append_own_at _ rfl _ _ 46 rfl W0.heap.size 5 i0 (.int .u8 0) 1 1 Tryz.underlying46 hi0 hz0 hz1 hz2 rfl (by decide) _ _ _ rfl (Grow.own (Grow.alloc hG _)) ⟨_, 0, none⟩ 3 3 [.int .u8 _, .int .u8 _, .int .u8 _] rfl rfl (World.news_of_block (heap_alloc_new _ _)) (by simp [Value.oneCell']) (by unfold maxLen; simp; try omega) (by simp; try omega) (by have := hG.bel.size; simp; omega) ?_; intro v1 w1 ho hg _ ha; replace hG := Grow.next (news := [_, _, _]) (Grow.alloc hG _) rfl ho hg ha; clear ho hg ha)); have hcell := hG.dig 0 hds)
      go_wp2_with fail
      go_ret
      exact ⟨_, rfl, hG⟩
    case ne => exact ⟨fun hz => by have := congrArg List.length hz; simp only [List.length_append, List.length_map, List.length_take, List.length_drop, List.length_replicate, List.length_cons, List.length_nil] at this; omega, by simp only [List.length_append, List.length_map, List.length_take, List.length_drop, List.length_replicate, List.length_cons, List.length_nil]; omega⟩
set_option maxRecDepth 100000 in
set_option maxHeartbeats 6400000 in
theorem fmt_e_b_false_1 (ds : List UInt8) (nd : Nat) (h0 : 2 ≤ nd) (h1 : nd ≤ ds.length) (dp : Int) (hds : 0 < ds.length) (h2 : ds.length ≤ 20) (hx : dp - 1 ≤ -10 ∧ -100 < dp - 1) (hd0 : -900 ≤ dp) (hd1 : dp ≤ 900) : FmtOk false ds sv32 dp nd nd := by
  obtain ⟨i0, hi0, hz0, hz1, hz2⟩ := info_parts info5
  have h_59481 : decide (dp - 1 < -4) = true := by simp; omega
  have h_67881 : decide (dp - 1 < 0) = true := by simp; omega
  have h_14858 : decide (-(dp - 1) < 10) = false := by simp; omega
  have h_5663 : decide (-(dp - 1) < 100) = true := by simp; omega
  have hc1 : ((nd : Int) != 0) = true := by rw [bne_iff_ne]; omega
  have hc2 : decide ((nd : Int) - 1 > 0) = true := by simp; omega
  have hmin : min (nd : Int) ((nd : Int) - 1 + 1) = nd := by omega
  apply Exists.intro
  case h =>
    refine And.intro ?ne ?hh
    case hh =>
      intro D W0 w v hG
      have hcell := hG.dig 0 hds
      go_enter Tryz.func132, Tryz.ntmps132
      repeat (go_wp2_with (at_builtin; refine Hid.out ?_); (first | (refine Lib.hid ?_; refine wpList_append_own_at _ rfl _ _ 46 rfl W0.heap.size 5 i0 (.int .u8 0) 1 1 Tryz.underlying46 hi0 hz0 hz1 hz2 rfl (by decide) _ _ _ rfl (Grow.own (Grow.alloc hG _)) ⟨_, 0, none⟩ 1 1 [.int .u8 _] rfl rfl (cell_one_new _ _ _) (by simp [Value.oneCell']) (by unfold maxLen; simp; try omega) (by simp; try omega) (by have := hG.bel.size; simp; omega) ?_; intro v1 w1 ho hg _ ha; replace hG := Grow.next (news := [_]) (Grow.alloc hG _) rfl ho hg ha; clear ho hg ha) | (refine Lib.hid ?_; refine wpList_append_own_at _ rfl _ _ 46 rfl W0.heap.size 5 i0 (.int .u8 0) 1 1 Tryz.underlying46 hi0 hz0 hz1 hz2 rfl (by decide) _ _ _ rfl (Grow.own (Grow.alloc hG _)) ⟨_, 0, none⟩ 2 2 [.int .u8 _, .int .u8 _] rfl rfl (World.news_of_block (heap_alloc_new _ _)) (by simp [Value.oneCell']) (by unfold maxLen; simp; try omega) (by simp; try omega) (by have := hG.bel.size; simp; omega) ?_; intro v1 w1 ho hg _ ha; replace hG := Grow.next (news := [_, _]) (Grow.alloc hG _) rfl ho hg ha; clear ho hg ha) | (refine Lib.hid ?_; refine wpList_append_own_at _ rfl _ _ 46 rfl W0.heap.size 5 i0 (.int .u8 0) 1 1 Tryz.underlying46 hi0 hz0 hz1 hz2 rfl (by decide) _ _ _ rfl (Grow.own (Grow.alloc hG _)) ⟨_, 0, none⟩ 3 3 [.int .u8 _, .int .u8 _, .int .u8 _] rfl rfl (World.news_of_block (heap_alloc_new _ _)) (by simp [Value.oneCell']) (by unfold maxLen; simp; try omega) (by simp; try omega) (by have := hG.bel.size; simp; omega) ?_; intro v1 w1 ho hg _ ha; replace hG := Grow.next (news := [_, _, _]) (Grow.alloc hG _) rfl ho hg ha; clear ho hg ha)); have hcell := hG.dig 0 hds)
      go_wp2_with (at_builtin; refine Hid.out ?_)
      (refine Lib.hid ?_; refine wpList_append_own_at _ rfl _ _ 46 rfl W0.heap.size 5 i0 (.int .u8 0) 1 1 Tryz.underlying46 hi0 hz0 hz1 hz2 rfl (by decide) _ _ _ rfl (Grow.own hG) ⟨D, 1, none⟩ (nd - 1) (32 - 1) (((ds.drop 1).take (nd - 1)).map fun b => Value.int .u8 (b.toNat : Int)) rfl (by simp; omega) (hG.piece 1 (nd - 1) (by omega)) (oneCell_map _) (by unfold maxLen; simp; try omega) (by simp; try omega) (hG.bel.size) ?_; intro v1 w1 ho hg _ ha; replace hG := Grow.next (m := (nd - 1)) (news := ((ds.drop 1).take (nd - 1)).map fun b => (b.toNat : Int)) hG (by simp; omega) (by simpa [Function.comp_def] using ho) hg ha; clear ho hg ha)
      go_wp2_with (at_builtin; refine Hid.out ?_)
      go_loop [0, 114] (fun dv i => dv = v1 ∧ i = .int .i64 0) (fun _ _ => 0)
      case atStart => exact ⟨rfl, rfl⟩
      case round =>
        obtain ⟨hv, rfl⟩ := hrel
        subst hv
        repeat (go_wp2_with (at_builtin; refine Hid.out ?_); (first | (refine Lib.hid ?_; refine wpList_append_own_at _ rfl _ _ 46 rfl W0.heap.size 5 i0 (.int .u8 0) 1 1 Tryz.underlying46 hi0 hz0 hz1 hz2 rfl (by decide) _ _ _ rfl (Grow.own (Grow.alloc hG _)) ⟨_, 0, none⟩ 1 1 [.int .u8 _] rfl rfl (cell_one_new _ _ _) (by simp [Value.oneCell']) (by unfold maxLen; simp; try omega) (by simp; try omega) (by have := hG.bel.size; simp; omega) ?_; intro v1 w1 ho hg _ ha; replace hG := Grow.next (news := [_]) (Grow.alloc hG _) rfl ho hg ha; clear ho hg ha) | (refine Lib.hid ?_; refine wpList_append_own_at _ rfl _ _ 46 rfl W0.heap.size 5 i0 (.int .u8 0) 1 1 Tryz.underlying46 hi0 hz0 hz1 hz2 rfl (by decide) _ _ _ rfl (Grow.own (Grow.alloc hG _)) ⟨_, 0, none⟩ 2 2 [.int .u8 _, .int .u8 _] rfl rfl (World.news_of_block (heap_alloc_new _ _)) (by simp [Value.oneCell']) (by unfold maxLen; simp; try omega) (by simp; try omega) (by have := hG.bel.size; simp; omega) ?_; intro v1 w1 ho hg _ ha; replace hG := Grow.next (news := [_, _]) (Grow.alloc hG _) rfl ho hg ha; clear ho hg ha) | (refine Lib.hid ?_; refine wpList_append_own_at _ rfl _ _ 46 rfl W0.heap.size 5 i0 (.int .u8 0) 1 1 Tryz.underlying46 hi0 hz0 hz1 hz2 rfl (by decide) _ _ _ rfl (Grow.own (Grow.alloc hG _)) ⟨_, 0, none⟩ 3 3 [.int .u8 _, .int .u8 _, .int .u8 _] rfl rfl (World.news_of_block (heap_alloc_new _ _)) (by simp [Value.oneCell']) (by unfold maxLen; simp; try omega) (by simp; try omega) (by have := hG.bel.size; simp; omega) ?_; intro v1 w1 ho hg _ ha; replace hG := Grow.next (news := [_, _, _]) (Grow.alloc hG _) rfl ho hg ha; clear ho hg ha)); have hcell := hG.dig 0 hds)
        go_wp2_with fail
        go_ret
        exact ⟨_, rfl, hG⟩
    case ne => exact ⟨fun hz => by have := congrArg List.length hz; simp only [List.length_append, List.length_map, List.length_take, List.length_drop, List.length_replicate, List.length_cons, List.length_nil] at this; omega, by simp only [List.length_append, List.length_map, List.length_take, List.length_drop, List.length_replicate, List.length_cons, List.length_nil]; omega⟩
set_option maxRecDepth 100000 in
set_option maxHeartbeats 6400000 in
theorem fmt_e_b_true_0 (ds : List UInt8)  (dp : Int) (hds : 0 < ds.length) (h2 : ds.length ≤ 20) (hx : dp - 1 ≤ -10 ∧ -100 < dp - 1) (hd0 : -900 ≤ dp) (hd1 : dp ≤ 900) : FmtOk true ds sv32 dp 1 1 := by
  obtain ⟨i0, hi0, hz0, hz1, hz2⟩ := info_parts info5
  have h_59481 : decide (dp - 1 < -4) = true := by simp; omega
  have h_67881 : decide (dp - 1 < 0) = true := by simp; omega
  have h_14858 : decide (-(dp - 1) < 10) = false := by simp; omega
  have h_5663 : decide (-(dp - 1) < 100) = true := by simp; omega
  apply Exists.intro
  case h =>
    refine And.intro ?ne ?hh
    case hh =>
      intro D W0 w v hG
      have hcell := hG.dig 0 hds
      go_enter Tryz.func132, Tryz.ntmps132
      repeat (go_wp2_with (at_builtin; refine Hid.out ?_); (first | (refine Lib.hid ?_; refine wpList_append_own_at _ rfl _ _ 46 rfl W0.heap.size 5 i0 (.int .u8 0) 1 1 Tryz.underlying46 hi0 hz0 hz1 hz2 rfl (by decide) _ _ _ rfl (Grow.own (Grow.alloc hG _)) ⟨_, 0, none⟩ 1 1 [.int .u8 _] rfl rfl (cell_one_new _ _ _) (by simp [Value.oneCell']) (by unfold maxLen; simp; try omega) (by simp; try omega) (by have := hG.bel.size; simp; omega) ?_; intro v1 w1 ho hg _ ha; replace hG := Grow.next (news := [_]) (Grow.alloc hG _) rfl ho hg ha; clear ho hg ha) | (refine Lib.hid ?_; refine wpList_append_own_at _ rfl _ _ 46 rfl W0.heap.size 5 i0 (.int .u8 0) 1 1 Tryz.underlying46 hi0 hz0 hz1 hz2 rfl (by decide) _ _ _ rfl (Grow.own (Grow.alloc hG _)) ⟨_, 0, none⟩ 2 2 [.int .u8 _, .int .u8 _] rfl rfl (World.news_of_block (heap_alloc_new _ _)) (by simp [Value.oneCell']) (by unfold maxLen; simp; try omega) (by simp; try omega) (by have := hG.bel.size; simp; omega) ?_; intro v1 w1 ho hg _ ha; replace hG := Grow.next (news := [_, _]) (Grow.alloc hG _) rfl ho hg ha; clear ho hg ha) | (refine Lib.hid ?_; refine wpList_append_own_at _ rfl _ _ 46 rfl W0.heap.size 5 i0 (.int .u8 0) 1 1 Tryz.underlying46 hi0 hz0 hz1 hz2 rfl (by decide) _ _ _ rfl (Grow.own (Grow.alloc hG _)) ⟨_, 0, none⟩ 3 3 [.int .u8 _, .int .u8 _, .int .u8 _] rfl rfl (World.news_of_block (heap_alloc_new _ _)) (by simp [Value.oneCell']) (by unfold maxLen; simp; try omega) (by simp; try omega) (by have := hG.bel.size; simp; omega) ?_; intro v1 w1 ho hg _ ha; replace hG := Grow.next (news := [_, _, _]) (Grow.alloc hG _) rfl ho hg ha; clear ho hg ha)); have hcell := hG.dig 0 hds)
      go_wp2_with fail
      go_ret
      exact ⟨_, rfl, hG⟩
    case ne => exact ⟨fun hz => by have := congrArg List.length hz; simp only [List.length_append, List.length_map, List.length_take, List.length_drop, List.length_replicate, List.length_cons, List.length_nil] at this; omega, by simp only [List.length_append, List.length_map, List.length_take, List.length_drop, List.length_replicate, List.length_cons, List.length_nil]; omega⟩
set_option maxRecDepth 100000 in
set_option maxHeartbeats 6400000 in
theorem fmt_e_b_true_1 (ds : List UInt8) (nd : Nat) (h0 : 2 ≤ nd) (h1 : nd ≤ ds.length) (dp : Int) (hds : 0 < ds.length) (h2 : ds.length ≤ 20) (hx : dp - 1 ≤ -10 ∧ -100 < dp - 1) (hd0 : -900 ≤ dp) (hd1 : dp ≤ 900) : FmtOk true ds sv32 dp nd nd := by
  obtain ⟨i0, hi0, hz0, hz1, hz2⟩ := info_parts info5
  have h_59481 : decide (dp - 1 < -4) = true := by simp; omega
  have h_67881 : decide (dp - 1 < 0) = true := by simp; omega
  have h_14858 : decide (-(dp - 1) < 10) = false := by simp; omega
  have h_5663 : decide (-(dp - 1) < 100) = true := by simp; omega
  have hc1 : ((nd : Int) != 0) = true := by rw [bne_iff_ne]; omega
  have hc2 : decide ((nd : Int) - 1 > 0) = true := by simp; omega
  have hmin : min (nd : Int) ((nd : Int) - 1 + 1) = nd := by omega
  apply Exists.intro
  case h =>
    refine And.intro ?ne ?hh
    case hh =>
      intro D W0 w v hG
      have hcell := hG.dig 0 hds
      go_enter Tryz.func132, Tryz.ntmps132
      repeat (go_wp2_with (at_builtin; refine Hid.out ?_); (first | (refine Lib.hid ?_; refine wpList_append_own_at _ rfl _ _ 46 rfl W0.heap.size 5 i0 (.int .u8 0) 1 1 Tryz.underlying46 hi0 hz0 hz1 hz2 rfl (by decide) _ _ _ rfl (Grow.own (Grow.alloc hG _)) ⟨_, 0, none⟩ 1 1 [.int .u8 _] rfl rfl (cell_one_new _ _ _) (by simp [Value.oneCell']) (by unfold maxLen; simp; try omega) (by simp; try omega) (by have := hG.bel.size; simp; omega) ?_; intro v1 w1 ho hg _ ha; replace hG := Grow.next (news := [_]) (Grow.alloc hG _) rfl ho hg ha; clear ho hg ha) | (refine Lib.hid ?_; refine wpList_append_own_at _ rfl _ _ 46 rfl W0.heap.size 5 i0 (.int .u8 0) 1 1 Tryz.underlying46 hi0 hz0 hz1 hz2 rfl (by decide) _ _ _ rfl (Grow.own (Grow.alloc hG _)) ⟨_, 0, none⟩ 2 2 [.int .u8 _, .int .u8 _] rfl rfl (World.news_of_block (heap_alloc_new _ _)) (by simp [Value.oneCell']) (by unfold maxLen; simp; try omega) (by simp; try omega) (by have := hG.bel.size; simp; omega) ?_; intro v1 w1 ho hg _ ha; replace hG := Grow.next (news := [_, _]) (Grow.alloc hG _) rfl ho hg ha; clear ho hg ha) | (refine Lib.hid ?_; refine wpList_append_own_at _ rfl _ _ 46 rfl W0.heap.size 5 i0 (.int .u8 0) 1 1 Tryz.underlying46 hi0 hz0 hz1 hz2 rfl (by decide) _ _ _ rfl (Grow.own (Grow.alloc hG _)) ⟨_, 0, none⟩ 3 3 [.int .u8 _, .int .u8 _, .int .u8 _] rfl rfl (World.news_of_block (heap_alloc_new _ _)) (by simp [Value.oneCell']) (by unfold maxLen; simp; try omega) (by simp; try omega) (by have := hG.bel.size; simp; omega) ?_; intro v1 w1 ho hg _ ha; replace hG := Grow.next (news := [_, _, _]) (Grow.alloc hG _) rfl ho hg ha; clear ho hg ha)); have hcell := hG.dig 0 hds)
      go_wp2_with (at_builtin; refine Hid.out ?_)
      (refine Lib.hid ?_; refine wpList_append_own_at _ rfl _ _ 46 rfl W0.heap.size 5 i0 (.int .u8 0) 1 1 Tryz.underlying46 hi0 hz0 hz1 hz2 rfl (by decide) _ _ _ rfl (Grow.own hG) ⟨D, 1, none⟩ (nd - 1) (32 - 1) (((ds.drop 1).take (nd - 1)).map fun b => Value.int .u8 (b.toNat : Int)) rfl (by simp; omega) (hG.piece 1 (nd - 1) (by omega)) (oneCell_map _) (by unfold maxLen; simp; try omega) (by simp; try omega) (hG.bel.size) ?_; intro v1 w1 ho hg _ ha; replace hG := Grow.next (m := (nd - 1)) (news := ((ds.drop 1).take (nd - 1)).map fun b => (b.toNat : Int)) hG (by simp; omega) (by simpa [Function.comp_def] using ho) hg ha; clear ho hg ha)
      go_wp2_with (at_builtin; refine Hid.out ?_)
      go_loop [0, 114] (fun dv i => dv = v1 ∧ i = .int .i64 0) (fun _ _ => 0)
      case atStart => exact ⟨rfl, rfl⟩
      case round =>
        obtain ⟨hv, rfl⟩ := hrel
        subst hv
        repeat (go_wp2_with (at_builtin; refine Hid.out ?_); (first | (refine Lib.hid ?_; refine wpList_append_own_at _ rfl _ _ 46 rfl W0.heap.size 5 i0 (.int .u8 0) 1 1 Tryz.underlying46 hi0 hz0 hz1 hz2 rfl (by decide) _ _ _ rfl (Grow.own (Grow.alloc hG _)) ⟨_, 0, none⟩ 1 1 [.int .u8 _] rfl rfl (cell_one_new _ _ _) (by simp [Value.oneCell']) (by unfold maxLen; simp; try omega) (by simp; try omega) (by have := hG.bel.size; simp; omega) ?_; intro v1 w1 ho hg _ ha; replace hG := Grow.next (news := [_]) (Grow.alloc hG _) rfl ho hg ha; clear ho hg ha) | (refine Lib.hid ?_; refine wpList_append_own_at _ rfl _ _ 46 rfl W0.heap.size 5 i0 (.int .u8 0) 1 1 Tryz.underlying46 hi0 hz0 hz1 hz2 rfl (by decide) _ _ _ rfl (Grow.own (Grow.alloc hG _)) ⟨_, 0, none⟩ 2 2 [.int .u8 _, .int .u8 _] rfl rfl (World.news_of_block (heap_alloc_new _ _)) (by simp [Value.oneCell']) (by unfold maxLen; simp; try omega) (by simp; try omega) (by have := hG.bel.size; simp; omega) ?_; intro v1 w1 ho hg _ ha; replace hG := Grow.next (news := [_, _]) (Grow.alloc hG _) rfl ho hg ha; clear ho hg ha) | (refine Lib.hid ?_; refine wpList_append_own_at _ rfl _ _ 46 rfl W0.heap.size 5 i0 (.int .u8 0) 1 1 Tryz.underlying46 hi0 hz0 hz1 hz2 rfl (by decide) _ _ _ rfl (Grow.own (Grow.alloc hG _)) ⟨_, 0, none⟩ 3 3 [.int .u8 _, .int .u8 _, .int .u8 _] rfl rfl (World.news_of_block (heap_alloc_new _ _)) (by simp [Value.oneCell']) (by unfold maxLen; simp; try omega) (by simp; try omega) (by have := hG.bel.size; simp; omega) ?_; intro v1 w1 ho hg _ ha; replace hG := Grow.next (news := [_, _, _]) (Grow.alloc hG _) rfl ho hg ha; clear ho hg ha)); have hcell := hG.dig 0 hds)
        go_wp2_with fail
        go_ret
        exact ⟨_, rfl, hG⟩
    case ne => exact ⟨fun hz => by have := congrArg List.length hz; simp only [List.length_append, List.length_map, List.length_take, List.length_drop, List.length_replicate, List.length_cons, List.length_nil] at this; omega, by simp only [List.length_append, List.length_map, List.length_take, List.length_drop, List.length_replicate, List.length_cons, List.length_nil]; omega⟩
set_option maxRecDepth 100000 in
set_option maxHeartbeats 6400000 in
theorem fmt_e_c_false_0 (ds : List UInt8)  (dp : Int) (hds : 0 < ds.length) (h2 : ds.length ≤ 20) (hx : dp - 1 ≤ -100) (hd0 : -900 ≤ dp) (hd1 : dp ≤ 900) : FmtOk false ds sv32 dp 1 1 := by
  obtain ⟨i0, hi0, hz0, hz1, hz2⟩ := info_parts info5
  have h_59481 : decide (dp - 1 < -4) = true := by simp; omega
  have h_67881 : decide (dp - 1 < 0) = true := by simp; omega
  have h_14858 : decide (-(dp - 1) < 10) = false := by simp; omega
  have h_5663 : decide (-(dp - 1) < 100) = false := by simp; omega
  apply Exists.intro
  case h =>
    refine And.intro ?ne ?hh
    case hh =>
      intro D W0 w v hG
      have hcell := hG.dig 0 hds
      go_enter Tryz.func132, Tryz.ntmps132
      repeat (go_wp2_with (at_builtin; refine Hid.out ?_); (first | (refine Lib.hid ?_; refine wpList_append_own_at _ rfl _ _ 46 rfl W0.heap.size 5 i0 (.int .u8 0) 1 1 Tryz.underlying46 hi0 hz0 hz1 hz2 rfl (by decide) _ _ _ rfl (Grow.own (Grow.alloc hG _)) ⟨_, 0, none⟩ 1 1 [.int .u8 _] rfl rfl (cell_one_new _ _ _) (by simp [Value.oneCell']) (by unfold maxLen; simp; try omega) (by simp; try omega) (by have := hG.bel.size; simp; omega) ?_; intro v1 w1 ho hg _ ha; replace hG := Grow.next (news := [_]) (Grow.alloc hG _) rfl ho hg ha; clear ho hg ha) | (refine Lib.hid ?_; refine wpList_append_own_at _ rfl _ _ 46 rfl W0.heap.size 5 i0 (.int .u8 0) 1 1 Tryz.underlying46 hi0 hz0 hz1 hz2 rfl (by decide) _ _ _ rfl (Grow.own (Grow.alloc hG _)) ⟨_, 0, none⟩ 2 2 [.int .u8 _, .int .u8 _] rfl rfl (World.news_of_block (heap_alloc_new _ _)) (by simp [Value.oneCell']) (by unfold maxLen; simp; try omega) (by simp; try omega) (by have := hG.bel.size; simp; omega) ?_; intro v1 w1 ho hg _ ha; replace hG := Grow.next (news := [_, _]) (Grow.alloc hG _) rfl ho hg ha; clear ho hg ha) | (refine Lib.hid ?_; refine wpList_append_own_at _ rfl _ _ 46 rfl W0.heap.size 5 i0 (.int .u8 0) 1 1 Tryz.underlying46 hi0 hz0 hz1 hz2 rfl (by decide) _ _ _ rfl (Grow.own (Grow.alloc hG _)) ⟨_, 0, none⟩ 3 3 [.int .u8 _, .int .u8 _, .int .u8 _] rfl rfl (World.news_of_block (heap_alloc_new _ _)) (by simp [Value.oneCell']) (by unfold maxLen; simp; try omega) (by simp; try omega) (by have := hG.bel.size; simp; omega) ?_; intro v1 w1 ho hg _ ha; replace hG := Grow.next (news := [_, _, _]) (Grow.alloc hG _) rfl ho hg ha; clear ho hg ha)); have hcell := hG.dig 0 hds)
      go_wp2_with fail
      go_ret
      exact ⟨_, rfl, hG⟩
    case ne => exact ⟨fun hz => by have := congrArg List.length hz; simp only [List.length_append, List.length_map, List.length_take, List.length_drop, List.length_replicate, List.length_cons, List.length_nil] at this; omega, by simp only [List.length_append, List.length_map, List.length_take, List.length_drop, List.length_replicate, List.length_cons, List.length_nil]; omega⟩
set_option maxRecDepth 100000 in
set_option maxHeartbeats 6400000 in
theorem fmt_e_c_false_1 (ds : List UInt8) (nd : Nat) (h0 : 2 ≤ nd) (h1 : nd ≤ ds.length) (dp : Int) (hds : 0 < ds.length) (h2 : ds.length ≤ 20) (hx : dp - 1 ≤ -100) (hd0 : -900 ≤ dp) (hd1 : dp ≤ 900) : FmtOk false ds sv32 dp nd nd := by
  obtain ⟨i0, hi0, hz0, hz1, hz2⟩ := info_parts info5
  have h_59481 : decide (dp - 1 < -4) = true := by simp; omega
  have h_67881 : decide (dp - 1 < 0) = true := by simp; omega
  have h_14858 : decide (-(dp - 1) < 10) = false := by simp; omega
  have h_5663 : decide (-(dp - 1) < 100) = false := by simp; omega
  have hc1 : ((nd : Int) != 0) = true := by rw [bne_iff_ne]; omega
  have hc2 : decide ((nd : Int) - 1 > 0) = true := by simp; omega
  have hmin : min (nd : Int) ((nd : Int) - 1 + 1) = nd := by omega
  apply Exists.intro
  case h =>
    refine And.intro ?ne ?hh
    case hh =>
      intro D W0 w v hG
      have hcell := hG.dig 0 hds
      go_enter Tryz.func132, Tryz.ntmps132
      repeat (go_wp2_with (at_builtin; refine Hid.out ?_); (first | (refine Lib.hid ?_; refine wpList_append_own_at _ rfl _ _ 46 rfl W0.heap.size 5 i0 (.int .u8 0) 1 1 Tryz.underlying46 hi0 hz0 hz1 hz2 rfl (by decide) _ _ _ rfl (Grow.own (Grow.alloc hG _)) ⟨_, 0, none⟩ 1 1 [.int .u8 _] rfl rfl (cell_one_new _ _ _) (by simp [Value.oneCell']) (by unfold maxLen; simp; try omega) (by simp; try omega) (by have := hG.bel.size; simp; omega) ?_; intro v1 w1 ho hg _ ha; replace hG := Grow.next (news := [_]) (Grow.alloc hG _) rfl ho hg ha; clear ho hg ha) | (refine Lib.hid ?_; refine wpList_append_own_at _ rfl _ _ 46 rfl W0.heap.size 5 i0 (.int .u8 0) 1 1 Tryz.underlying46 hi0 hz0 hz1 hz2 rfl (by decide) _ _ _ rfl (Grow.own (Grow.alloc hG _)) ⟨_, 0, none⟩ 2 2 [.int .u8 _, .int .u8 _] rfl rfl (World.news_of_block (heap_alloc_new _ _)) (by simp [Value.oneCell']) (by unfold maxLen; simp; try omega) (by simp; try omega) (by have := hG.bel.size; simp; omega) ?_; intro v1 w1 ho hg _ ha; replace hG := Grow.next (news := [_, _]) (Grow.alloc hG _) rfl ho hg ha; clear ho hg ha) | (refine Lib.hid ?_; refine wpList_append_own_at _ rfl _ _ 46 rfl W0.heap.size 5 i0 (.int .u8 0) 1 1 Tryz.underlying46 hi0 hz0 hz1 hz2 rfl (by decide) _ _ _ rfl (Grow.own (Grow.alloc hG _)) ⟨_, 0, none⟩ 3 3 [.int .u8 _, .int .u8 _, .int .u8 _] rfl rfl (World.news_of_block (heap_alloc_new _ _)) (by simp [Value.oneCell']) (by unfold maxLen; simp; try omega) (by simp; try omega) (by have := hG.bel.size; simp; omega) ?_; intro v1 w1 ho hg _ ha; replace hG := Grow.next (news := [_, _, _]) (Grow.alloc hG _) rfl ho hg ha; clear ho hg ha)); have hcell := hG.dig 0 hds)
      go_wp2_with (at_builtin; refine Hid.out ?_)
      (refine Lib.hid ?_; refine wpList_append_own_at _ rfl _ _ 46 rfl W0.heap.size 5 i0 (.int .u8 0) 1 1 Tryz.underlying46 hi0 hz0 hz1 hz2 rfl (by decide) _ _ _ rfl (Grow.own hG) ⟨D, 1, none⟩ (nd - 1) (32 - 1) (((ds.drop 1).take (nd - 1)).map fun b => Value.int .u8 (b.toNat : Int)) rfl (by simp; omega) (hG.piece 1 (nd - 1) (by omega)) (oneCell_map _) (by unfold maxLen; simp; try omega) (by simp; try omega) (hG.bel.size) ?_; intro v1 w1 ho hg _ ha; replace hG := Grow.next (m := (nd - 1)) (news := ((ds.drop 1).take (nd - 1)).map fun b => (b.toNat : Int)) hG (by simp; omega) (by simpa [Function.comp_def] using ho) hg ha; clear ho hg ha)
      go_wp2_with (at_builtin; refine Hid.out ?_)
      go_loop [0, 114] (fun dv i => dv = v1 ∧ i = .int .i64 0) (fun _ _ => 0)
      case atStart => exact ⟨rfl, rfl⟩
      case round =>
        obtain ⟨hv, rfl⟩ := hrel
        subst hv
        repeat (go_wp2_with (at_builtin; refine Hid.out ?_); (first | (refine Lib.hid ?_; refine wpList_append_own_at _ rfl _ _ 46 rfl W0.heap.size 5 i0 (.int .u8 0) 1 1 Tryz.underlying46 hi0 hz0 hz1 hz2 rfl (by decide) _ _ _ rfl (Grow.own (Grow.alloc hG _)) ⟨_, 0, none⟩ 1 1 [.int .u8 _] rfl rfl (cell_one_new _ _ _) (by simp [Value.oneCell']) (by unfold maxLen; simp; try omega) (by simp; try omega) (by have := hG.bel.size; simp; omega) ?_; intro v1 w1 ho hg _ ha; replace hG := Grow.next (news := [_]) (Grow.alloc hG _) rfl ho hg ha; clear ho hg ha) | (refine Lib.hid ?_; refine wpList_append_own_at _ rfl _ _ 46 rfl W0.heap.size 5 i0 (.int .u8 0) 1 1 Tryz.underlying46 hi0 hz0 hz1 hz2 rfl (by decide) _ _ _ rfl (Grow.own (Grow.alloc hG _)) ⟨_, 0, none⟩ 2 2 [.int .u8 _, .int .u8 _] rfl rfl (World.news_of_block (heap_alloc_new _ _)) (by simp [Value.oneCell']) (by unfold maxLen; simp; try omega) (by simp; try omega) (by have := hG.bel.size; simp; omega) ?_; intro v1 w1 ho hg _ ha; replace hG := Grow.next (news := [_, _]) (Grow.alloc hG _) rfl ho hg ha; clear ho hg ha) | (refine Lib.hid ?_; refine wpList_append_own_at _ rfl _ _ 46 rfl W0.heap.size 5 i0 (.int .u8 0) 1 1 Tryz.underlying46 hi0 hz0 hz1 hz2 rfl (by decide) _ _ _ rfl (Grow.own (Grow.alloc hG _)) ⟨_, 0, none⟩ 3 3 [.int .u8 _, .int .u8 _, .int .u8 _] rfl rfl (World.news_of_block (heap_alloc_new _ _)) (by simp [Value.oneCell']) (by unfold maxLen; simp; try omega) (by simp; try omega) (by have := hG.bel.size; simp; omega) ?_; intro v1 w1 ho hg _ ha; replace hG := Grow.next (news := [_, _, _]) (Grow.alloc hG _) rfl ho hg ha; clear ho hg ha)); have hcell := hG.dig 0 hds)
        go_wp2_with fail
        go_ret
        exact ⟨_, rfl, hG⟩
    case ne => exact ⟨fun hz => by have := congrArg List.length hz; simp only [List.length_append, List.length_map, List.length_take, List.length_drop, List.length_replicate, List.length_cons, List.length_nil] at this; omega, by simp only [List.length_append, List.length_map, List.length_take, List.length_drop, List.length_replicate, List.length_cons, List.length_nil]; omega⟩
set_option maxRecDepth 100000 in
set_option maxHeartbeats 6400000 in
theorem fmt_e_c_true_0 (ds : List UInt8)  (dp : Int) (hds : 0 < ds.length) (h2 : ds.length ≤ 20) (hx : dp - 1 ≤ -100) (hd0 : -900 ≤ dp) (hd1 : dp ≤ 900) : FmtOk true ds sv32 dp 1 1 := by
  obtain ⟨i0, hi0, hz0, hz1, hz2⟩ := info_parts info5
  have h_59481 : decide (dp - 1 < -4) = true := by simp; omega
  have h_67881 : decide (dp - 1 < 0) = true := by simp; omega
  have h_14858 : decide (-(dp - 1) < 10) = false := by simp; omega
  have h_5663 : decide (-(dp - 1) < 100) = false := by simp; omega
  apply Exists.intro
  case h =>
    refine And.intro ?ne ?hh
    case hh =>
      intro D W0 w v hG
      have hcell := hG.dig 0 hds
      go_enter Tryz.func132, Tryz.ntmps132
      repeat (go_wp2_with (at_builtin; refine Hid.out ?_); (first | (refine Lib.hid ?_; refine wpList_append_own_at _ rfl _ _ 46 rfl W0.heap.size 5 i0 (.int .u8 0) 1 1 Tryz.underlying46 hi0 hz0 hz1 hz2 rfl (by decide) _ _ _ rfl (Grow.own (Grow.alloc hG _)) ⟨_, 0, none⟩ 1 1 [.int .u8 _] rfl rfl (cell_one_new _ _ _) (by simp [Value.oneCell']) (by unfold maxLen; simp; try omega) (by simp; try omega) (by have := hG.bel.size; simp; omega) ?_; intro v1 w1 ho hg _ ha; replace hG := Grow.next (news := [_]) (Grow.alloc hG _) rfl ho hg ha; clear ho hg ha) | (refine Lib.hid ?_; refine wpList_append_own_at _ rfl _ _ 46 rfl W0.heap.size 5 i0 (.int .u8 0) 1 1 Tryz.underlying46 hi0 hz0 hz1 hz2 rfl (by decide) _ _ _ rfl (Grow.own (Grow.alloc hG _)) ⟨_, 0, none⟩ 2 2 [.int .u8 _, .int .u8 _] rfl rfl (World.news_of_block (heap_alloc_new _ _)) (by simp [Value.oneCell']) (by unfold maxLen; simp; try omega) (by simp; try omega) (by have := hG.bel.size; simp; omega) ?_; intro v1 w1 ho hg _ ha; replace hG := Grow.next (news := [_, _]) (Grow.alloc hG _) rfl ho hg ha; clear ho hg ha) | (refine Lib.hid ?_; refine wpList_append_own_at _ rfl _ _ 46 rfl W0.heap.size 5 i0 (.int .u8 0) 1 1 Tryz.underlying46 hi0 hz0 hz1 hz2 rfl (by decide) _ _ _ rfl (Grow.own (Grow.alloc hG _)) ⟨_, 0, none⟩ 3 3 [.int .u8 _, .int .u8 _, .int .u8 _] rfl rfl (World.news_of_block (heap_alloc_new _ _)) (by simp [Value.oneCell']) (by unfold maxLen; simp; try omega) (by simp; try omega) (by have := hG.bel.size; simp; omega) ?_; intro v1 w1 ho hg _ ha; replace hG := Grow.next (news := [_, _, _]) (Grow.alloc hG _) rfl ho hg ha; clear ho hg ha)); have hcell := hG.dig 0 hds)
      go_wp2_with fail
      go_ret
      exact ⟨_, rfl, hG⟩
    case ne => exact ⟨fun hz => by have := congrArg List.length hz; simp only [List.length_append, List.length_map, List.length_take, List.length_drop, List.length_replicate, List.length_cons, List.length_nil] at this; omega, by simp only [List.length_append, List.length_map, List.length_take, List.length_drop, List.length_replicate, List.length_cons, List.length_nil]; omega⟩
set_option maxRecDepth 100000 in
set_option maxHeartbeats 6400000 in
theorem fmt_e_c_true_1 (ds : List UInt8) (nd : Nat) (h0 : 2 ≤ nd) (h1 : nd ≤ ds.length) (dp : Int) (hds : 0 < ds.length) (h2 : ds.length ≤ 20) (hx : dp - 1 ≤ -100) (hd0 : -900 ≤ dp) (hd1 : dp ≤ 900) : FmtOk true ds sv32 dp nd nd := by
  obtain ⟨i0, hi0, hz0, hz1, hz2⟩ := info_parts info5
  have h_59481 : decide (dp - 1 < -4) = true := by simp; omega
  have h_67881 : decide (dp - 1 < 0) = true := by simp; omega
  have h_14858 : decide (-(dp - 1) < 10) = false := by simp; omega
  have h_5663 : decide (-(dp - 1) < 100) = false := by simp; omega
  have hc1 : ((nd : Int) != 0) = true := by rw [bne_iff_ne]; omega
  have hc2 : decide ((nd : Int) - 1 > 0) = true := by simp; omega
  have hmin : min (nd : Int) ((nd : Int) - 1 + 1) = nd := by omega
  apply Exists.intro
  case h =>
    refine And.intro ?ne ?hh
    case hh =>
      intro D W0 w v hG
      have hcell := hG.dig 0 hds
      go_enter Tryz.func132, Tryz.ntmps132
      repeat (go_wp2_with (at_builtin; refine Hid.out ?_); (first | (refine Lib.hid ?_; refine wpList_append_own_at _ rfl _ _ 46 rfl W0.heap.size 5 i0 (.int .u8 0) 1 1 Tryz.underlying46 hi0 hz0 hz1 hz2 rfl (by decide) _ _ _ rfl (Grow.own (Grow.alloc hG _)) ⟨_, 0, none⟩ 1 1 [.int .u8 _] rfl rfl (cell_one_new _ _ _) (by simp [Value.oneCell']) (by unfold maxLen; simp; try omega) (by simp; try omega) (by have := hG.bel.size; simp; omega) ?_; intro v1 w1 ho hg _ ha; replace hG := Grow.next (news := [_]) (Grow.alloc hG _) rfl ho hg ha; clear ho hg ha) | (refine Lib.hid ?_; refine wpList_append_own_at _ rfl _ _ 46 rfl W0.heap.size 5 i0 (.int .u8 0) 1 1 Tryz.underlying46 hi0 hz0 hz1 hz2 rfl (by decide) _ _ _ rfl (Grow.own (Grow.alloc hG _)) ⟨_, 0, none⟩ 2 2 [.int .u8 _, .int .u8 _] rfl rfl (World.news_of_block (heap_alloc_new _ _)) (by simp [Value.oneCell']) (by unfold maxLen; simp; try omega) (by simp; try omega) (by have := hG.bel.size; simp; omega) ?_; intro v1 w1 ho hg _ ha; replace hG := Grow.next (news := [_, _]) (Grow.alloc hG _) rfl ho hg ha; clear ho hg ha) | (refine Lib.hid ?_; refine wpList_append_own_at _ rfl _ _ 46 rfl W0.heap.size 5 i0 (.int .u8 0) 1 1 Tryz.underlying46 hi0 hz0 hz1 hz2 rfl (by decide) _ _ _ rfl (Grow.own (Grow.alloc hG _)) ⟨_, 0, none⟩ 3 3 [.int .u8 _, .int .u8 _, .int .u8 _] rfl rfl (World.news_of_block (heap_alloc_new _ _)) (by simp [Value.oneCell']) (by unfold maxLen; simp; try omega) (by simp; try omega) (by have := hG.bel.size; simp; omega) ?_; intro v1 w1 ho hg _ ha; replace hG := Grow.next (news := [_, _, _]) (Grow.alloc hG _) rfl ho hg ha; clear ho hg ha)); have hcell := hG.dig 0 hds)
      go_wp2_with (at_builtin; refine Hid.out ?_)
      (refine Lib.hid ?_; refine wpList_append_own_at _ rfl _ _ 46 rfl W0.heap.size 5 i0 (.int .u8 0) 1 1 Tryz.underlying46 hi0 hz0 hz1 hz2 rfl (by decide) _ _ _ rfl (Grow.own hG) ⟨D, 1, none⟩ (nd - 1) (32 - 1) (((ds.drop 1).take (nd - 1)).map fun b => Value.int .u8 (b.toNat : Int)) rfl (by simp; omega) (hG.piece 1 (nd - 1) (by omega)) (oneCell_map _) (by unfold maxLen; simp; try omega) (by simp; try omega) (hG.bel.size) ?_; intro v1 w1 ho hg _ ha; replace hG := Grow.next (m := (nd - 1)) (news := ((ds.drop 1).take (nd - 1)).map fun b => (b.toNat : Int)) hG (by simp; omega) (by simpa [Function.comp_def] using ho) hg ha; clear ho hg ha)
      go_wp2_with (at_builtin; refine Hid.out ?_)
      go_loop [0, 114] (fun dv i => dv = v1 ∧ i = .int .i64 0) (fun _ _ => 0)
      case atStart => exact ⟨rfl, rfl⟩
      case round =>
        obtain ⟨hv, rfl⟩ := hrel
        subst hv
        repeat (go_wp2_with (at_builtin; refine Hid.out ?_); (first | (refine Lib.hid ?_; refine wpList_append_own_at _ rfl _ _ 46 rfl W0.heap.size 5 i0 (.int .u8 0) 1 1 Tryz.underlying46 hi0 hz0 hz1 hz2 rfl (by decide) _ _ _ rfl (Grow.own (Grow.alloc hG _)) ⟨_, 0, none⟩ 1 1 [.int .u8 _] rfl rfl (cell_one_new _ _ _) (by simp [Value.oneCell']) (by unfold maxLen; simp; try omega) (by simp; try omega) (by have := hG.bel.size; simp; omega) ?_; intro v1 w1 ho hg _ ha; replace hG := Grow.next (news := [_]) (Grow.alloc hG _) rfl ho hg ha; clear ho hg ha) | (refine Lib.hid ?_; refine wpList_append_own_at _ rfl _ _ 46 rfl W0.heap.size 5 i0 (.int .u8 0) 1 1 Tryz.underlying46 hi0 hz0 hz1 hz2 rfl (by decide) _ _ _ rfl (Grow.own (Grow.alloc hG _)) ⟨_, 0, none⟩ 2 2 [.int .u8 _, .int .u8 _] rfl rfl (World.news_of_block (heap_alloc_new _ _)) (by simp [Value.oneCell']) (by unfold maxLen; simp; try omega) (by simp; try omega) (by have := hG.bel.size; simp; omega) ?_; intro v1 w1 ho hg _ ha; replace hG := Grow.next (news := [_, _]) (Grow.alloc hG _) rfl ho hg ha; clear ho hg ha) | (refine Lib.hid ?_; refine wpList_append_own_at _ rfl _ _ 46 rfl W0.heap.size 5 i0 (.int .u8 0) 1 1 Tryz.underlying46 hi0 hz0 hz1 hz2 rfl (by decide) _ _ _ rfl (Grow.own (Grow.alloc hG _)) ⟨_, 0, none⟩ 3 3 [.int .u8 _, .int .u8 _, .int .u8 _] rfl rfl (World.news_of_block (heap_alloc_new _ _)) (by simp [Value.oneCell']) (by unfold maxLen; simp; try omega) (by simp; try omega) (by have := hG.bel.size; simp; omega) ?_; intro v1 w1 ho hg _ ha; replace hG := Grow.next (news := [_, _, _]) (Grow.alloc hG _) rfl ho hg ha; clear ho hg ha)); have hcell := hG.dig 0 hds)
        go_wp2_with fail
        go_ret
        exact ⟨_, rfl, hG⟩
    case ne => exact ⟨fun hz => by have := congrArg List.length hz; simp only [List.length_append, List.length_map, List.length_take, List.length_drop, List.length_replicate, List.length_cons, List.length_nil] at this; omega, by simp only [List.length_append, List.length_map, List.length_take, List.length_drop, List.length_replicate, List.length_cons, List.length_nil]; omega⟩
set_option maxRecDepth 100000 in
set_option maxHeartbeats 6400000 in
theorem fmt_e_d_false_0 (ds : List UInt8)  (dp : Int) (hds : 0 < ds.length) (h2 : ds.length ≤ 20) (hx : 6 ≤ dp - 1 ∧ dp - 1 < 10) (hd0 : -900 ≤ dp) (hd1 : dp ≤ 900) : FmtOk false ds sv32 dp 1 1 := by
  obtain ⟨i0, hi0, hz0, hz1, hz2⟩ := info_parts info5
  have h_59481 : decide (dp - 1 < -4) = false := by simp; omega
  have h_67881 : decide (dp - 1 < 0) = false := by simp; omega
  have h_55839 : decide (dp - 1 < 10) = true := by simp; omega
  have h_41152 : decide (dp - 1 < 100) = true := by simp; omega
  have h_11079 : decide (dp - 1 ≥ 6) = true := by simp; omega
  have h_13268 : decide (6 ≤ dp - 1) = true := by simp; omega
  apply Exists.intro
  case h =>
    refine And.intro ?ne ?hh
    case hh =>
      intro D W0 w v hG
      have hcell := hG.dig 0 hds
      go_enter Tryz.func132, Tryz.ntmps132
      repeat (go_wp2_with (at_builtin; refine Hid.out ?_); (first | (refine Lib.hid ?_; refine wpList_append_own_at _ rfl _ _ 46 rfl W0.heap.size 5 i0 (.int .u8 0) 1 1 Tryz.underlying46 hi0 hz0 hz1 hz2 rfl (by decide) _ _ _ rfl (Grow.own (Grow.alloc hG _)) ⟨_, 0, none⟩ 1 1 [.int .u8 _] rfl rfl (cell_one_new _ _ _) (by simp [Value.oneCell']) (by unfold maxLen; simp; try omega) (by simp; try omega) (by have := hG.bel.size; simp; omega) ?_; intro v1 w1 ho hg _ ha; replace hG := Grow.next (news := [_]) (Grow.alloc hG _) rfl ho hg ha; clear ho hg ha) | (refine Lib.hid ?_; refine wpList_append_own_at _ rfl _ _ 46 rfl W0.heap.size 5 i0 (.int .u8 0) 1 1 Tryz.underlying46 hi0 hz0 hz1 hz2 rfl (by decide) _ _ _ rfl (Grow.own (Grow.alloc hG _)) ⟨_, 0, none⟩ 2 2 [.int .u8 _, .int .u8 _] rfl rfl (World.news_of_block (heap_alloc_new _ _)) (by simp [Value.oneCell']) (by unfold maxLen; simp; try omega) (by simp; try omega) (by have := hG.bel.size; simp; omega) ?_; intro v1 w1 ho hg _ ha; replace hG := Grow.next (news := [_, _]) (Grow.alloc hG _) rfl ho hg ha; clear ho hg ha) | (refine Lib.hid ?_; refine wpList_append_own_at _ rfl _ _ 46 rfl W0.heap.size 5 i0 (.int .u8 0) 1 1 Tryz.underlying46 hi0 hz0 hz1 hz2 rfl (by decide) _ _ _ rfl (Grow.own (Grow.alloc hG _)) ⟨_, 0, none⟩ 3 3 [.int .u8 _, .int .u8 _, .int .u8 _] rfl rfl (World.news_of_block (heap_alloc_new _ _)) (by simp [Value.oneCell']) (by unfold maxLen; simp; try omega) (by simp; try omega) (by have := hG.bel.size; simp; omega) ?_; intro v1 w1 ho hg _ ha; replace hG := Grow.next (news := [_, _, _]) (Grow.alloc hG _) rfl ho hg ha; clear ho hg ha)); have hcell := hG.dig 0 hds)
      go_wp2_with fail
      go_ret
      exact ⟨_, rfl, hG⟩
    case ne => exact ⟨fun hz => by have := congrArg List.length hz; simp only [List.length_append, List.length_map, List.length_take, List.length_drop, List.length_replicate, List.length_cons, List.length_nil] at this; omega, by simp only [List.length_append, List.length_map, List.length_take, List.length_drop, List.length_replicate, List.length_cons, List.length_nil]; omega⟩
set_option maxRecDepth 100000 in
set_option maxHeartbeats 6400000 in
theorem fmt_e_d_false_1 (ds : List UInt8) (nd : Nat) (h0 : 2 ≤ nd) (h1 : nd ≤ ds.length) (dp : Int) (hds : 0 < ds.length) (h2 : ds.length ≤ 20) (hx : 6 ≤ dp - 1 ∧ dp - 1 < 10) (hd0 : -900 ≤ dp) (hd1 : dp ≤ 900) : FmtOk false ds sv32 dp nd nd := by
  obtain ⟨i0, hi0, hz0, hz1, hz2⟩ := info_parts info5
  have h_59481 : decide (dp - 1 < -4) = false := by simp; omega
  have h_67881 : decide (dp - 1 < 0) = false := by simp; omega
  have h_55839 : decide (dp - 1 < 10) = true := by simp; omega
  have h_41152 : decide (dp - 1 < 100) = true := by simp; omega
  have h_11079 : decide (dp - 1 ≥ 6) = true := by simp; omega
  have h_13268 : decide (6 ≤ dp - 1) = true := by simp; omega
  have hc1 : ((nd : Int) != 0) = true := by rw [bne_iff_ne]; omega
  have hc2 : decide ((nd : Int) - 1 > 0) = true := by simp; omega
  have hmin : min (nd : Int) ((nd : Int) - 1 + 1) = nd := by omega
  apply Exists.intro
  case h =>
    refine And.intro ?ne ?hh
    case hh =>
      intro D W0 w v hG
      have hcell := hG.dig 0 hds
      go_enter Tryz.func132, Tryz.ntmps132
      repeat (go_wp2_with (at_builtin; refine Hid.out ?_); (first | (refine Lib.hid ?_; refine wpList_append_own_at _ rfl _ _ 46 rfl W0.heap.size 5 i0 (.int .u8 0) 1 1 Tryz.underlying46 hi0 hz0 hz1 hz2 rfl (by decide) _ _ _ rfl (Grow.own (Grow.alloc hG _)) ⟨_, 0, none⟩ 1 1 [.int .u8 _] rfl rfl (cell_one_new _ _ _) (by simp [Value.oneCell']) (by unfold maxLen; simp; try omega) (by simp; try omega) (by have := hG.bel.size; simp; omega) ?_; intro v1 w1 ho hg _ ha; replace hG := Grow.next (news := [_]) (Grow.alloc hG _) rfl ho hg ha; clear ho hg ha) | (refine Lib.hid ?_; refine wpList_append_own_at _ rfl _ _ 46 rfl W0.heap.size 5 i0 (.int .u8 0) 1 1 Tryz.underlying46 hi0 hz0 hz1 hz2 rfl (by decide) _ _ _ rfl (Grow.own (Grow.alloc hG _)) ⟨_, 0, none⟩ 2 2 [.int .u8 _, .int .u8 _] rfl rfl (World.news_of_block (heap_alloc_new _ _)) (by simp [Value.oneCell']) (by unfold maxLen; simp; try omega) (by simp; try omega) (by have := hG.bel.size; simp; omega) ?_; intro v1 w1 ho hg _ ha; replace hG := Grow.next (news := [_, _]) (Grow.alloc hG _) rfl ho hg ha; clear ho hg ha) | (refine Lib.hid ?_; refine wpList_append_own_at _ rfl _ _ 46 rfl W0.heap.size 5 i0 (.int .u8 0) 1 1 Tryz.underlying46 hi0 hz0 hz1 hz2 rfl (by decide) _ _ _ rfl (Grow.own (Grow.alloc hG _)) ⟨_, 0, none⟩ 3 3 [.int .u8 _, .int .u8 _, .int .u8 _] rfl rfl (World.news_of_block (heap_alloc_new _ _)) (by simp [Value.oneCell']) (by unfold maxLen; simp; try omega) (by simp; try omega) (by have := hG.bel.size; simp; omega) ?_; intro v1 w1 ho hg _ ha; replace hG := Grow.next (news := [_, _, _]) (Grow.alloc hG _) rfl ho hg ha; clear ho hg ha)); have hcell := hG.dig 0 hds)
      go_wp2_with (at_builtin; refine Hid.out ?_)
      (refine Lib.hid ?_; refine wpList_append_own_at _ rfl _ _ 46 rfl W0.heap.size 5 i0 (.int .u8 0) 1 1 Tryz.underlying46 hi0 hz0 hz1 hz2 rfl (by decide) _ _ _ rfl (Grow.own hG) ⟨D, 1, none⟩ (nd - 1) (32 - 1) (((ds.drop 1).take (nd - 1)).map fun b => Value.int .u8 (b.toNat : Int)) rfl (by simp; omega) (hG.piece 1 (nd - 1) (by omega)) (oneCell_map _) (by unfold maxLen; simp; try omega) (by simp; try omega) (hG.bel.size) ?_; intro v1 w1 ho hg _ ha; replace hG := Grow.next (m := (nd - 1)) (news := ((ds.drop 1).take (nd - 1)).map fun b => (b.toNat : Int)) hG (by simp; omega) (by simpa [Function.comp_def] using ho) hg ha; clear ho hg ha)
      go_wp2_with (at_builtin; refine Hid.out ?_)
      go_loop [0, 114] (fun dv i => dv = v1 ∧ i = .int .i64 0) (fun _ _ => 0)
      case atStart => exact ⟨rfl, rfl⟩
      case round =>
        obtain ⟨hv, rfl⟩ := hrel
        subst hv
        repeat (go_wp2_with (at_builtin; refine Hid.out ?_); (first | (refine Lib.hid ?_; refine wpList_append_own_at _ rfl _ _ 46 rfl W0.heap.size 5 i0 (.int .u8 0) 1 1 Tryz.underlying46 hi0 hz0 hz1 hz2 rfl (by decide) _ _ _ rfl (Grow.own (Grow.alloc hG _)) ⟨_, 0, none⟩ 1 1 [.int .u8 _] rfl rfl (cell_one_new _ _ _) (by simp [Value.oneCell']) (by unfold maxLen; simp; try omega) (by simp; try omega) (by have := hG.bel.size; simp; omega) ?_; intro v1 w1 ho hg _ ha; replace hG := Grow.next (news := [_]) (Grow.alloc hG _) rfl ho hg ha; clear ho hg ha) | (refine Lib.hid ?_; refine wpList_append_own_at _ rfl _ _ 46 rfl W0.heap.size 5 i0 (.int .u8 0) 1 1 Tryz.underlying46 hi0 hz0 hz1 hz2 rfl (by decide) _ _ _ rfl (Grow.own (Grow.alloc hG _)) ⟨_, 0, none⟩ 2 2 [.int .u8 _, .int .u8 _] rfl rfl (World.news_of_block (heap_alloc_new _ _)) (by simp [Value.oneCell']) (by unfold maxLen; simp; try omega) (by simp; try omega) (by have := hG.bel.size; simp; omega) ?_; intro v1 w1 ho hg _ ha; replace hG := Grow.next (news := [_, _]) (Grow.alloc hG _) rfl ho hg ha; clear ho hg ha) | (refine Lib.hid ?_; refine wpList_append_own_at _ rfl _ _ 46 rfl W0.heap.size 5 i0 (.int .u8 0) 1 1 Tryz.underlying46 hi0 hz0 hz1 hz2 rfl (by decide) _ _ _ rfl (Grow.own (Grow.alloc hG _)) ⟨_, 0, none⟩ 3 3 [.int .u8 _, .int .u8 _, .int .u8 _] rfl rfl (World.news_of_block (heap_alloc_new _ _)) (by simp [Value.oneCell']) (by unfold maxLen; simp; try omega) (by simp; try omega) (by have := hG.bel.size; simp; omega) ?_; intro v1 w1 ho hg _ ha; replace hG := Grow.next (news := [_, _, _]) (Grow.alloc hG _) rfl ho hg ha; clear ho hg ha)); have hcell := hG.dig 0 hds)
        go_wp2_with fail
        go_ret
        exact ⟨_, rfl, hG⟩
    case ne => exact ⟨fun hz => by have := congrArg List.length hz; simp only [List.length_append, List.length_map, List.length_take, List.length_drop, List.length_replicate, List.length_cons, List.length_nil] at this; omega, by simp only [List.length_append, List.length_map, List.length_take, List.length_drop, List.length_replicate, List.length_cons, List.length_nil]; omega⟩
set_option maxRecDepth 100000 in
set_option maxHeartbeats 6400000 in
theorem fmt_e_d_true_0 (ds : List UInt8)  (dp : Int) (hds : 0 < ds.length) (h2 : ds.length ≤ 20) (hx : 6 ≤ dp - 1 ∧ dp - 1 < 10) (hd0 : -900 ≤ dp) (hd1 : dp ≤ 900) : FmtOk true ds sv32 dp 1 1 := by
  obtain ⟨i0, hi0, hz0, hz1, hz2⟩ := info_parts info5
  have h_59481 : decide (dp - 1 < -4) = false := by simp; omega
  have h_67881 : decide (dp - 1 < 0) = false := by simp; omega
  have h_55839 : decide (dp - 1 < 10) = true := by simp; omega
  have h_41152 : decide (dp - 1 < 100) = true := by simp; omega
  have h_11079 : decide (dp - 1 ≥ 6) = true := by simp; omega
  have h_13268 : decide (6 ≤ dp - 1) = true := by simp; omega
  apply Exists.intro
  case h =>
    refine And.intro ?ne ?hh
    case hh =>
      intro D W0 w v hG
      have hcell := hG.dig 0 hds
      go_enter Tryz.func132, Tryz.ntmps132
      repeat (go_wp2_with (at_builtin; refine Hid.out ?_); (first | (refine Lib.hid ?_; refine wpList_append_own_at _ rfl _ _ 46 rfl W0.heap.size 5 i0 (.int .u8 0) 1 1 Tryz.underlying46 hi0 hz0 hz1 hz2 rfl (by decide) _ _ _ rfl (Grow.own (Grow.alloc hG _)) ⟨_, 0, none⟩ 1 1 [.int .u8 _] rfl rfl (cell_one_new _ _ _) (by simp [Value.oneCell']) (by unfold maxLen; simp; try omega) (by simp; try omega) (by have := hG.bel.size; simp; omega) ?_; intro v1 w1 ho hg _ ha; replace hG := Grow.next (news := [_]) (Grow.alloc hG _) rfl ho hg ha; clear ho hg ha) | (refine Lib.hid ?_; refine wpList_append_own_at _ rfl _ _ 46 rfl W0.heap.size 5 i0 (.int .u8 0) 1 1 Tryz.underlying46 hi0 hz0 hz1 hz2 rfl (by decide) _ _ _ rfl (Grow.own (Grow.alloc hG _)) ⟨_, 0, none⟩ 2 2 [.int .u8 _, .int .u8 _] rfl rfl (World.news_of_block (heap_alloc_new _ _)) (by simp [Value.oneCell']) (by unfold maxLen; simp; try omega) (by simp; try omega) (by have := hG.bel.size; simp; omega) ?_; intro v1 w1 ho hg _ ha; replace hG := Grow.next (news := [_, _]) (Grow.alloc hG _) rfl ho hg ha; clear ho hg ha) | (refine Lib.hid ?_; refine wpList_append_own_at _ rfl _ _ 46 rfl W0.heap.size 5 i0 (.int .u8 0) 1 1 Tryz.underlying46 hi0 hz0 hz1 hz2 rfl (by decide) _ _ _ rfl (Grow.own (Grow.alloc hG _)) ⟨_, 0, none⟩ 3 3 [.int .u8 _, .int .u8 _, .int .u8 _] rfl rfl (World.news_of_block (heap_alloc_new _ _)) (by simp [Value.oneCell']) (by unfold maxLen; simp; try omega) (by simp; try omega) (by have := hG.bel.size; simp; omega) ?_; intro v1 w1 ho hg _ ha; replace hG := Grow.next (news := [_, _, _]) (Grow.alloc hG _) rfl ho hg ha; clear ho hg ha)); have hcell := hG.dig 0 hds)
      go_wp2_with fail
      go_ret
      exact ⟨_, rfl, hG⟩
    case ne => exact ⟨fun hz => by have := congrArg List.length hz; simp only [List.length_append, List.length_map, List.length_take, List.length_drop, List.length_replicate, List.length_cons, List.length_nil] at this; omega, by simp only [List.length_append, List.length_map, List.length_take, List.length_drop, List.length_replicate, List.length_cons, List.length_nil]; omega⟩
set_option maxRecDepth 100000 in
set_option maxHeartbeats 6400000 in
theorem fmt_e_d_true_1 (ds : List UInt8) (nd : Nat) (h0 : 2 ≤ nd) (h1 : nd ≤ ds.length) (dp : Int) (hds : 0 < ds.length) (h2 : ds.length ≤ 20) (hx : 6 ≤ dp - 1 ∧ dp - 1 < 10) (hd0 : -900 ≤ dp) (hd1 : dp ≤ 900) : FmtOk true ds sv32 dp nd nd := by
  obtain ⟨i0, hi0, hz0, hz1, hz2⟩ := info_parts info5
  have h_59481 : decide (dp - 1 < -4) = false := by simp; omega
  have h_67881 : decide (dp - 1 < 0) = false := by simp; omega
  have h_55839 : decide (dp - 1 < 10) = true := by simp; omega
  have h_41152 : decide (dp - 1 < 100) = true := by simp; omega
  have h_11079 : decide (dp - 1 ≥ 6) = true := by simp; omega
  have h_13268 : decide (6 ≤ dp - 1) = true := by simp; omega
  have hc1 : ((nd : Int) != 0) = true := by rw [bne_iff_ne]; omega
  have hc2 : decide ((nd : Int) - 1 > 0) = true := by simp; omega
  have hmin : min (nd : Int) ((nd : Int) - 1 + 1) = nd := by omega
  apply Exists.intro
  case h =>
    refine And.intro ?ne ?hh
    case hh =>
      intro D W0 w v hG
      have hcell := hG.dig 0 hds
      go_enter Tryz.func132, Tryz.ntmps132
      repeat (go_wp2_with (at_builtin; refine Hid.out ?_); (first | (refine Lib.hid ?_; refine wpList_append_own_at _ rfl _ _ 46 rfl W0.heap.size 5 i0 (.int .u8 0) 1 1 Tryz.underlying46 hi0 hz0 hz1 hz2 rfl (by decide) _ _ _ rfl (Grow.own (Grow.alloc hG _)) ⟨_, 0, none⟩ 1 1 [.int .u8 _] rfl rfl (cell_one_new _ _ _) (by simp [Value.oneCell']) (by unfold maxLen; simp; try omega) (by simp; try omega) (by have := hG.bel.size; simp; omega) ?_; intro v1 w1 ho hg _ ha; replace hG := Grow.next (news := [_]) (Grow.alloc hG _) rfl ho hg ha; clear ho hg ha) | (refine Lib.hid ?_; refine wpList_append_own_at _ rfl _ _ 46 rfl W0.heap.size 5 i0 (.int .u8 0) 1 1 Tryz.underlying46 hi0 hz0 hz1 hz2 rfl (by decide) _ _ _ rfl (Grow.own (Grow.alloc hG _)) ⟨_, 0, none⟩ 2 2 [.int .u8 _, .int .u8 _] rfl rfl (World.news_of_block (heap_alloc_new _ _)) (by simp [Value.oneCell']) (by unfold maxLen; simp; try omega) (by simp; try omega) (by have := hG.bel.size; simp; omega) ?_; intro v1 w1 ho hg _ ha; replace hG := Grow.next (news := [_, _]) (Grow.alloc hG _) rfl ho hg ha; clear ho hg ha) | (refine Lib.hid ?_; refine wpList_append_own_at _ rfl _ _ 46 rfl W0.heap.size 5 i0 (.int .u8 0) 1 1 Tryz.underlying46 hi0 hz0 hz1 hz2 rfl (by decide) _ _ _ rfl (Grow.own (Grow.alloc hG _)) ⟨_, 0, none⟩ 3 3 [.int .u8 _, .int .u8 _, .int .u8 _] rfl rfl (World.news_of_block (heap_alloc_new _ _)) (by simp [Value.oneCell']) (by unfold maxLen; simp; try omega) (by simp; try omega) (by have := hG.bel.size; simp; omega) ?_; intro v1 w1 ho hg _ ha; replace hG := Grow.next (news := [_, _, _]) (Grow.alloc hG _) rfl ho hg ha; clear ho hg ha)); have hcell := hG.dig 0 hds)
      go_wp2_with (at_builtin; refine Hid.out ?_)
      (refine Lib.hid ?_; refine wpList_append_own_at _ rfl _ _ 46 rfl W0.heap.size 5 i0 (.int .u8 0) 1 1 Tryz.underlying46 hi0 hz0 hz1 hz2 rfl (by decide) _ _ _ rfl (Grow.own hG) ⟨D, 1, none⟩ (nd - 1) (32 - 1) (((ds.drop 1).take (nd - 1)).map fun b => Value.int .u8 (b.toNat : Int)) rfl (by simp; omega) (hG.piece 1 (nd - 1) (by omega)) (oneCell_map _) (by unfold maxLen; simp; try omega) (by simp; try omega) (hG.bel.size) ?_; intro v1 w1 ho hg _ ha; replace hG := Grow.next (m := (nd - 1)) (news := ((ds.drop 1).take (nd - 1)).map fun b => (b.toNat : Int)) hG (by simp; omega) (by simpa [Function.comp_def] using ho) hg ha; clear ho hg ha)
      go_wp2_with (at_builtin; refine Hid.out ?_)
      go_loop [0, 114] (fun dv i => dv = v1 ∧ i = .int .i64 0) (fun _ _ => 0)
      case atStart => exact ⟨rfl, rfl⟩
      case round =>
        obtain ⟨hv, rfl⟩ := hrel
        subst hv
        repeat (go_wp2_with (at_builtin; refine Hid.out ?_); (first | (refine Lib.hid ?_; refine wpList_append_own_at _ rfl _ _ 46 rfl W0.heap.size 5 i0 (.int .u8 0) 1 1 Tryz.underlying46 hi0 hz0 hz1 hz2 rfl (by decide) _ _ _ rfl (Grow.own (Grow.alloc hG _)) ⟨_, 0, none⟩ 1 1 [.int .u8 _] rfl rfl (cell_one_new _ _ _) (by simp [Value.oneCell']) (by unfold maxLen; simp; try omega) (by simp; try omega) (by have := hG.bel.size; simp; omega) ?_; intro v1 w1 ho hg _ ha; replace hG := Grow.next (news := [_]) (Grow.alloc hG _) rfl ho hg ha; clear ho hg ha) | (refine Lib.hid ?_; refine wpList_append_own_at _ rfl _ _ 46 rfl W0.heap.size 5 i0 (.int .u8 0) 1 1 Tryz.underlying46 hi0 hz0 hz1 hz2 rfl (by decide) _ _ _ rfl (Grow.own (Grow.alloc hG _)) ⟨_, 0, none⟩ 2 2 [.int .u8 _, .int .u8 _] rfl rfl (World.news_of_block (heap_alloc_new _ _)) (by simp [Value.oneCell']) (by unfold maxLen; simp; try omega) (by simp; try omega) (by have := hG.bel.size; simp; omega) ?_; intro v1 w1 ho hg _ ha; replace hG := Grow.next (news := [_, _]) (Grow.alloc hG _) rfl ho hg ha; clear ho hg ha) | (refine Lib.hid ?_; refine wpList_append_own_at _ rfl _ _ 46 rfl W0.heap.size 5 i0 (.int .u8 0) 1 1 Tryz.underlying46 hi0 hz0 hz1 hz2 rfl (by decide) _ _ _ rfl (Grow.own (Grow.alloc hG _)) ⟨_, 0, none⟩ 3 3 [.int .u8 _, .int .u8 _, .int .u8 _] rfl rfl (World.news_of_block (heap_alloc_new _ _)) (by simp [Value.oneCell']) (by unfold maxLen; simp; try omega) (by simp; try omega) (by have := hG.bel.size; simp; omega) ?_; intro v1 w1 ho hg _ ha; replace hG := Grow.next (news := [_, _, _]) (Grow.alloc hG _) rfl ho hg ha; clear ho hg ha)); have hcell := hG.dig 0 hds)
        go_wp2_with fail
        go_ret
        exact ⟨_, rfl, hG⟩
    case ne => exact ⟨fun hz => by have := congrArg List.length hz; simp only [List.length_append, List.length_map, List.length_take, List.length_drop, List.length_replicate, List.length_cons, List.length_nil] at this; omega, by simp only [List.length_append, List.length_map, List.length_take, List.length_drop, List.length_replicate, List.length_cons, List.length_nil]; omega⟩
set_option maxRecDepth 100000 in
set_option maxHeartbeats 6400000 in
theorem fmt_e_e_false_0 (ds : List UInt8)  (dp : Int) (hds : 0 < ds.length) (h2 : ds.length ≤ 20) (hx : 10 ≤ dp - 1 ∧ dp - 1 < 100) (hd0 : -900 ≤ dp) (hd1 : dp ≤ 900) : FmtOk false ds sv32 dp 1 1 := by
  obtain ⟨i0, hi0, hz0, hz1, hz2⟩ := info_parts info5
  have h_59481 : decide (dp - 1 < -4) = false := by simp; omega
  have h_67881 : decide (dp - 1 < 0) = false := by simp; omega
  have h_55839 : decide (dp - 1 < 10) = false := by simp; omega
  have h_41152 : decide (dp - 1 < 100) = true := by simp; omega
  have h_11079 : decide (dp - 1 ≥ 6) = true := by simp; omega
  have h_13268 : decide (6 ≤ dp - 1) = true := by simp; omega
  apply Exists.intro
  case h =>
    refine And.intro ?ne ?hh
    case hh =>
      intro D W0 w v hG
      have hcell := hG.dig 0 hds
      go_enter Tryz.func132, Tryz.ntmps132
      repeat (go_wp2_with (at_builtin; refine Hid.out ?_); (first | (refine Lib.hid ?_; refine wpList_append_own_at _ rfl _ _ 46 rfl W0.heap.size 5 i0 (.int .u8 0) 1 1 Tryz.underlying46 hi0 hz0 hz1 hz2 rfl (by decide) _ _ _ rfl (Grow.own (Grow.alloc hG _)) ⟨_, 0, none⟩ 1 1 [.int .u8 _] rfl rfl (cell_one_new _ _ _) (by simp [Value.oneCell']) (by unfold maxLen; simp; try omega) (by simp; try omega) (by have := hG.bel.size; simp; omega) ?_; intro v1 w1 ho hg _ ha; replace hG := Grow.next (news := [_]) (Grow.alloc hG _) rfl ho hg ha; clear ho hg ha) | (refine Lib.hid ?_; refine wpList_append_own_at _ rfl _ _ 46 rfl W0.heap.size 5 i0 (.int .u8 0) 1 1 Tryz.underlying46 hi0 hz0 hz1 hz2 rfl (by decide) _ _ _ rfl (Grow.own (Grow.alloc hG _)) ⟨_, 0, none⟩ 2 2 [.int .u8 _, .int .u8 _] rfl rfl (World.news_of_block (heap_alloc_new _ _)) (by simp [Value.oneCell']) (by unfold maxLen; simp; try omega) (by simp; try omega) (by have := hG.bel.size; simp; omega) ?_; intro v1 w1 ho hg _ ha; replace hG := Grow.next (news := [_, _]) (Grow.alloc hG _) rfl ho hg ha; clear ho hg ha) | (refine Lib.hid ?_; refine wpList_append_own_at _ rfl _ _ 46 rfl W0.heap.size 5 i0 (.int .u8 0) 1 1 Tryz.underlying46 hi0 hz0 hz1 hz2 rfl (by decide) _ _ _ rfl (Grow.own (Grow.alloc hG _)) ⟨_, 0, none⟩ 3 3 [.int .u8 _, .int .u8 _, .int .u8 _] rfl rfl (World.news_of_block (heap_alloc_new _ _)) (by simp [Value.oneCell']) (by unfold maxLen; simp; try omega) (by simp; try omega) (by have := hG.bel.size; simp; omega) ?_; intro v1 w1 ho hg _ ha; replace hG := Grow.next (news := [_, _, _]) (Grow.alloc hG _) rfl ho hg ha; clear ho hg ha)); have hcell := hG.dig 0 hds)
      go_wp2_with fail
      go_ret
      exact ⟨_, rfl, hG⟩
    case ne => exact ⟨fun hz => by have := congrArg List.length hz; simp only [List.length_append, List.length_map, List.length_take, List.length_drop, List.length_replicate, List.length_cons, List.length_nil] at this; omega, by simp only [List.length_append, List.length_map, List.length_take, List.length_drop, List.length_replicate, List.length_cons, List.length_nil]; omega⟩
set_option maxRecDepth 100000 in
set_option maxHeartbeats 6400000 in
theorem fmt_e_e_false_1 (ds : List UInt8) (nd : Nat) (h0 : 2 ≤ nd) (h1 : nd ≤ ds.length) (dp : Int) (hds : 0 < ds.length) (h2 : ds.length ≤ 20) (hx : 10 ≤ dp - 1 ∧ dp - 1 < 100) (hd0 : -900 ≤ dp) (hd1 : dp ≤ 900) : FmtOk false ds sv32 dp nd nd := by
  obtain ⟨i0, hi0, hz0, hz1, hz2⟩ := info_parts info5
  have h_59481 : decide (dp - 1 < -4) = false := by simp; omega
  have h_67881 : decide (dp - 1 < 0) = false := by simp; omega
  have h_55839 : decide (dp - 1 < 10) = false := by simp; omega
  have h_41152 : decide (dp - 1 < 100) = true := by simp; omega
  have h_11079 : decide (dp - 1 ≥ 6) = true := by simp; omega
  have h_13268 : decide (6 ≤ dp - 1) = true := by simp; omega
  have hc1 : ((nd : Int) != 0) = true := by rw [bne_iff_ne]; omega
  have hc2 : decide ((nd : Int) - 1 > 0) = true := by simp; omega
  have hmin : min (nd : Int) ((nd : Int) - 1 + 1) = nd := by omega
  apply Exists.intro
  case h =>
    refine And.intro ?ne ?hh
    case hh =>
      intro D W0 w v hG
      have hcell := hG.dig 0 hds
      go_enter Tryz.func132, Tryz.ntmps132
      repeat (go_wp2_with (at_builtin; refine Hid.out ?_); (first | (refine Lib.hid ?_; refine wpList_append_own_at _ rfl _ _ 46 rfl W0.heap.size 5 i0 (.int .u8 0) 1 1 Tryz.underlying46 hi0 hz0 hz1 hz2 rfl (by decide) _ _ _ rfl (Grow.own (Grow.alloc hG _)) ⟨_, 0, none⟩ 1 1 [.int .u8 _] rfl rfl (cell_one_new _ _ _) (by simp [Value.oneCell']) (by unfold maxLen; simp; try omega) (by simp; try omega) (by have := hG.bel.size; simp; omega) ?_; intro v1 w1 ho hg _ ha; replace hG := Grow.next (news := [_]) (Grow.alloc hG _) rfl ho hg ha; clear ho hg ha) | (refine Lib.hid ?_; refine wpList_append_own_at _ rfl _ _ 46 rfl W0.heap.size 5 i0 (.int .u8 0) 1 1 Tryz.underlying46 hi0 hz0 hz1 hz2 rfl (by decide) _ _ _ rfl (Grow.own (Grow.alloc hG _)) ⟨_, 0, none⟩ 2 2 [.int .u8 _, .int .u8 _] rfl rfl (World.news_of_block (heap_alloc_new _ _)) (by simp [Value.oneCell']) (by unfold maxLen; simp; try omega) (by simp; try omega) (by have := hG.bel.size; simp; omega) ?_; intro v1 w1 ho hg _ ha; replace hG := Grow.next (news := [_, _]) (Grow.alloc hG _) rfl ho hg ha; clear ho hg ha) | (refine Lib.hid ?_; refine wpList_append_own_at _ rfl _ _ 46 rfl W0.heap.size 5 i0 (.int .u8 0) 1 1 Tryz.underlying46 hi0 hz0 hz1 hz2 rfl (by decide) _ _ _ rfl (Grow.own (Grow.alloc hG _)) ⟨_, 0, none⟩ 3 3 [.int .u8 _, .int .u8 _, .int .u8 _] rfl rfl (World.news_of_block (heap_alloc_new _ _)) (by simp [Value.oneCell']) (by unfold maxLen; simp; try omega) (by simp; try omega) (by have := hG.bel.size; simp; omega) ?_; intro v1 w1 ho hg _ ha; replace hG := Grow.next (news := [_, _, _]) (Grow.alloc hG _) rfl ho hg ha; clear ho hg ha)); have hcell := hG.dig 0 hds)
      go_wp2_with (at_builtin; refine Hid.out ?_)
      (refine Lib.hid ?_; refine wpList_append_own_at _ rfl _ _ 46 rfl W0.heap.size 5 i0 (.int .u8 0) 1 1 Tryz.underlying46 hi0 hz0 hz1 hz2 rfl (by decide) _ _ _ rfl (Grow.own hG) ⟨D, 1, none⟩ (nd - 1) (32 - 1) (((ds.drop 1).take (nd - 1)).map fun b => Value.int .u8 (b.toNat : Int)) rfl (by simp; omega) (hG.piece 1 (nd - 1) (by omega)) (oneCell_map _) (by unfold maxLen; simp; try omega) (by simp; try omega) (hG.bel.size) ?_; intro v1 w1 ho hg _ ha; replace hG := Grow.next (m := (nd - 1)) (news := ((ds.drop 1).take (nd - 1)).map fun b => (b.toNat : Int)) hG (by simp; omega) (by simpa [Function.comp_def] using ho) hg ha; clear ho hg ha)
      go_wp2_with (at_builtin; refine Hid.out ?_)
      go_loop [0, 114] (fun dv i => dv = v1 ∧ i = .int .i64 0) (fun _ _ => 0)
      case atStart => exact ⟨rfl, rfl⟩
      case round =>
        obtain ⟨hv, rfl⟩ := hrel
        subst hv
        repeat (go_wp2_with (at_builtin; refine Hid.out ?_); (first | (refine Lib.hid ?_; refine wpList_append_own_at _ rfl _ _ 46 rfl W0.heap.size 5 i0 (.int .u8 0) 1 1 Tryz.underlying46 hi0 hz0 hz1 hz2 rfl (by decide) _ _ _ rfl (Grow.own (Grow.alloc hG _)) ⟨_, 0, none⟩ 1 1 [.int .u8 _] rfl rfl (cell_one_new _ _ _) (by simp [Value.oneCell']) (by unfold maxLen; simp; try omega) (by simp; try omega) (by have := hG.bel.size; simp; omega) ?_; intro v1 w1 ho hg _ ha; replace hG := Grow.next (news := [_]) (Grow.alloc hG _) rfl ho hg ha; clear ho hg ha) | (refine Lib.hid ?_; refine wpList_append_own_at _ rfl _ _ 46 rfl W0.heap.size 5 i0 (.int .u8 0) 1 1 Tryz.underlying46 hi0 hz0 hz1 hz2 rfl (by decide) _ _ _ rfl (Grow.own (Grow.alloc hG _)) ⟨_, 0, none⟩ 2 2 [.int .u8 _, .int .u8 _] rfl rfl (World.news_of_block (heap_alloc_new _ _)) (by simp [Value.oneCell']) (by unfold maxLen; simp; try omega) (by simp; try omega) (by have := hG.bel.size; simp; omega) ?_; intro v1 w1 ho hg _ ha; replace hG := Grow.next (news := [_, _]) (Grow.alloc hG _) rfl ho hg ha; clear ho hg ha) | (refine Lib.hid ?_; refine wpList_append_own_at _ rfl _ _ 46 rfl W0.heap.size 5 i0 (.int .u8 0) 1 1 Tryz.underlying46 hi0 hz0 hz1 hz2 rfl (by decide) _ _ _ rfl (Grow.own (Grow.alloc hG _)) ⟨_, 0, none⟩ 3 3 [.int .u8 _, .int .u8 _, .int .u8 _] rfl rfl (World.news_of_block (heap_alloc_new _ _)) (by simp [Value.oneCell']) (by unfold maxLen; simp; try omega) (by simp; try omega) (by have := hG.bel.size; simp; omega) ?_; intro v1 w1 ho hg _ ha; replace hG := Grow.next (news := [_, _, _]) (Grow.alloc hG _) rfl ho hg ha; clear ho hg ha)); have hcell := hG.dig 0 hds)
        go_wp2_with fail
        go_ret
        exact ⟨_, rfl, hG⟩
    case ne => exact ⟨fun hz => by have := congrArg List.length hz; simp only [List.length_append, List.length_map, List.length_take, List.length_drop, List.length_replicate, List.length_cons, List.length_nil] at this; omega, by simp only [List.length_append, List.length_map, List.length_take, List.length_drop, List.length_replicate, List.length_cons, List.length_nil]; omega⟩
set_option maxRecDepth 100000 in
set_option maxHeartbeats 6400000 in
theorem fmt_e_e_true_0 (ds : List UInt8)  (dp : Int) (hds : 0 < ds.length) (h2 : ds.length ≤ 20) (hx : 10 ≤ dp - 1 ∧ dp - 1 < 100) (hd0 : -900 ≤ dp) (hd1 : dp ≤ 900) : FmtOk true ds sv32 dp 1 1 := by
  obtain ⟨i0, hi0, hz0, hz1, hz2⟩ := info_parts info5
  have h_59481 : decide (dp - 1 < -4) = false := by simp; omega
  have h_67881 : decide (dp - 1 < 0) = false := by simp; omega
  have h_55839 : decide (dp - 1 < 10) = false := by simp; omega
  have h_41152 : decide (dp - 1 < 100) = true := by simp; omega
  have h_11079 : decide (dp - 1 ≥ 6) = true := by simp; omega
  have h_13268 : decide (6 ≤ dp - 1) = true := by simp; omega
  apply Exists.intro
  case h =>
    refine And.intro ?ne ?hh
    case hh =>
      intro D W0 w v hG
      have hcell := hG.dig 0 hds
      go_enter Tryz.func132, Tryz.ntmps132
      repeat (go_wp2_with (at_builtin; refine Hid.out ?_); (first | (refine Lib.hid ?_; refine wpList_append_own_at _ rfl _ _ 46 rfl W0.heap.size 5 i0 (.int .u8 0) 1 1 Tryz.underlying46 hi0 hz0 hz1 hz2 rfl (by decide) _ _ _ rfl (Grow.own (Grow.alloc hG _)) ⟨_, 0, none⟩ 1 1 [.int .u8 _] rfl rfl (cell_one_new _ _ _) (by simp [Value.oneCell']) (by unfold maxLen; simp; try omega) (by simp; try omega) (by have := hG.bel.size; simp; omega) ?_; intro v1 w1 ho hg _ ha; replace hG := Grow.next (news := [_]) (Grow.alloc hG _) rfl ho hg ha; clear ho hg ha) | (refine Lib.hid ?_; refine wpList_append_own_at _ rfl _ _ 46 rfl W0.heap.size 5 i0 (.int .u8 0) 1 1 Tryz.underlying46 hi0 hz0 hz1 hz2 rfl (by decide) _ _ _ rfl (Grow.own (Grow.alloc hG _)) ⟨_, 0, none⟩ 2 2 [.int .u8 _, .int .u8 _] rfl rfl (World.news_of_block (heap_alloc_new _ _)) (by simp [Value.oneCell']) (by unfold maxLen; simp; try omega) (by simp; try omega) (by have := hG.bel.size; simp; omega) ?_; intro v1 w1 ho hg _ ha; replace hG := Grow.next (news := [_, _]) (Grow.alloc hG _) rfl ho hg ha; clear ho hg ha) | (refine Lib.hid ?_; refine wpList_append_own_at _ rfl _ _ 46 rfl W0.heap.size 5 i0 (.int .u8 0) 1 1 Tryz.underlying46 hi0 hz0 hz1 hz2 rfl (by decide) _ _ _ rfl (Grow.own (Grow.alloc hG _)) ⟨_, 0, none⟩ 3 3 [.int .u8 _, .int .u8 _, .int .u8 _] rfl rfl (World.news_of_block (heap_alloc_new _ _)) (by simp [Value.oneCell']) (by unfold maxLen; simp; try omega) (by simp; try omega) (by have := hG.bel.size; simp; omega) ?_; intro v1 w1 ho hg _ ha; replace hG := Grow.next (news := [_, _, _]) (Grow.alloc hG _) rfl ho hg ha; clear ho hg ha)); have hcell := hG.dig 0 hds)
      go_wp2_with fail
      go_ret
      exact ⟨_, rfl, hG⟩
    case ne => exact ⟨fun hz => by have := congrArg List.length hz; simp only [List.length_append, List.length_map, List.length_take, List.length_drop, List.length_replicate, List.length_cons, List.length_nil] at this; omega, by simp only [List.length_append, List.length_map, List.length_take, List.length_drop, List.length_replicate, List.length_cons, List.length_nil]; omega⟩
set_option maxRecDepth 100000 in
set_option maxHeartbeats 6400000 in
theorem fmt_e_e_true_1 (ds : List UInt8) (nd : Nat) (h0 : 2 ≤ nd) (h1 : nd ≤ ds.length) (dp : Int) (hds : 0 < ds.length) (h2 : ds.length ≤ 20) (hx : 10 ≤ dp - 1 ∧ dp - 1 < 100) (hd0 : -900 ≤ dp) (hd1 : dp ≤ 900) : FmtOk true ds sv32 dp nd nd := by
  obtain ⟨i0, hi0, hz0, hz1, hz2⟩ := info_parts info5
  have h_59481 : decide (dp - 1 < -4) = false := by simp; omega
  have h_67881 : decide (dp - 1 < 0) = false := by simp; omega
  have h_55839 : decide (dp - 1 < 10) = false := by simp; omega
  have h_41152 : decide (dp - 1 < 100) = true := by simp; omega
  have h_11079 : decide (dp - 1 ≥ 6) = true := by simp; omega
  have h_13268 : decide (6 ≤ dp - 1) = true := by simp; omega
  have hc1 : ((nd : Int) != 0) = true := by rw [bne_iff_ne]; omega
  have hc2 : decide ((nd : Int) - 1 > 0) = true := by simp; omega
  have hmin : min (nd : Int) ((nd : Int) - 1 + 1) = nd := by omega
  apply Exists.intro
  case h =>
    refine And.intro ?ne ?hh
    case hh =>
      intro D W0 w v hG
      have hcell := hG.dig 0 hds
      go_enter Tryz.func132, Tryz.ntmps132
      repeat (go_wp2_with (at_builtin; refine Hid.out ?_); (first | (refine Lib.hid ?_; refine wpList_append_own_at _ rfl _ _ 46 rfl W0.heap.size 5 i0 (.int .u8 0) 1 1 Tryz.underlying46 hi0 hz0 hz1 hz2 rfl (by decide) _ _ _ rfl (Grow.own (Grow.alloc hG _)) ⟨_, 0, none⟩ 1 1 [.int .u8 _] rfl rfl (cell_one_new _ _ _) (by simp [Value.oneCell']) (by unfold maxLen; simp; try omega) (by simp; try omega) (by have := hG.bel.size; simp; omega) ?_; intro v1 w1 ho hg _ ha; replace hG := Grow.next (news := [_]) (Grow.alloc hG _) rfl ho hg ha; clear ho hg ha) | (refine Lib.hid ?_; refine wpList_append_own_at _ rfl _ _ 46 rfl W0.heap.size 5 i0 (.int .u8 0) 1 1 Tryz.underlying46 hi0 hz0 hz1 hz2 rfl (by decide) _ _ _ rfl (Grow.own (Grow.alloc hG _)) ⟨_, 0, none⟩ 2 2 [.int .u8 _, .int .u8 _] rfl rfl (World.news_of_block (heap_alloc_new _ _)) (by simp [Value.oneCell']) (by unfold maxLen; simp; try omega) (by simp; try omega) (by have := hG.bel.size; simp; omega) ?_; intro v1 w1 ho hg _ ha; replace hG := Grow.next (news := [_, _]) (Grow.alloc hG _) rfl ho hg ha; clear ho hg ha) | (refine Lib.hid ?_; refine wpList_append_own_at _ rfl _ _ 46 rfl W0.heap.size 5 i0 (.int .u8 0) 1 1 Tryz.underlying46 hi0 hz0 hz1 hz2 rfl (by decide) _ _ _ rfl (Grow.own (Grow.alloc hG _)) ⟨_, 0, none⟩ 3 3 [.int .u8 _, .int .u8 _, .int .u8 _] rfl rfl (World.news_of_block (heap_alloc_new _ _)) (by simp [Value.oneCell']) (by unfold maxLen; simp; try omega) (by simp; try omega) (by have := hG.bel.size; simp; omega) ?_; intro v1 w1 ho hg _ ha; replace hG := Grow.next (news := [_, _, _]) (Grow.alloc hG _) rfl ho hg ha; clear ho hg ha)); have hcell := hG.dig 0 hds)
      go_wp2_with (at_builtin; refine Hid.out ?_)
      (refine Lib.hid ?_; refine wpList_append_own_at _ rfl _ _ 46 rfl W0.heap.size 5 i0 (.int .u8 0) 1 1 Tryz.underlying46 hi0 hz0 hz1 hz2 rfl (by decide) _ _ _ rfl (Grow.own hG) ⟨D, 1, none⟩ (nd - 1) (32 - 1) (((ds.drop 1).take (nd - 1)).map fun b => Value.int .u8 (b.toNat : Int)) rfl (by simp; omega) (hG.piece 1 (nd - 1) (by omega)) (oneCell_map _) (by unfold maxLen; simp; try omega) (by simp; try omega) (hG.bel.size) ?_; intro v1 w1 ho hg _ ha; replace hG := Grow.next (m := (nd - 1)) (news := ((ds.drop 1).take (nd - 1)).map fun b => (b.toNat : Int)) hG (by simp; omega) (by simpa [Function.comp_def] using ho) hg ha; clear ho hg ha)
      go_wp2_with (at_builtin; refine Hid.out ?_)
      go_loop [0, 114] (fun dv i => dv = v1 ∧ i = .int .i64 0) (fun _ _ => 0)
      case atStart => exact ⟨rfl, rfl⟩
      case round =>
        obtain ⟨hv, rfl⟩ := hrel
        subst hv
        repeat (go_wp2_with (at_builtin; refine Hid.out ?_); (first | (refine Lib.hid ?_; refine wpList_append_own_at _ rfl _ _ 46 rfl W0.heap.size 5 i0 (.int .u8 0) 1 1 Tryz.underlying46 hi0 hz0 hz1 hz2 rfl (by decide) _ _ _ rfl (Grow.own (Grow.alloc hG _)) ⟨_, 0, none⟩ 1 1 [.int .u8 _] rfl rfl (cell_one_new _ _ _) (by simp [Value.oneCell']) (by unfold maxLen; simp; try omega) (by simp; try omega) (by have := hG.bel.size; simp; omega) ?_; intro v1 w1 ho hg _ ha; replace hG := Grow.next (news := [_]) (Grow.alloc hG _) rfl ho hg ha; clear ho hg ha) | (refine Lib.hid ?_; refine wpList_append_own_at _ rfl _ _ 46 rfl W0.heap.size 5 i0 (.int .u8 0) 1 1 Tryz.underlying46 hi0 hz0 hz1 hz2 rfl (by decide) _ _ _ rfl (Grow.own (Grow.alloc hG _)) ⟨_, 0, none⟩ 2 2 [.int .u8 _, .int .u8 _] rfl rfl (World.news_of_block (heap_alloc_new _ _)) (by simp [Value.oneCell']) (by unfold maxLen; simp; try omega) (by simp; try omega) (by have := hG.bel.size; simp; omega) ?_; intro v1 w1 ho hg _ ha; replace hG := Grow.next (news := [_, _]) (Grow.alloc hG _) rfl ho hg ha; clear ho hg ha) | (refine Lib.hid ?_; refine wpList_append_own_at _ rfl _ _ 46 rfl W0.heap.size 5 i0 (.int .u8 0) 1 1 Tryz.underlying46 hi0 hz0 hz1 hz2 rfl (by decide) _ _ _ rfl (Grow.own (Grow.alloc hG _)) ⟨_, 0, none⟩ 3 3 [.int .u8 _, .int .u8 _, .int .u8 _] rfl rfl (World.news_of_block (heap_alloc_new _ _)) (by simp [Value.oneCell']) (by unfold maxLen; simp; try omega) (by simp; try omega) (by have := hG.bel.size; simp; omega) ?_; intro v1 w1 ho hg _ ha; replace hG := Grow.next (news := [_, _, _]) (Grow.alloc hG _) rfl ho hg ha; clear ho hg ha)); have hcell := hG.dig 0 hds)
        go_wp2_with fail
        go_ret
        exact ⟨_, rfl, hG⟩
    case ne => exact ⟨fun hz => by have := congrArg List.length hz; simp only [List.length_append, List.length_map, List.length_take, List.length_drop, List.length_replicate, List.length_cons, List.length_nil] at this; omega, by simp only [List.length_append, List.length_map, List.length_take, List.length_drop, List.length_replicate, List.length_cons, List.length_nil]; omega⟩
set_option maxRecDepth 100000 in
set_option maxHeartbeats 6400000 in
theorem fmt_e_f_false_0 (ds : List UInt8)  (dp : Int) (hds : 0 < ds.length) (h2 : ds.length ≤ 20) (hx : 100 ≤ dp - 1) (hd0 : -900 ≤ dp) (hd1 : dp ≤ 900) : FmtOk false ds sv32 dp 1 1 := by
  obtain ⟨i0, hi0, hz0, hz1, hz2⟩ := info_parts info5
  have h_59481 : decide (dp - 1 < -4) = false := by simp; omega
  have h_67881 : decide (dp - 1 < 0) = false := by simp; omega
  have h_55839 : decide (dp - 1 < 10) = false := by simp; omega
  have h_41152 : decide (dp - 1 < 100) = false := by simp; omega
  have h_11079 : decide (dp - 1 ≥ 6) = true := by simp; omega
  have h_13268 : decide (6 ≤ dp - 1) = true := by simp; omega
  apply Exists.intro
  case h =>
    refine And.intro ?ne ?hh
    case hh =>
      intro D W0 w v hG
      have hcell := hG.dig 0 hds
      go_enter Tryz.func132, Tryz.ntmps132
      repeat (go_wp2_with (at_builtin; refine Hid.out ?_); (first | (refine Lib.hid ?_; refine wpList_append_own_at _ rfl _ _ 46 rfl W0.heap.size 5 i0 (.int .u8 0) 1 1 Tryz.underlying46 hi0 hz0 hz1 hz2 rfl (by decide) _ _ _ rfl (Grow.own (Grow.alloc hG _)) ⟨_, 0, none⟩ 1 1 [.int .u8 _] rfl rfl (cell_one_new _ _ _) (by simp [Value.oneCell']) (by unfold maxLen; simp; try omega) (by simp; try omega) (by have := hG.bel.size; simp; omega) ?_; intro v1 w1 ho hg _ ha; replace hG := Grow.next (news := [_]) (Grow.alloc hG _) rfl ho hg ha; clear ho hg ha) | (refine Lib.hid ?_; refine wpList_append_own_at _ rfl _ _ 46 rfl W0.heap.size 5 i0 (.int .u8 0) 1 1 Tryz.underlying46 hi0 hz0 hz1 hz2 rfl (by decide) _ _ _ rfl (Grow.own (Grow.alloc hG _)) ⟨_, 0, none⟩ 2 2 [.int .u8 _, .int .u8 _] rfl rfl (World.news_of_block (heap_alloc_new _ _)) (by simp [Value.oneCell']) (by unfold maxLen; simp; try omega) (by simp; try omega) (by have := hG.bel.size; simp; omega) ?_; intro v1 w1 ho hg _ ha; replace hG := Grow.next (news := [_, _]) (Grow.alloc hG _) rfl ho hg ha; clear ho hg ha) | (refine Lib.hid ?_; refine wpList_append_own_at _ rfl _ _ 46 rfl W0.heap.size 5 i0 (.int .u8 0) 1 1 Tryz.underlying46 hi0 hz0 hz1 hz2 rfl (by decide) _ _ _ rfl (Grow.own (Grow.alloc hG _)) ⟨_, 0, none⟩ 3 3 [.int .u8 _, .int .u8 _, .int .u8 _] rfl rfl (World.news_of_block (heap_alloc_new _ _)) (by simp [Value.oneCell']) (by unfold maxLen; simp; try omega) (by simp; try omega) (by have := hG.bel.size; simp; omega) ?_; intro v1 w1 ho hg _ ha; replace hG := Grow.next (news := [_, _, _]) (Grow.alloc hG _) rfl ho hg ha; clear ho hg ha)); have hcell := hG.dig 0 hds)
      go_wp2_with fail
      go_ret
      exact ⟨_, rfl, hG⟩
    case ne => exact ⟨fun hz => by have := congrArg List.length hz; simp only [List.length_append, List.length_map, List.length_take, List.length_drop, List.length_replicate, List.length_cons, List.length_nil] at this; omega, by simp only [List.length_append, List.length_map, List.length_take, List.length_drop, List.length_replicate, List.length_cons, List.length_nil]; omega⟩
set_option maxRecDepth 100000 in
set_option maxHeartbeats 6400000 in
theorem fmt_e_f_false_1 (ds : List UInt8) (nd : Nat) (h0 : 2 ≤ nd) (h1 : nd ≤ ds.length) (dp : Int) (hds : 0 < ds.length) (h2 : ds.length ≤ 20) (hx : 100 ≤ dp - 1) (hd0 : -900 ≤ dp) (hd1 : dp ≤ 900) : FmtOk false ds sv32 dp nd nd := by
  obtain ⟨i0, hi0, hz0, hz1, hz2⟩ := info_parts info5
  have h_59481 : decide (dp - 1 < -4) = false := by simp; omega
  have h_67881 : decide (dp - 1 < 0) = false := by simp; omega
  have h_55839 : decide (dp - 1 < 10) = false := by simp; omega
  have h_41152 : decide (dp - 1 < 100) = false := by simp; omega
  have h_11079 : decide (dp - 1 ≥ 6) = true := by simp; omega
  have h_13268 : decide (6 ≤ dp - 1) = true := by simp; omega
  have hc1 : ((nd : Int) != 0) = true := by rw [bne_iff_ne]; omega
  have hc2 : decide ((nd : Int) - 1 > 0) = true := by simp; omega
  have hmin : min (nd : Int) ((nd : Int) - 1 + 1) = nd := by omega
  apply Exists.intro
  case h =>
    refine And.intro ?ne ?hh
    case hh =>
      intro D W0 w v hG
      have hcell := hG.dig 0 hds
      go_enter Tryz.func132, Tryz.ntmps132
      repeat (go_wp2_with (at_builtin; refine Hid.out ?_); (first | (refine Lib.hid ?_; refine wpList_append_own_at _ rfl _ _ 46 rfl W0.heap.size 5 i0 (.int .u8 0) 1 1 Tryz.underlying46 hi0 hz0 hz1 hz2 rfl (by decide) _ _ _ rfl (Grow.own (Grow.alloc hG _)) ⟨_, 0, none⟩ 1 1 [.int .u8 _] rfl rfl (cell_one_new _ _ _) (by simp [Value.oneCell']) (by unfold maxLen; simp; try omega) (by simp; try omega) (by have := hG.bel.size; simp; omega) ?_; intro v1 w1 ho hg _ ha; replace hG := Grow.next (news := [_]) (Grow.alloc hG _) rfl ho hg ha; clear ho hg ha) | (refine Lib.hid ?_; refine wpList_append_own_at _ rfl _ _ 46 rfl W0.heap.size 5 i0 (.int .u8 0) 1 1 Tryz.underlying46 hi0 hz0 hz1 hz2 rfl (by decide) _ _ _ rfl (Grow.own (Grow.alloc hG _)) ⟨_, 0, none⟩ 2 2 [.int .u8 _, .int .u8 _] rfl rfl (World.news_of_block (heap_alloc_new _ _)) (by simp [Value.oneCell']) (by unfold maxLen; simp; try omega) (by simp; try omega) (by have := hG.bel.size; simp; omega) ?_; intro v1 w1 ho hg _ ha; replace hG := Grow.next (news := [_, _]) (Grow.alloc hG _) rfl ho hg ha; clear ho hg ha) | (refine Lib.hid ?_; refine wpList_append_own_at _ rfl _ _ 46 rfl W0.heap.size 5 i0 (.int .u8 0) 1 1 Tryz.underlying46 hi0 hz0 hz1 hz2 rfl (by decide) _ _ _ rfl (Grow.own (Grow.alloc hG _)) ⟨_, 0, none⟩ 3 3 [.int .u8 _, .int .u8 _, .int .u8 _] rfl rfl (World.news_of_block (heap_alloc_new _ _)) (by simp [Value.oneCell']) (by unfold maxLen; simp; try omega) (by simp; try omega) (by have := hG.bel.size; simp; omega) ?_; intro v1 w1 ho hg _ ha; replace hG := Grow.next (news := [_, _, _]) (Grow.alloc hG _) rfl ho hg ha; clear ho hg ha)); have hcell := hG.dig 0 hds)
      go_wp2_with (at_builtin; refine Hid.out ?_)
      (refine Lib.hid ?_; refine wpList_append_own_at _ rfl _ _ 46 rfl W0.heap.size 5 i0 (.int .u8 0) 1 1 Tryz.underlying46 hi0 hz0 hz1 hz2 rfl (by decide) _ _ _ rfl (Grow.own hG) ⟨D, 1, none⟩ (nd - 1) (32 - 1) (((ds.drop 1).take (nd - 1)).map fun b => Value.int .u8 (b.toNat : Int)) rfl (by simp; omega) (hG.piece 1 (nd - 1) (by omega)) (oneCell_map _) (by unfold maxLen; simp; try omega) (by simp; try omega) (hG.bel.size) ?_; intro v1 w1 ho hg _ ha; replace hG := Grow.next (m := (nd - 1)) (news := ((ds.drop 1).take (nd - 1)).map fun b => (b.toNat : Int)) hG (by simp; omega) (by simpa [Function.comp_def] using ho) hg ha; clear ho hg ha)
      go_wp2_with (at_builtin; refine Hid.out ?_)
      go_loop [0, 114] (fun dv i => dv = v1 ∧ i = .int .i64 0) (fun _ _ => 0)
      case atStart => exact ⟨rfl, rfl⟩
      case round =>
        obtain ⟨hv, rfl⟩ := hrel
        subst hv
        repeat (go_wp2_with (at_builtin; refine Hid.out ?_); (first | (refine Lib.hid ?_; refine wpList_append_own_at _ rfl _ _ 46 rfl W0.heap.size 5 i0 (.int .u8 0) 1 1 Tryz.underlying46 hi0 hz0 hz1 hz2 rfl (by decide) _ _ _ rfl (Grow.own (Grow.alloc hG _)) ⟨_, 0, none⟩ 1 1 [.int .u8 _] rfl rfl (cell_one_new _ _ _) (by simp [Value.oneCell']) (by unfold maxLen; simp; try omega) (by simp; try omega) (by have := hG.bel.size; simp; omega) ?_; intro v1 w1 ho hg _ ha; replace hG := Grow.next (news := [_]) (Grow.alloc hG _) rfl ho hg ha; clear ho hg ha) | (refine Lib.hid ?_; refine wpList_append_own_at _ rfl _ _ 46 rfl W0.heap.size 5 i0 (.int .u8 0) 1 1 Tryz.underlying46 hi0 hz0 hz1 hz2 rfl (by decide) _ _ _ rfl (Grow.own (Grow.alloc hG _)) ⟨_, 0, none⟩ 2 2 [.int .u8 _, .int .u8 _] rfl rfl (World.news_of_block (heap_alloc_new _ _)) (by simp [Value.oneCell']) (by unfold maxLen; simp; try omega) (by simp; try omega) (by have := hG.bel.size; simp; omega) ?_; intro v1 w1 ho hg _ ha; replace hG := Grow.next (news := [_, _]) (Grow.alloc hG _) rfl ho hg ha; clear ho hg ha) | (refine Lib.hid ?_; refine wpList_append_own_at _ rfl _ _ 46 rfl W0.heap.size 5 i0 (.int .u8 0) 1 1 Tryz.underlying46 hi0 hz0 hz1 hz2 rfl (by decide) _ _ _ rfl (Grow.own (Grow.alloc hG _)) ⟨_, 0, none⟩ 3 3 [.int .u8 _, .int .u8 _, .int .u8 _] rfl rfl (World.news_of_block (heap_alloc_new _ _)) (by simp [Value.oneCell']) (by unfold maxLen; simp; try omega) (by simp; try omega) (by have := hG.bel.size; simp; omega) ?_; intro v1 w1 ho hg _ ha; replace hG := Grow.next (news := [_, _, _]) (Grow.alloc hG _) rfl ho hg ha; clear ho hg ha)); have hcell := hG.dig 0 hds)
        go_wp2_with fail
        go_ret
        exact ⟨_, rfl, hG⟩
    case ne => exact ⟨fun hz => by have := congrArg List.length hz; simp only [List.length_append, List.length_map, List.length_take, List.length_drop, List.length_replicate, List.length_cons, List.length_nil] at this; omega, by simp only [List.length_append, List.length_map, List.length_take, List.length_drop, List.length_replicate, List.length_cons, List.length_nil]; omega⟩
set_option maxRecDepth 100000 in
set_option maxHeartbeats 6400000 in
theorem fmt_e_f_true_0 (ds : List UInt8)  (dp : Int) (hds : 0 < ds.length) (h2 : ds.length ≤ 20) (hx : 100 ≤ dp - 1) (hd0 : -900 ≤ dp) (hd1 : dp ≤ 900) : FmtOk true ds sv32 dp 1 1 := by
  obtain ⟨i0, hi0, hz0, hz1, hz2⟩ := info_parts info5
  have h_59481 : decide (dp - 1 < -4) = false := by simp; omega
  have h_67881 : decide (dp - 1 < 0) = false := by simp; omega
  have h_55839 : decide (dp - 1 < 10) = false := by simp; omega
  have h_41152 : decide (dp - 1 < 100) = false := by simp; omega
  have h_11079 : decide (dp - 1 ≥ 6) = true := by simp; omega
  have h_13268 : decide (6 ≤ dp - 1) = true := by simp; omega
  apply Exists.intro
  case h =>
    refine And.intro ?ne ?hh
    case hh =>
      intro D W0 w v hG
      have hcell := hG.dig 0 hds
      go_enter Tryz.func132, Tryz.ntmps132
      repeat (go_wp2_with (at_builtin; refine Hid.out ?_); (first | (refine Lib.hid ?_; refine wpList_append_own_at _ rfl _ _ 46 rfl W0.heap.size 5 i0 (.int .u8 0) 1 1 Tryz.underlying46 hi0 hz0 hz1 hz2 rfl (by decide) _ _ _ rfl (Grow.own (Grow.alloc hG _)) ⟨_, 0, none⟩ 1 1 [.int .u8 _] rfl rfl (cell_one_new _ _ _) (by simp [Value.oneCell']) (by unfold maxLen; simp; try omega) (by simp; try omega) (by have := hG.bel.size; simp; omega) ?_; intro v1 w1 ho hg _ ha; replace hG := Grow.next (news := [_]) (Grow.alloc hG _) rfl ho hg ha; clear ho hg ha) | (refine Lib.hid ?_; refine wpList_append_own_at _ rfl _ _ 46 rfl W0.heap.size 5 i0 (.int .u8 0) 1 1 Tryz.underlying46 hi0 hz0 hz1 hz2 rfl (by decide) _ _ _ rfl (Grow.own (Grow.alloc hG _)) ⟨_, 0, none⟩ 2 2 [.int .u8 _, .int .u8 _] rfl rfl (World.news_of_block (heap_alloc_new _ _)) (by simp [Value.oneCell']) (by unfold maxLen; simp; try omega) (by simp; try omega) (by have := hG.bel.size; simp; omega) ?_; intro v1 w1 ho hg _ ha; replace hG := Grow.next (news := [_, _]) (Grow.alloc hG _) rfl ho hg ha; clear ho hg ha) | (refine Lib.hid ?_; refine wpList_append_own_at _ rfl _ _ 46 rfl W0.heap.size 5 i0 (.int .u8 0) 1 1 Tryz.underlying46 hi0 hz0 hz1 hz2 rfl (by decide) _ _ _ rfl (Grow.own (Grow.alloc hG _)) ⟨_, 0, none⟩ 3 3 [.int .u8 _, .int .u8 _, .int .u8 _] rfl rfl (World.news_of_block (heap_alloc_new _ _)) (by simp [Value.oneCell']) (by unfold maxLen; simp; try omega) (by simp; try omega) (by have := hG.bel.size; simp; omega) ?_; intro v1 w1 ho hg _ ha; replace hG := Grow.next (news := [_, _, _]) (Grow.alloc hG _) rfl ho hg ha; clear ho hg ha)); have hcell := hG.dig 0 hds)
      go_wp2_with fail
      go_ret
      exact ⟨_, rfl, hG⟩
    case ne => exact ⟨fun hz => by have := congrArg List.length hz; simp only [List.length_append, List.length_map, List.length_take, List.length_drop, List.length_replicate, List.length_cons, List.length_nil] at this; omega, by simp only [List.length_append, List.length_map, List.length_take, List.length_drop, List.length_replicate, List.length_cons, List.length_nil]; omega⟩
set_option maxRecDepth 100000 in
set_option maxHeartbeats 6400000 in
theorem fmt_e_f_true_1 (ds : List UInt8) (nd : Nat) (h0 : 2 ≤ nd) (h1 : nd ≤ ds.length) (dp : Int) (hds : 0 < ds.length) (h2 : ds.length ≤ 20) (hx : 100 ≤ dp - 1) (hd0 : -900 ≤ dp) (hd1 : dp ≤ 900) : FmtOk true ds sv32 dp nd nd := by
  obtain ⟨i0, hi0, hz0, hz1, hz2⟩ := info_parts info5
  have h_59481 : decide (dp - 1 < -4) = false := by simp; omega
  have h_67881 : decide (dp - 1 < 0) = false := by simp; omega
  have h_55839 : decide (dp - 1 < 10) = false := by simp; omega
  have h_41152 : decide (dp - 1 < 100) = false := by simp; omega
  have h_11079 : decide (dp - 1 ≥ 6) = true := by simp; omega
  have h_13268 : decide (6 ≤ dp - 1) = true := by simp; omega
  have hc1 : ((nd : Int) != 0) = true := by rw [bne_iff_ne]; omega
  have hc2 : decide ((nd : Int) - 1 > 0) = true := by simp; omega
  have hmin : min (nd : Int) ((nd : Int) - 1 + 1) = nd := by omega
  apply Exists.intro
  case h =>
    refine And.intro ?ne ?hh
    case hh =>
      intro D W0 w v hG
      have hcell := hG.dig 0 hds
      go_enter Tryz.func132, Tryz.ntmps132
      repeat (go_wp2_with (at_builtin; refine Hid.out ?_); (first | (refine Lib.hid ?_; refine wpList_append_own_at _ rfl _ _ 46 rfl W0.heap.size 5 i0 (.int .u8 0) 1 1 Tryz.underlying46 hi0 hz0 hz1 hz2 rfl (by decide) _ _ _ rfl (Grow.own (Grow.alloc hG _)) ⟨_, 0, none⟩ 1 1 [.int .u8 _] rfl rfl (cell_one_new _ _ _) (by simp [Value.oneCell']) (by unfold maxLen; simp; try omega) (by simp; try omega) (by have := hG.bel.size; simp; omega) ?_; intro v1 w1 ho hg _ ha; replace hG := Grow.next (news := [_]) (Grow.alloc hG _) rfl ho hg ha; clear ho hg ha) | (refine Lib.hid ?_; refine wpList_append_own_at _ rfl _ _ 46 rfl W0.heap.size 5 i0 (.int .u8 0) 1 1 Tryz.underlying46 hi0 hz0 hz1 hz2 rfl (by decide) _ _ _ rfl (Grow.own (Grow.alloc hG _)) ⟨_, 0, none⟩ 2 2 [.int .u8 _, .int .u8 _] rfl rfl (World.news_of_block (heap_alloc_new _ _)) (by simp [Value.oneCell']) (by unfold maxLen; simp; try omega) (by simp; try omega) (by have := hG.bel.size; simp; omega) ?_; intro v1 w1 ho hg _ ha; replace hG := Grow.next (news := [_, _]) (Grow.alloc hG _) rfl ho hg ha; clear ho hg ha) | (refine Lib.hid ?_; refine wpList_append_own_at _ rfl _ _ 46 rfl W0.heap.size 5 i0 (.int .u8 0) 1 1 Tryz.underlying46 hi0 hz0 hz1 hz2 rfl (by decide) _ _ _ rfl (Grow.own (Grow.alloc hG _)) ⟨_, 0, none⟩ 3 3 [.int .u8 _, .int .u8 _, .int .u8 _] rfl rfl (World.news_of_block (heap_alloc_new _ _)) (by simp [Value.oneCell']) (by unfold maxLen; simp; try omega) (by simp; try omega) (by have := hG.bel.size; simp; omega) ?_; intro v1 w1 ho hg _ ha; replace hG := Grow.next (news := [_, _, _]) (Grow.alloc hG _) rfl ho hg ha; clear ho hg ha)); have hcell := hG.dig 0 hds)
      go_wp2_with (at_builtin; refine Hid.out ?_)
      (refine Lib.hid ?_; refine wpList_append_own_at _ rfl _ _ 46 rfl W0.heap.size 5 i0 (.int .u8 0) 1 1 Tryz.underlying46 hi0 hz0 hz1 hz2 rfl (by decide) _ _ _ rfl (Grow.own hG) ⟨D, 1, none⟩ (nd - 1) (32 - 1) (((ds.drop 1).take (nd - 1)).map fun b => Value.int .u8 (b.toNat : Int)) rfl (by simp; omega) (hG.piece 1 (nd - 1) (by omega)) (oneCell_map _) (by unfold maxLen; simp; try omega) (by simp; try omega) (hG.bel.size) ?_; intro v1 w1 ho hg _ ha; replace hG := Grow.next (m := (nd - 1)) (news := ((ds.drop 1).take (nd - 1)).map fun b => (b.toNat : Int)) hG (by simp; omega) (by simpa [Function.comp_def] using ho) hg ha; clear ho hg ha)
      go_wp2_with (at_builtin; refine Hid.out ?_)
      go_loop [0, 114] (fun dv i => dv = v1 ∧ i = .int .i64 0) (fun _ _ => 0)
      case atStart => exact ⟨rfl, rfl⟩
      case round =>
        obtain ⟨hv, rfl⟩ := hrel
        subst hv
        repeat (go_wp2_with (at_builtin; refine Hid.out ?_); (first | (refine Lib.hid ?_; refine wpList_append_own_at _ rfl _ _ 46 rfl W0.heap.size 5 i0 (.int .u8 0) 1 1 Tryz.underlying46 hi0 hz0 hz1 hz2 rfl (by decide) _ _ _ rfl (Grow.own (Grow.alloc hG _)) ⟨_, 0, none⟩ 1 1 [.int .u8 _] rfl rfl (cell_one_new _ _ _) (by simp [Value.oneCell']) (by unfold maxLen; simp; try omega) (by simp; try omega) (by have := hG.bel.size; simp; omega) ?_; intro v1 w1 ho hg _ ha; replace hG := Grow.next (news := [_]) (Grow.alloc hG _) rfl ho hg ha; clear ho hg ha) | (refine Lib.hid ?_; refine wpList_append_own_at _ rfl _ _ 46 rfl W0.heap.size 5 i0 (.int .u8 0) 1 1 Tryz.underlying46 hi0 hz0 hz1 hz2 rfl (by decide) _ _ _ rfl (Grow.own (Grow.alloc hG _)) ⟨_, 0, none⟩ 2 2 [.int .u8 _, .int .u8 _] rfl rfl (World.news_of_block (heap_alloc_new _ _)) (by simp [Value.oneCell']) (by unfold maxLen; simp; try omega) (by simp; try omega) (by have := hG.bel.size; simp; omega) ?_; intro v1 w1 ho hg _ ha; replace hG := Grow.next (news := [_, _]) (Grow.alloc hG _) rfl ho hg ha; clear ho hg ha) | (refine Lib.hid ?_; refine wpList_append_own_at _ rfl _ _ 46 rfl W0.heap.size 5 i0 (.int .u8 0) 1 1 Tryz.underlying46 hi0 hz0 hz1 hz2 rfl (by decide) _ _ _ rfl (Grow.own (Grow.alloc hG _)) ⟨_, 0, none⟩ 3 3 [.int .u8 _, .int .u8 _, .int .u8 _] rfl rfl (World.news_of_block (heap_alloc_new _ _)) (by simp [Value.oneCell']) (by unfold maxLen; simp; try omega) (by simp; try omega) (by have := hG.bel.size; simp; omega) ?_; intro v1 w1 ho hg _ ha; replace hG := Grow.next (news := [_, _, _]) (Grow.alloc hG _) rfl ho hg ha; clear ho hg ha)); have hcell := hG.dig 0 hds)
        go_wp2_with fail
        go_ret
        exact ⟨_, rfl, hG⟩
    case ne => exact ⟨fun hz => by have := congrArg List.length hz; simp only [List.length_append, List.length_map, List.length_take, List.length_drop, List.length_replicate, List.length_cons, List.length_nil] at this; omega, by simp only [List.length_append, List.length_map, List.length_take, List.length_drop, List.length_replicate, List.length_cons, List.length_nil]; omega⟩
end Go.Proofs.YtjbpphomlmlmaaaGreatDoor
