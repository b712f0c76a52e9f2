/- The text of a float that is not zero: the plain form. -/
import Derived.Test.YtjbpphomlmlmaaaGreatDoorQK4
namespace Go.Proofs.YtjbpphomlmlmaaaGreatDoor
open Go.RowKit Go.Sort Go.Lib
set_option linter.unusedVariables false
set_option linter.unusedSimpArgs false
theorem take_more (ds : List UInt8) (o j : Nat) (h : o + j < ds.length) : ((ds.drop o).take (j + 1)).map (fun b => (b.toNat : Int)) = ((ds.drop o).take j).map (fun b => (b.toNat : Int)) ++ [(ds[o + j].toNat : Int)] := by
  rw [List.take_succ_eq_append_getElem (by simp; omega)]
  simp
set_option maxRecDepth 100000 in
set_option maxHeartbeats 6400000 in
theorem fmt_f3p (ds : List UInt8) (nd : Nat) (dp : Int) (h0 : 1 ≤ nd) (h1 : nd ≤ ds.length) (h2 : ds.length ≤ 20) (k : Nat) (hd : dp = k) (hk0 : nd ≤ k) (hk1 : k ≤ 6) : FmtOk false ds sv32 dp nd nd := by
  obtain ⟨i0, hi0, hz0, hz1, hz2⟩ := info_parts info5
  subst hd
  have hmin : min (nd : Int) (k : Int) = nd := by omega
  have hmax : max ((nd : Int) - (k : Int)) 0 = 0 := by omega
  have hx1 : decide ((k : Int) - 1 < -4) = false := by simp; omega
  have hx2 : decide ((k : Int) - 1 ≥ 6) = false := by simp; omega
  have hx3 : decide (k < nd) = false := by simp; omega
  have hx4 : decide (0 < k) = true := by simp; omega
  apply Exists.intro
  case h =>
    refine And.intro ?ne ?hh
    case hh =>
      intro D W0 w v hG
      go_enter Tryz.func132, Tryz.ntmps132
      go_wp2_with fail
      go_loopw [0, 191] (fun dv i wr => ∃ j : Nat, j ≤ nd ∧ i = .int .i64 j ∧ Grow D ds W0 dv (([]) ++ ((ds.drop 0).take j).map fun b => (b.toNat : Int)) wr) (fun _ i _ => nd - (intOf i).toNat)
      case atStart => exact ⟨0, Nat.zero_le _, rfl, by simpa using hG⟩
      case round =>
        clear hG
        obtain ⟨j, hj, rfl, hG⟩ := hrel
        by_cases hlt : j < nd
        · have hcell := hG.dig (0 + j) (by omega)
          try simp only [Nat.zero_add] at hcell
          go_wp2_with (at_builtin; refine Hid.out ?_)
          (refine Lib.hid ?_; refine wpList_append_own_at _ rfl _ _ 46 rfl W0.heap.size 5 i0 (.int .u8 0) 1 1 Tryz.underlying46 hi0 hz0 hz1 hz2 rfl (by decide) _ _ _ rfl (Grow.own (Grow.alloc hG _)) ⟨_, 0, none⟩ 1 1 [.int .u8 _] rfl rfl (cell_one_new _ _ _) (by simp [Value.oneCell']) (by unfold maxLen; simp; try omega) (by simp; try omega) (by have := hG.bel.size; simp; omega) ?_; intro v1 w1 ho hg _ ha; replace hG := Grow.next (news := [_]) (Grow.alloc hG _) rfl ho hg ha; clear ho hg ha)
          go_wp2_with fail
          go_roundw
          case rel => exact ⟨j + 1, by omega, by go_num, by rw [take_more ds 0 j (by omega), ← List.append_assoc]; simpa only [Nat.zero_add] using hG⟩
          case measure => simp [intOf]; omega
        · obtain rfl : nd = j := by omega
          clear hlt hj
          go_wp2_with fail
          go_loopw [0, 203] (fun dv i wr => ∃ j : Nat, j ≤ (k - nd) ∧ i = .int .i64 j ∧ Grow D ds W0 dv (([] ++ ((ds.drop 0).take nd).map fun b => (b.toNat : Int)) ++ List.replicate j 48) wr) (fun _ i _ => (k - nd) - (intOf i).toNat)
          case atStart => exact ⟨0, Nat.zero_le _, rfl, by simpa using hG⟩
          case round =>
            clear hG
            obtain ⟨j, hj, rfl, hG⟩ := hrel
            by_cases hlt : j < (k - nd)
            · go_wp2_with (at_builtin; refine Hid.out ?_)
              (refine Lib.hid ?_; refine wpList_append_own_at _ rfl _ _ 46 rfl W0.heap.size 5 i0 (.int .u8 0) 1 1 Tryz.underlying46 hi0 hz0 hz1 hz2 rfl (by decide) _ _ _ rfl (Grow.own (Grow.alloc hG _)) ⟨_, 0, none⟩ 1 1 [.int .u8 _] rfl rfl (cell_one_new _ _ _) (by simp [Value.oneCell']) (by unfold maxLen; simp; try omega) (by simp; try omega) (by have := hG.bel.size; simp; omega) ?_; intro v1 w1 ho hg _ ha; replace hG := Grow.next (news := [_]) (Grow.alloc hG _) rfl ho hg ha; clear ho hg ha)
              go_wp2_with fail
              go_roundw
              case rel => exact ⟨j + 1, by omega, by go_num, by rw [List.replicate_succ', ← List.append_assoc]; exact hG⟩
              case measure => simp [intOf]; omega
            · obtain rfl : (k - nd) = j := by omega
              clear hlt hj
              go_wp2_with fail
              go_ret
              exact ⟨_, rfl, hG⟩
    case ne => exact ⟨fun hz => by have := congrArg List.length hz; simp only [List.length_append, List.length_map, List.length_take, List.length_drop, List.length_replicate, List.length_cons, List.length_nil] at this; omega, by simp only [List.length_append, List.length_map, List.length_take, List.length_drop, List.length_replicate, List.length_cons, List.length_nil]; omega⟩
set_option maxRecDepth 100000 in
set_option maxHeartbeats 6400000 in
theorem fmt_f3n (ds : List UInt8) (nd : Nat) (dp : Int) (h0 : 1 ≤ nd) (h1 : nd ≤ ds.length) (h2 : ds.length ≤ 20) (k : Nat) (hd : dp = k) (hk0 : nd ≤ k) (hk1 : k ≤ 6) : FmtOk true ds sv32 dp nd nd := by
  obtain ⟨i0, hi0, hz0, hz1, hz2⟩ := info_parts info5
  subst hd
  have hmin : min (nd : Int) (k : Int) = nd := by omega
  have hmax : max ((nd : Int) - (k : Int)) 0 = 0 := by omega
  have hx1 : decide ((k : Int) - 1 < -4) = false := by simp; omega
  have hx2 : decide ((k : Int) - 1 ≥ 6) = false := by simp; omega
  have hx3 : decide (k < nd) = false := by simp; omega
  have hx4 : decide (0 < k) = true := by simp; omega
  apply Exists.intro
  case h =>
    refine And.intro ?ne ?hh
    case hh =>
      intro D W0 w v hG
      go_enter Tryz.func132, Tryz.ntmps132
      go_wp2_with (at_builtin; refine Hid.out ?_)
      (refine Lib.hid ?_; refine wpList_append_own_at _ rfl _ _ 46 rfl W0.heap.size 5 i0 (.int .u8 0) 1 1 Tryz.underlying46 hi0 hz0 hz1 hz2 rfl (by decide) _ _ _ rfl (Grow.own (Grow.alloc hG _)) ⟨_, 0, none⟩ 1 1 [.int .u8 _] rfl rfl (cell_one_new _ _ _) (by simp [Value.oneCell']) (by unfold maxLen; simp; try omega) (by simp; try omega) (by have := hG.bel.size; simp; omega) ?_; intro v1 w1 ho hg _ ha; replace hG := Grow.next (news := [_]) (Grow.alloc hG _) rfl ho hg ha; clear ho hg ha)
      go_wp2_with fail
      go_loopw [0, 191] (fun dv i wr => ∃ j : Nat, j ≤ nd ∧ i = .int .i64 j ∧ Grow D ds W0 dv (([] ++ [45]) ++ ((ds.drop 0).take j).map fun b => (b.toNat : Int)) wr) (fun _ i _ => nd - (intOf i).toNat)
      case atStart => exact ⟨0, Nat.zero_le _, rfl, by simpa using hG⟩
      case round =>
        clear hG
        obtain ⟨j, hj, rfl, hG⟩ := hrel
        by_cases hlt : j < nd
        · have hcell := hG.dig (0 + j) (by omega)
          try simp only [Nat.zero_add] at hcell
          go_wp2_with (at_builtin; refine Hid.out ?_)
          (refine Lib.hid ?_; refine wpList_append_own_at _ rfl _ _ 46 rfl W0.heap.size 5 i0 (.int .u8 0) 1 1 Tryz.underlying46 hi0 hz0 hz1 hz2 rfl (by decide) _ _ _ rfl (Grow.own (Grow.alloc hG _)) ⟨_, 0, none⟩ 1 1 [.int .u8 _] rfl rfl (cell_one_new _ _ _) (by simp [Value.oneCell']) (by unfold maxLen; simp; try omega) (by simp; try omega) (by have := hG.bel.size; simp; omega) ?_; intro v1 w1 ho hg _ ha; replace hG := Grow.next (news := [_]) (Grow.alloc hG _) rfl ho hg ha; clear ho hg ha)
          go_wp2_with fail
          go_roundw
          case rel => exact ⟨j + 1, by omega, by go_num, by rw [take_more ds 0 j (by omega), ← List.append_assoc]; simpa only [Nat.zero_add] using hG⟩
          case measure => simp [intOf]; omega
        · obtain rfl : nd = j := by omega
          clear hlt hj
          go_wp2_with fail
          go_loopw [0, 203] (fun dv i wr => ∃ j : Nat, j ≤ (k - nd) ∧ i = .int .i64 j ∧ Grow D ds W0 dv (([] ++ [45] ++ ((ds.drop 0).take nd).map fun b => (b.toNat : Int)) ++ List.replicate j 48) wr) (fun _ i _ => (k - nd) - (intOf i).toNat)
          case atStart => exact ⟨0, Nat.zero_le _, rfl, by simpa using hG⟩
          case round =>
            clear hG
            obtain ⟨j, hj, rfl, hG⟩ := hrel
            by_cases hlt : j < (k - nd)
            · go_wp2_with (at_builtin; refine Hid.out ?_)
              (refine Lib.hid ?_; refine wpList_append_own_at _ rfl _ _ 46 rfl W0.heap.size 5 i0 (.int .u8 0) 1 1 Tryz.underlying46 hi0 hz0 hz1 hz2 rfl (by decide) _ _ _ rfl (Grow.own (Grow.alloc hG _)) ⟨_, 0, none⟩ 1 1 [.int .u8 _] rfl rfl (cell_one_new _ _ _) (by simp [Value.oneCell']) (by unfold maxLen; simp; try omega) (by simp; try omega) (by have := hG.bel.size; simp; omega) ?_; intro v1 w1 ho hg _ ha; replace hG := Grow.next (news := [_]) (Grow.alloc hG _) rfl ho hg ha; clear ho hg ha)
              go_wp2_with fail
              go_roundw
              case rel => exact ⟨j + 1, by omega, by go_num, by rw [List.replicate_succ', ← List.append_assoc]; exact hG⟩
              case measure => simp [intOf]; omega
            · obtain rfl : (k - nd) = j := by omega
              clear hlt hj
              go_wp2_with fail
              go_ret
              exact ⟨_, rfl, hG⟩
    case ne => exact ⟨fun hz => by have := congrArg List.length hz; simp only [List.length_append, List.length_map, List.length_take, List.length_drop, List.length_replicate, List.length_cons, List.length_nil] at this; omega, by simp only [List.length_append, List.length_map, List.length_take, List.length_drop, List.length_replicate, List.length_cons, List.length_nil]; omega⟩
set_option maxRecDepth 100000 in
set_option maxHeartbeats 6400000 in
theorem fmt_f1p (ds : List UInt8) (nd : Nat) (dp : Int) (h0 : 1 ≤ nd) (h1 : nd ≤ ds.length) (h2 : ds.length ≤ 20) (k : Nat) (hd : dp = -(k : Int)) (hk1 : k ≤ 3) : FmtOk false ds sv32 dp nd nd := by
  obtain ⟨i0, hi0, hz0, hz1, hz2⟩ := info_parts info5
  subst hd
  have hx1 : decide (-(k : Int) - 1 < -4) = false := by simp; omega
  have hx2 : decide (-(k : Int) - 1 ≥ 6) = false := by simp; omega
  have hx3 : decide (-(k : Int) > 0) = false := by simp
  have hx4 : decide ((nd : Int) > -(k : Int)) = true := by simp; omega
  have hx5 : decide (0 < nd + k) = true := by simp; omega
  have hmax : max ((nd : Int) - -(k : Int)) 0 = nd + k := by omega
  have hmaxb : max ((nd : Int) + (k : Int)) 0 = nd + k := by omega
  have hm2 : max (0 : Int) (k : Int) = k := by omega
  have hm3 : min ((nd : Int) + (k : Int)) (k : Int) = k := by omega
  have hm4 : -(k : Int) + k = 0 := by omega
  have hm5 : (nd : Int) - 0 = nd := by omega
  have hm6 : max (0 : Int) (nd : Int) = nd := by omega
  have hm7 : min (nd : Int) (nd : Int) = nd := by omega
  have hm8 : (nd : Int) - nd = 0 := by omega
  have hm9 : (nd : Int) + k - k = nd := by omega
  apply Exists.intro
  case h =>
    refine And.intro ?ne ?hh
    case hh =>
      intro D W0 w v hG
      go_enter Tryz.func132, Tryz.ntmps132
      go_wp2_with (at_builtin; refine Hid.out ?_)
      (refine Lib.hid ?_; refine wpList_append_own_at _ rfl _ _ 46 rfl W0.heap.size 5 i0 (.int .u8 0) 1 1 Tryz.underlying46 hi0 hz0 hz1 hz2 rfl (by decide) _ _ _ rfl (Grow.own (Grow.alloc hG _)) ⟨_, 0, none⟩ 1 1 [.int .u8 _] rfl rfl (cell_one_new _ _ _) (by simp [Value.oneCell']) (by unfold maxLen; simp; try omega) (by simp; try omega) (by have := hG.bel.size; simp; omega) ?_; intro v1 w1 ho hg _ ha; replace hG := Grow.next (news := [_]) (Grow.alloc hG _) rfl ho hg ha; clear ho hg ha)
      go_wp2_with (at_builtin; refine Hid.out ?_)
      (refine Lib.hid ?_; refine wpList_append_own_at _ rfl _ _ 46 rfl W0.heap.size 5 i0 (.int .u8 0) 1 1 Tryz.underlying46 hi0 hz0 hz1 hz2 rfl (by decide) _ _ _ rfl (Grow.own (Grow.alloc hG _)) ⟨_, 0, none⟩ 1 1 [.int .u8 _] rfl rfl (cell_one_new _ _ _) (by simp [Value.oneCell']) (by unfold maxLen; simp; try omega) (by simp; try omega) (by have := hG.bel.size; simp; omega) ?_; intro v1 w1 ho hg _ ha; replace hG := Grow.next (news := [_]) (Grow.alloc hG _) rfl ho hg ha; clear ho hg ha)
      go_wp2_with fail
      go_loopw [0, 240] (fun dv i wr => ∃ j : Nat, j ≤ k ∧ i = .int .i64 j ∧ Grow D ds W0 dv ((([] ++ [48]) ++ [46]) ++ List.replicate j 48) wr) (fun _ i _ => k - (intOf i).toNat)
      case atStart => exact ⟨0, Nat.zero_le _, rfl, by simpa using hG⟩
      case round =>
        clear hG
        obtain ⟨j, hj, rfl, hG⟩ := hrel
        by_cases hlt : j < k
        · go_wp2_with (at_builtin; refine Hid.out ?_)
          (refine Lib.hid ?_; refine wpList_append_own_at _ rfl _ _ 46 rfl W0.heap.size 5 i0 (.int .u8 0) 1 1 Tryz.underlying46 hi0 hz0 hz1 hz2 rfl (by decide) _ _ _ rfl (Grow.own (Grow.alloc hG _)) ⟨_, 0, none⟩ 1 1 [.int .u8 _] rfl rfl (cell_one_new _ _ _) (by simp [Value.oneCell']) (by unfold maxLen; simp; try omega) (by simp; try omega) (by have := hG.bel.size; simp; omega) ?_; intro v1 w1 ho hg _ ha; replace hG := Grow.next (news := [_]) (Grow.alloc hG _) rfl ho hg ha; clear ho hg ha)
          go_wp2_with fail
          go_roundw
          case rel => exact ⟨j + 1, by omega, by go_num, by rw [List.replicate_succ', ← List.append_assoc]; exact hG⟩
          case measure => simp [intOf]; omega
        · obtain rfl : k = j := by omega
          clear hlt hj
          go_wp2_with fail
          go_loopw [0, 247] (fun dv i wr => ∃ j : Nat, j ≤ nd ∧ i = .int .i64 j ∧ Grow D ds W0 dv (((([] ++ [48]) ++ [46]) ++ List.replicate k 48) ++ ((ds.drop 0).take j).map fun b => (b.toNat : Int)) wr) (fun _ i _ => nd - (intOf i).toNat)
          case atStart => exact ⟨0, Nat.zero_le _, rfl, by simpa using hG⟩
          case round =>
            clear hG
            obtain ⟨j, hj, rfl, hG⟩ := hrel
            by_cases hlt : j < nd
            · have hcell := hG.dig (0 + j) (by omega)
              try simp only [Nat.zero_add] at hcell
              go_wp2_with (at_builtin; refine Hid.out ?_)
              (refine Lib.hid ?_; refine wpList_append_own_at _ rfl _ _ 46 rfl W0.heap.size 5 i0 (.int .u8 0) 1 1 Tryz.underlying46 hi0 hz0 hz1 hz2 rfl (by decide) _ _ _ rfl (Grow.own (Grow.alloc hG _)) ⟨_, 0, none⟩ 1 1 [.int .u8 _] rfl rfl (cell_one_new _ _ _) (by simp [Value.oneCell']) (by unfold maxLen; simp; try omega) (by simp; try omega) (by have := hG.bel.size; simp; omega) ?_; intro v1 w1 ho hg _ ha; replace hG := Grow.next (news := [_]) (Grow.alloc hG _) rfl ho hg ha; clear ho hg ha)
              go_wp2_with fail
              go_roundw
              case rel => exact ⟨j + 1, by omega, by go_num, by rw [take_more ds 0 j (by omega), ← List.append_assoc]; simpa only [Nat.zero_add] using hG⟩
              case measure => simp [intOf]; omega
            · obtain rfl : nd = j := by omega
              clear hlt hj
              go_wp2_with fail
              go_loopw [0, 261] (fun dv i wr => i = .int .i64 0 ∧ Grow D ds W0 dv (((([] ++ [48]) ++ [46]) ++ List.replicate k 48) ++ ((ds.drop 0).take nd).map fun b => (b.toNat : Int)) wr) (fun _ _ _ => 0)
              case atStart => exact ⟨rfl, hG⟩
              case round =>
                clear hG
                obtain ⟨rfl, hG⟩ := hrel
                go_wp2_with fail
                go_ret
                exact ⟨_, rfl, hG⟩
    case ne => exact ⟨fun hz => by have := congrArg List.length hz; simp only [List.length_append, List.length_map, List.length_take, List.length_drop, List.length_replicate, List.length_cons, List.length_nil] at this; omega, by simp only [List.length_append, List.length_map, List.length_take, List.length_drop, List.length_replicate, List.length_cons, List.length_nil]; omega⟩
set_option maxRecDepth 100000 in
set_option maxHeartbeats 6400000 in
theorem fmt_f2p (ds : List UInt8) (nd : Nat) (dp : Int) (h0 : 1 ≤ nd) (h1 : nd ≤ ds.length) (h2 : ds.length ≤ 20) (k r : Nat) (hd : dp = k) (hn : nd = k + r) (hk0 : 1 ≤ k) (hr0 : 1 ≤ r) (hk1 : k ≤ 6) : FmtOk false ds sv32 dp nd nd := by
  obtain ⟨i0, hi0, hz0, hz1, hz2⟩ := info_parts info5
  subst hd hn
  have hx1 : decide ((k : Int) - 1 < -4) = false := by simp; omega
  have hx2 : decide ((k : Int) - 1 ≥ 6) = false := by simp; omega
  have hx4 : decide (0 < k) = true := by simp; omega
  have hx5 : decide ((k : Int) < (k : Int) + r) = true := by simp; omega
  have hx7 : decide (k < k + r) = true := by simp; omega
  have hx6 : decide (0 < r) = true := by simp; omega
  have hm1 : (k : Int) + r - k = r := by omega
  have hm2 : max (r : Int) 0 = r := by omega
  have hm3 : min ((k : Int) + r) (k : Int) = k := by omega
  have hm4 : max (0 : Int) (-(k : Int)) = 0 := by omega
  have hm5 : min (r : Int) 0 = 0 := by omega
  have hm6 : max (0 : Int) (r : Int) = r := by omega
  have hm7 : min (r : Int) (r : Int) = r := by omega
  have hm8 : (r : Int) - r = 0 := by omega
  have hm9 : (k : Int) - k = 0 := by omega
  rw [show ((k + r : Nat) : Int) = (k : Int) + r by omega]
  apply Exists.intro
  case h =>
    refine And.intro ?ne ?hh
    case hh =>
      intro D W0 w v hG
      go_enter Tryz.func132, Tryz.ntmps132
      go_wp2_with fail
      go_loopw [0, 191] (fun dv i wr => ∃ j : Nat, j ≤ k ∧ i = .int .i64 j ∧ Grow D ds W0 dv (([]) ++ ((ds.drop 0).take j).map fun b => (b.toNat : Int)) wr) (fun _ i _ => k - (intOf i).toNat)
      case atStart => exact ⟨0, Nat.zero_le _, rfl, by simpa using hG⟩
      case round =>
        clear hG
        obtain ⟨j, hj, rfl, hG⟩ := hrel
        by_cases hlt : j < k
        · have hcell := hG.dig (0 + j) (by omega)
          try simp only [Nat.zero_add] at hcell
          go_wp2_with (at_builtin; refine Hid.out ?_)
          (refine Lib.hid ?_; refine wpList_append_own_at _ rfl _ _ 46 rfl W0.heap.size 5 i0 (.int .u8 0) 1 1 Tryz.underlying46 hi0 hz0 hz1 hz2 rfl (by decide) _ _ _ rfl (Grow.own (Grow.alloc hG _)) ⟨_, 0, none⟩ 1 1 [.int .u8 _] rfl rfl (cell_one_new _ _ _) (by simp [Value.oneCell']) (by unfold maxLen; simp; try omega) (by simp; try omega) (by have := hG.bel.size; simp; omega) ?_; intro v1 w1 ho hg _ ha; replace hG := Grow.next (news := [_]) (Grow.alloc hG _) rfl ho hg ha; clear ho hg ha)
          go_wp2_with fail
          go_roundw
          case rel => exact ⟨j + 1, by omega, by go_num, by rw [take_more ds 0 j (by omega), ← List.append_assoc]; simpa only [Nat.zero_add] using hG⟩
          case measure => simp [intOf]; omega
        · obtain rfl : k = j := by omega
          clear hlt hj
          go_wp2_with fail
          go_loopw [0, 203] (fun dv i wr => i = .int .i64 0 ∧ Grow D ds W0 dv ((([]) ++ ((ds.drop 0).take k).map fun b => (b.toNat : Int))) wr) (fun _ _ _ => 0)
          case atStart => exact ⟨rfl, hG⟩
          case round =>
            clear hG
            obtain ⟨rfl, hG⟩ := hrel
            go_wp2_with (at_builtin; refine Hid.out ?_)
            (refine Lib.hid ?_; refine wpList_append_own_at _ rfl _ _ 46 rfl W0.heap.size 5 i0 (.int .u8 0) 1 1 Tryz.underlying46 hi0 hz0 hz1 hz2 rfl (by decide) _ _ _ rfl (Grow.own (Grow.alloc hG _)) ⟨_, 0, none⟩ 1 1 [.int .u8 _] rfl rfl (cell_one_new _ _ _) (by simp [Value.oneCell']) (by unfold maxLen; simp; try omega) (by simp; try omega) (by have := hG.bel.size; simp; omega) ?_; intro v1 w1 ho hg _ ha; replace hG := Grow.next (news := [_]) (Grow.alloc hG _) rfl ho hg ha; clear ho hg ha)
            go_wp2_with fail
            go_loopw [0, 240] (fun dv i wr => i = .int .i64 0 ∧ Grow D ds W0 dv (((([]) ++ ((ds.drop 0).take k).map fun b => (b.toNat : Int)) ++ [46])) wr) (fun _ _ _ => 0)
            case atStart => exact ⟨rfl, hG⟩
            case round =>
              clear hG
              obtain ⟨rfl, hG⟩ := hrel
              go_wp2_with fail
              go_loopw [0, 247] (fun dv i wr => ∃ j : Nat, j ≤ r ∧ i = .int .i64 j ∧ Grow D ds W0 dv (((([]) ++ ((ds.drop 0).take k).map fun b => (b.toNat : Int)) ++ [46]) ++ ((ds.drop k).take j).map fun b => (b.toNat : Int)) wr) (fun _ i _ => r - (intOf i).toNat)
              case atStart => exact ⟨0, Nat.zero_le _, rfl, by simpa using hG⟩
              case round =>
                clear hG
                obtain ⟨j, hj, rfl, hG⟩ := hrel
                by_cases hlt : j < r
                · have hcell := hG.dig (k + j) (by omega)
                  try simp only [Nat.zero_add] at hcell
                  go_wp2_with (at_builtin; refine Hid.out ?_)
                  (refine Lib.hid ?_; refine wpList_append_own_at _ rfl _ _ 46 rfl W0.heap.size 5 i0 (.int .u8 0) 1 1 Tryz.underlying46 hi0 hz0 hz1 hz2 rfl (by decide) _ _ _ rfl (Grow.own (Grow.alloc hG _)) ⟨_, 0, none⟩ 1 1 [.int .u8 _] rfl rfl (cell_one_new _ _ _) (by simp [Value.oneCell']) (by unfold maxLen; simp; try omega) (by simp; try omega) (by have := hG.bel.size; simp; omega) ?_; intro v1 w1 ho hg _ ha; replace hG := Grow.next (news := [_]) (Grow.alloc hG _) rfl ho hg ha; clear ho hg ha)
                  go_wp2_with fail
                  go_roundw
                  case rel => exact ⟨j + 1, by omega, by go_num, by rw [take_more ds k j (by omega), ← List.append_assoc]; simpa only [Nat.zero_add] using hG⟩
                  case measure => simp [intOf]; omega
                · obtain rfl : r = j := by omega
                  clear hlt hj
                  go_wp2_with fail
                  go_loopw [0, 261] (fun dv i wr => i = .int .i64 0 ∧ Grow D ds W0 dv (((([]) ++ ((ds.drop 0).take k).map fun b => (b.toNat : Int)) ++ [46]) ++ ((ds.drop k).take r).map fun b => (b.toNat : Int)) wr) (fun _ _ _ => 0)
                  case atStart => exact ⟨rfl, hG⟩
                  case round =>
                    clear hG
                    obtain ⟨rfl, hG⟩ := hrel
                    go_wp2_with fail
                    go_ret
                    exact ⟨_, rfl, hG⟩
    case ne => exact ⟨fun hz => by have := congrArg List.length hz; simp only [List.length_append, List.length_map, List.length_take, List.length_drop, List.length_replicate, List.length_cons, List.length_nil] at this; omega, by simp only [List.length_append, List.length_map, List.length_take, List.length_drop, List.length_replicate, List.length_cons, List.length_nil]; omega⟩
set_option maxRecDepth 100000 in
set_option maxHeartbeats 6400000 in
theorem fmt_f1n (ds : List UInt8) (nd : Nat) (dp : Int) (h0 : 1 ≤ nd) (h1 : nd ≤ ds.length) (h2 : ds.length ≤ 20) (k : Nat) (hd : dp = -(k : Int)) (hk1 : k ≤ 3) : FmtOk true ds sv32 dp nd nd := by
  obtain ⟨i0, hi0, hz0, hz1, hz2⟩ := info_parts info5
  subst hd
  have hx1 : decide (-(k : Int) - 1 < -4) = false := by simp; omega
  have hx2 : decide (-(k : Int) - 1 ≥ 6) = false := by simp; omega
  have hx3 : decide (-(k : Int) > 0) = false := by simp
  have hx4 : decide ((nd : Int) > -(k : Int)) = true := by simp; omega
  have hx5 : decide (0 < nd + k) = true := by simp; omega
  have hmax : max ((nd : Int) - -(k : Int)) 0 = nd + k := by omega
  have hmaxb : max ((nd : Int) + (k : Int)) 0 = nd + k := by omega
  have hm2 : max (0 : Int) (k : Int) = k := by omega
  have hm3 : min ((nd : Int) + (k : Int)) (k : Int) = k := by omega
  have hm4 : -(k : Int) + k = 0 := by omega
  have hm5 : (nd : Int) - 0 = nd := by omega
  have hm6 : max (0 : Int) (nd : Int) = nd := by omega
  have hm7 : min (nd : Int) (nd : Int) = nd := by omega
  have hm8 : (nd : Int) - nd = 0 := by omega
  have hm9 : (nd : Int) + k - k = nd := by omega
  apply Exists.intro
  case h =>
    refine And.intro ?ne ?hh
    case hh =>
      intro D W0 w v hG
      go_enter Tryz.func132, Tryz.ntmps132
      go_wp2_with (at_builtin; refine Hid.out ?_)
      (refine Lib.hid ?_; refine wpList_append_own_at _ rfl _ _ 46 rfl W0.heap.size 5 i0 (.int .u8 0) 1 1 Tryz.underlying46 hi0 hz0 hz1 hz2 rfl (by decide) _ _ _ rfl (Grow.own (Grow.alloc hG _)) ⟨_, 0, none⟩ 1 1 [.int .u8 _] rfl rfl (cell_one_new _ _ _) (by simp [Value.oneCell']) (by unfold maxLen; simp; try omega) (by simp; try omega) (by have := hG.bel.size; simp; omega) ?_; intro v1 w1 ho hg _ ha; replace hG := Grow.next (news := [_]) (Grow.alloc hG _) rfl ho hg ha; clear ho hg ha)
      go_wp2_with (at_builtin; refine Hid.out ?_)
      (refine Lib.hid ?_; refine wpList_append_own_at _ rfl _ _ 46 rfl W0.heap.size 5 i0 (.int .u8 0) 1 1 Tryz.underlying46 hi0 hz0 hz1 hz2 rfl (by decide) _ _ _ rfl (Grow.own (Grow.alloc hG _)) ⟨_, 0, none⟩ 1 1 [.int .u8 _] rfl rfl (cell_one_new _ _ _) (by simp [Value.oneCell']) (by unfold maxLen; simp; try omega) (by simp; try omega) (by have := hG.bel.size; simp; omega) ?_; intro v1 w1 ho hg _ ha; replace hG := Grow.next (news := [_]) (Grow.alloc hG _) rfl ho hg ha; clear ho hg ha)
      go_wp2_with (at_builtin; refine Hid.out ?_)
      (refine Lib.hid ?_; refine wpList_append_own_at _ rfl _ _ 46 rfl W0.heap.size 5 i0 (.int .u8 0) 1 1 Tryz.underlying46 hi0 hz0 hz1 hz2 rfl (by decide) _ _ _ rfl (Grow.own (Grow.alloc hG _)) ⟨_, 0, none⟩ 1 1 [.int .u8 _] rfl rfl (cell_one_new _ _ _) (by simp [Value.oneCell']) (by unfold maxLen; simp; try omega) (by simp; try omega) (by have := hG.bel.size; simp; omega) ?_; intro v1 w1 ho hg _ ha; replace hG := Grow.next (news := [_]) (Grow.alloc hG _) rfl ho hg ha; clear ho hg ha)
      go_wp2_with fail
      go_loopw [0, 240] (fun dv i wr => ∃ j : Nat, j ≤ k ∧ i = .int .i64 j ∧ Grow D ds W0 dv ((([] ++ [45] ++ [48]) ++ [46]) ++ List.replicate j 48) wr) (fun _ i _ => k - (intOf i).toNat)
      case atStart => exact ⟨0, Nat.zero_le _, rfl, by simpa using hG⟩
      case round =>
        clear hG
        obtain ⟨j, hj, rfl, hG⟩ := hrel
        by_cases hlt : j < k
        · go_wp2_with (at_builtin; refine Hid.out ?_)
          (refine Lib.hid ?_; refine wpList_append_own_at _ rfl _ _ 46 rfl W0.heap.size 5 i0 (.int .u8 0) 1 1 Tryz.underlying46 hi0 hz0 hz1 hz2 rfl (by decide) _ _ _ rfl (Grow.own (Grow.alloc hG _)) ⟨_, 0, none⟩ 1 1 [.int .u8 _] rfl rfl (cell_one_new _ _ _) (by simp [Value.oneCell']) (by unfold maxLen; simp; try omega) (by simp; try omega) (by have := hG.bel.size; simp; omega) ?_; intro v1 w1 ho hg _ ha; replace hG := Grow.next (news := [_]) (Grow.alloc hG _) rfl ho hg ha; clear ho hg ha)
          go_wp2_with fail
          go_roundw
          case rel => exact ⟨j + 1, by omega, by go_num, by rw [List.replicate_succ', ← List.append_assoc]; exact hG⟩
          case measure => simp [intOf]; omega
        · obtain rfl : k = j := by omega
          clear hlt hj
          go_wp2_with fail
          go_loopw [0, 247] (fun dv i wr => ∃ j : Nat, j ≤ nd ∧ i = .int .i64 j ∧ Grow D ds W0 dv (((([] ++ [45] ++ [48]) ++ [46]) ++ List.replicate k 48) ++ ((ds.drop 0).take j).map fun b => (b.toNat : Int)) wr) (fun _ i _ => nd - (intOf i).toNat)
          case atStart => exact ⟨0, Nat.zero_le _, rfl, by simpa using hG⟩
          case round =>
            clear hG
            obtain ⟨j, hj, rfl, hG⟩ := hrel
            by_cases hlt : j < nd
            · have hcell := hG.dig (0 + j) (by omega)
              try simp only [Nat.zero_add] at hcell
              go_wp2_with (at_builtin; refine Hid.out ?_)
              (refine Lib.hid ?_; refine wpList_append_own_at _ rfl _ _ 46 rfl W0.heap.size 5 i0 (.int .u8 0) 1 1 Tryz.underlying46 hi0 hz0 hz1 hz2 rfl (by decide) _ _ _ rfl (Grow.own (Grow.alloc hG _)) ⟨_, 0, none⟩ 1 1 [.int .u8 _] rfl rfl (cell_one_new _ _ _) (by simp [Value.oneCell']) (by unfold maxLen; simp; try omega) (by simp; try omega) (by have := hG.bel.size; simp; omega) ?_; intro v1 w1 ho hg _ ha; replace hG := Grow.next (news := [_]) (Grow.alloc hG _) rfl ho hg ha; clear ho hg ha)
              go_wp2_with fail
              go_roundw
              case rel => exact ⟨j + 1, by omega, by go_num, by rw [take_more ds 0 j (by omega), ← List.append_assoc]; simpa only [Nat.zero_add] using hG⟩
              case measure => simp [intOf]; omega
            · obtain rfl : nd = j := by omega
              clear hlt hj
              go_wp2_with fail
              go_loopw [0, 261] (fun dv i wr => i = .int .i64 0 ∧ Grow D ds W0 dv (((([] ++ [45] ++ [48]) ++ [46]) ++ List.replicate k 48) ++ ((ds.drop 0).take nd).map fun b => (b.toNat : Int)) wr) (fun _ _ _ => 0)
              case atStart => exact ⟨rfl, hG⟩
              case round =>
                clear hG
                obtain ⟨rfl, hG⟩ := hrel
                go_wp2_with fail
                go_ret
                exact ⟨_, rfl, hG⟩
    case ne => exact ⟨fun hz => by have := congrArg List.length hz; simp only [List.length_append, List.length_map, List.length_take, List.length_drop, List.length_replicate, List.length_cons, List.length_nil] at this; omega, by simp only [List.length_append, List.length_map, List.length_take, List.length_drop, List.length_replicate, List.length_cons, List.length_nil]; omega⟩
set_option maxRecDepth 100000 in
set_option maxHeartbeats 6400000 in
theorem fmt_f2n (ds : List UInt8) (nd : Nat) (dp : Int) (h0 : 1 ≤ nd) (h1 : nd ≤ ds.length) (h2 : ds.length ≤ 20) (k r : Nat) (hd : dp = k) (hn : nd = k + r) (hk0 : 1 ≤ k) (hr0 : 1 ≤ r) (hk1 : k ≤ 6) : FmtOk true ds sv32 dp nd nd := by
  obtain ⟨i0, hi0, hz0, hz1, hz2⟩ := info_parts info5
  subst hd hn
  have hx1 : decide ((k : Int) - 1 < -4) = false := by simp; omega
  have hx2 : decide ((k : Int) - 1 ≥ 6) = false := by simp; omega
  have hx4 : decide (0 < k) = true := by simp; omega
  have hx5 : decide ((k : Int) < (k : Int) + r) = true := by simp; omega
  have hx7 : decide (k < k + r) = true := by simp; omega
  have hx6 : decide (0 < r) = true := by simp; omega
  have hm1 : (k : Int) + r - k = r := by omega
  have hm2 : max (r : Int) 0 = r := by omega
  have hm3 : min ((k : Int) + r) (k : Int) = k := by omega
  have hm4 : max (0 : Int) (-(k : Int)) = 0 := by omega
  have hm5 : min (r : Int) 0 = 0 := by omega
  have hm6 : max (0 : Int) (r : Int) = r := by omega
  have hm7 : min (r : Int) (r : Int) = r := by omega
  have hm8 : (r : Int) - r = 0 := by omega
  have hm9 : (k : Int) - k = 0 := by omega
  rw [show ((k + r : Nat) : Int) = (k : Int) + r by omega]
  apply Exists.intro
  case h =>
    refine And.intro ?ne ?hh
    case hh =>
      intro D W0 w v hG
      go_enter Tryz.func132, Tryz.ntmps132
      go_wp2_with (at_builtin; refine Hid.out ?_)
      (refine Lib.hid ?_; refine wpList_append_own_at _ rfl _ _ 46 rfl W0.heap.size 5 i0 (.int .u8 0) 1 1 Tryz.underlying46 hi0 hz0 hz1 hz2 rfl (by decide) _ _ _ rfl (Grow.own (Grow.alloc hG _)) ⟨_, 0, none⟩ 1 1 [.int .u8 _] rfl rfl (cell_one_new _ _ _) (by simp [Value.oneCell']) (by unfold maxLen; simp; try omega) (by simp; try omega) (by have := hG.bel.size; simp; omega) ?_; intro v1 w1 ho hg _ ha; replace hG := Grow.next (news := [_]) (Grow.alloc hG _) rfl ho hg ha; clear ho hg ha)
      go_wp2_with fail
      go_loopw [0, 191] (fun dv i wr => ∃ j : Nat, j ≤ k ∧ i = .int .i64 j ∧ Grow D ds W0 dv (([] ++ [45]) ++ ((ds.drop 0).take j).map fun b => (b.toNat : Int)) wr) (fun _ i _ => k - (intOf i).toNat)
      case atStart => exact ⟨0, Nat.zero_le _, rfl, by simpa using hG⟩
      case round =>
        clear hG
        obtain ⟨j, hj, rfl, hG⟩ := hrel
        by_cases hlt : j < k
        · have hcell := hG.dig (0 + j) (by omega)
          try simp only [Nat.zero_add] at hcell
          go_wp2_with (at_builtin; refine Hid.out ?_)
          (refine Lib.hid ?_; refine wpList_append_own_at _ rfl _ _ 46 rfl W0.heap.size 5 i0 (.int .u8 0) 1 1 Tryz.underlying46 hi0 hz0 hz1 hz2 rfl (by decide) _ _ _ rfl (Grow.own (Grow.alloc hG _)) ⟨_, 0, none⟩ 1 1 [.int .u8 _] rfl rfl (cell_one_new _ _ _) (by simp [Value.oneCell']) (by unfold maxLen; simp; try omega) (by simp; try omega) (by have := hG.bel.size; simp; omega) ?_; intro v1 w1 ho hg _ ha; replace hG := Grow.next (news := [_]) (Grow.alloc hG _) rfl ho hg ha; clear ho hg ha)
          go_wp2_with fail
          go_roundw
          case rel => exact ⟨j + 1, by omega, by go_num, by rw [take_more ds 0 j (by omega), ← List.append_assoc]; simpa only [Nat.zero_add] using hG⟩
          case measure => simp [intOf]; omega
        · obtain rfl : k = j := by omega
          clear hlt hj
          go_wp2_with fail
          go_loopw [0, 203] (fun dv i wr => i = .int .i64 0 ∧ Grow D ds W0 dv ((([] ++ [45]) ++ ((ds.drop 0).take k).map fun b => (b.toNat : Int))) wr) (fun _ _ _ => 0)
          case atStart => exact ⟨rfl, hG⟩
          case round =>
            clear hG
            obtain ⟨rfl, hG⟩ := hrel
            go_wp2_with (at_builtin; refine Hid.out ?_)
            (refine Lib.hid ?_; refine wpList_append_own_at _ rfl _ _ 46 rfl W0.heap.size 5 i0 (.int .u8 0) 1 1 Tryz.underlying46 hi0 hz0 hz1 hz2 rfl (by decide) _ _ _ rfl (Grow.own (Grow.alloc hG _)) ⟨_, 0, none⟩ 1 1 [.int .u8 _] rfl rfl (cell_one_new _ _ _) (by simp [Value.oneCell']) (by unfold maxLen; simp; try omega) (by simp; try omega) (by have := hG.bel.size; simp; omega) ?_; intro v1 w1 ho hg _ ha; replace hG := Grow.next (news := [_]) (Grow.alloc hG _) rfl ho hg ha; clear ho hg ha)
            go_wp2_with fail
            go_loopw [0, 240] (fun dv i wr => i = .int .i64 0 ∧ Grow D ds W0 dv (((([] ++ [45]) ++ ((ds.drop 0).take k).map fun b => (b.toNat : Int)) ++ [46])) wr) (fun _ _ _ => 0)
            case atStart => exact ⟨rfl, hG⟩
            case round =>
              clear hG
              obtain ⟨rfl, hG⟩ := hrel
              go_wp2_with fail
              go_loopw [0, 247] (fun dv i wr => ∃ j : Nat, j ≤ r ∧ i = .int .i64 j ∧ Grow D ds W0 dv (((([] ++ [45]) ++ ((ds.drop 0).take k).map fun b => (b.toNat : Int)) ++ [46]) ++ ((ds.drop k).take j).map fun b => (b.toNat : Int)) wr) (fun _ i _ => r - (intOf i).toNat)
              case atStart => exact ⟨0, Nat.zero_le _, rfl, by simpa using hG⟩
              case round =>
                clear hG
                obtain ⟨j, hj, rfl, hG⟩ := hrel
                by_cases hlt : j < r
                · have hcell := hG.dig (k + j) (by omega)
                  try simp only [Nat.zero_add] at hcell
                  go_wp2_with (at_builtin; refine Hid.out ?_)
                  (refine Lib.hid ?_; refine wpList_append_own_at _ rfl _ _ 46 rfl W0.heap.size 5 i0 (.int .u8 0) 1 1 Tryz.underlying46 hi0 hz0 hz1 hz2 rfl (by decide) _ _ _ rfl (Grow.own (Grow.alloc hG _)) ⟨_, 0, none⟩ 1 1 [.int .u8 _] rfl rfl (cell_one_new _ _ _) (by simp [Value.oneCell']) (by unfold maxLen; simp; try omega) (by simp; try omega) (by have := hG.bel.size; simp; omega) ?_; intro v1 w1 ho hg _ ha; replace hG := Grow.next (news := [_]) (Grow.alloc hG _) rfl ho hg ha; clear ho hg ha)
                  go_wp2_with fail
                  go_roundw
                  case rel => exact ⟨j + 1, by omega, by go_num, by rw [take_more ds k j (by omega), ← List.append_assoc]; simpa only [Nat.zero_add] using hG⟩
                  case measure => simp [intOf]; omega
                · obtain rfl : r = j := by omega
                  clear hlt hj
                  go_wp2_with fail
                  go_loopw [0, 261] (fun dv i wr => i = .int .i64 0 ∧ Grow D ds W0 dv (((([] ++ [45]) ++ ((ds.drop 0).take k).map fun b => (b.toNat : Int)) ++ [46]) ++ ((ds.drop k).take r).map fun b => (b.toNat : Int)) wr) (fun _ _ _ => 0)
                  case atStart => exact ⟨rfl, hG⟩
                  case round =>
                    clear hG
                    obtain ⟨rfl, hG⟩ := hrel
                    go_wp2_with fail
                    go_ret
                    exact ⟨_, rfl, hG⟩
    case ne => exact ⟨fun hz => by have := congrArg List.length hz; simp only [List.length_append, List.length_map, List.length_take, List.length_drop, List.length_replicate, List.length_cons, List.length_nil] at this; omega, by simp only [List.length_append, List.length_map, List.length_take, List.length_drop, List.length_replicate, List.length_cons, List.length_nil]; omega⟩
end Go.Proofs.YtjbpphomlmlmaaaGreatDoor
