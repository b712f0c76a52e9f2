/- The value that the door makes: lists. -/
import Derived.Test.YtjbpphomlmlmaaaGreatDoorQE7
namespace Go.Proofs.YtjbpphomlmlmaaaGreatDoor
open Go.RowKit
set_option linter.unusedVariables false
set_option linter.unusedSimpArgs false
set_option maxRecDepth 100000 in
set_option maxHeartbeats 6400000 in
theorem di_list (n : Int) (e : Ty) (hp : e.plain) (hok : e.ok 32 32 32) (h255 : e.sig.length ≤ 255) (kids : List V) (hlen : kids.length ≤ 1000) (hkk : ∀ c ∈ kids, c.k ≠ 123) (ih : ∀ c ∈ kids, DiOk c) : DiOk (.mk 97 n (bs e.sig) kids) := by
  obtain ⟨i0, hi0, hz0, hz1, hz2⟩ := info_parts info20
  intro S x w hr
  simp only [Rep] at hr
  obtain ⟨A, cap, rfl, h1, h2, _, _, _, hkids⟩ := hr
  obtain ⟨ch, q, hcq, _, _, h123⟩ := Ty.sig_head hp
  have hch : ∀ h : 0 < e.sig.length, ((e.sig[0]'h).toNat == (123 : Int)) = false := by
    intro h
    have : e.sig[0]'h = ch := by simp [hcq]
    rw [this]
    simp
    exact fun hc => h123 (u8_of_int (n := 123) hc)
  have hpos : 0 < e.sig.length := by rw [hcq]; simp
  have hnn : e.sig.isEmpty = false := by rw [hcq]; rfl
  clear hcq
  have hdt := fun w => dt_calls (e.sig.length + 1) e hp (by omega) h255 hok w
  go_enter Tryz.func30, Tryz.ntmps30
  go_wp2_with fail
  refine (hdt _).mono ?_
  rintro _ wd ⟨rfl, hbd⟩
  have hX := (hbd.block w.heap.size (by simp)).trans (heap_alloc_new w (.cells #[.int .u8 97, .int .u64 n, .string (bs e.sig), .slice A kids.length cap] 44))
  have hXl : w.heap.size < wd.heap.size := (Array.getElem?_eq_some_iff.1 hX).1
  have hY := (Below.heap_alloc wd (.cells #[.string (bs (zty e)), .slice none 0 0] 91) _ hXl).trans hX
  have u3 := (kid_cells hY).2.2.2
  have hB0 : Bld (wd.heap.size + 1) wd.heap.size 91 (fun v => #[.string (bs (zty e)), v]) w (wd.alloc (.cells #[.string (bs (zty e)), .slice none 0 0] 91)) [] (.slice none 0 0) [] := by
    refine ⟨World.ownsRow_nil _ _ _ _, heap_alloc_new wd _, rfl, ?_, by omega, by omega, by simp⟩
    exact (((Below.refl _ w).alloc (Nat.le_refl _) _).trans (hbd.mono (by simp))).alloc (by omega) _
  go_wp2_with fail
  go_loopw [166] (fun i wr => ∃ (j : Nat) (v : Value) (ys : List Value), j ≤ kids.length ∧ i = .int .i64 j ∧ Bld (wd.heap.size + 1) wd.heap.size 91 (fun v => #[.string (bs (zty e)), v]) w wr (kids.take j) v ys) (fun i _ => kids.length - (intOf i).toNat)
  case atStart => exact ⟨0, _, _, Nat.zero_le _, rfl, by simpa using hB0⟩
  case round =>
    clear hB0
    obtain ⟨j, v, ys, hj, rfl, hB⟩ := hrel
    have hyl := hB.ars.length
    have hbsz := hB.sz
    by_cases hlt : j < kids.length
    · have hltk : decide (j < kids.length) = true := by simp; omega
      rw [List.length_take, Nat.min_eq_left hj] at hyl
      have hyl2 : ys.length ≤ 1000 := by omega
      have HYL := Lib.hid hyl
      clear hyl
      obtain ⟨b, o, A', cap', rfl, _, k0, k1, k2, k3, hv⟩ := (hkids.keep fun b hlt _ => hB.bel.block b hlt).kid j hlt
      have hcin : kids[j] ∈ kids := List.getElem_mem hlt
      have hih := ih _ hcin
      have hkc := hkk _ hcin
      generalize hc : kids[j] = c at *
      have hb1 : Below wr.heap.size wr (wr.alloc (.cells #[.int .u8 c.k, .int .u64 c.n, .string c.s, .slice A' c.kids.length cap'] 44)).drew := ((Below.refl _ _).alloc (Nat.le_refl _) _).drew
      have hcall := hih _ _ _ (hv.below hb1)
      have HC := Lib.hid hc
      have hBlt : wd.heap.size < wr.heap.size := (Array.getElem?_eq_some_iff.1 hB.var).1
      have hvB : v.ownBlock ≠ some (wd.heap.size) := fun hc => by have := own_base' hB.own hc; omega
      have q1 : (wr.alloc (.cells #[.int .u8 c.k, .int .u64 c.n, .string c.s, .slice A' c.kids.length cap'] 44)).drew.heap[wr.heap.size]? = some (.cells #[.int .u8 c.k, .int .u64 c.n, .string c.s, .slice A' c.kids.length cap'] 44 (0, 0)) := heap_alloc_new wr _
      have v1 := (hb1.block (wd.heap.size) hBlt).trans hB.var
      have r1 : (wr.alloc (.cells #[.int .u8 c.k, .int .u64 c.n, .string c.s, .slice A' c.kids.length cap'] 44)).drew.cell? ⟨wd.heap.size, 1, none⟩ = some v := by rw [cell_of_row _ _ _ _ _ _ v1]; rfl
      clear hc hcin hih
      go_wp2_with fail
      refine wp_region_held_drew (S := fun w' => w'.cell? ⟨wr.heap.size, 0, none⟩ = some (.int .u8 c.k) ∧ w'.cell? ⟨wr.heap.size, 1, none⟩ = some (.int .u64 c.n) ∧ w'.cell? ⟨wr.heap.size, 2, none⟩ = some (.string c.s) ∧ w'.cell? ⟨wr.heap.size, 3, none⟩ = some (.slice A' c.kids.length cap')) (by kernel_rfl) (kid_cells q1) (fun hHeld => ?_)
      refine wpAnyH_take (i := 0) (oi := _) (v := ?_) rfl (by kernel_rfl) (by kernel_rfl) (by kernel_rfl) (fun _ _ _ h => h) (Or.inl ⟨by rfl, ?_⟩) (by assumption) ?_
      rotate_left
      · intro w hSw
        (try dsimp only at hSw)
        go_simp
        all_goals (with_reducible rfl)
      try simp only [Act.put, List.setIfInBounds_toArray, List.set_cons_zero, List.set_cons_succ]
      refine wpAnyH_take (i := 1) (oi := _) (v := ?_) rfl (by kernel_rfl) (by kernel_rfl) (by kernel_rfl) (fun _ _ _ h => h) (Or.inl ⟨by rfl, ?_⟩) (by assumption) ?_
      rotate_left
      · intro w hSw
        (try dsimp only at hSw)
        go_simp
        all_goals (with_reducible rfl)
      try simp only [Act.put, List.setIfInBounds_toArray, List.set_cons_zero, List.set_cons_succ]
      refine wpAnyH_take (i := 2) (oi := _) (v := ?_) rfl (by kernel_rfl) (by kernel_rfl) (by kernel_rfl) (fun _ _ _ h => h) (Or.inl ⟨by rfl, ?_⟩) (by assumption) ?_
      rotate_left
      · intro w hSw
        (try dsimp only at hSw)
        go_simp
        all_goals (with_reducible rfl)
      try simp only [Act.put, List.setIfInBounds_toArray, List.set_cons_zero, List.set_cons_succ]
      refine wpAnyH_take (i := 3) (oi := _) (v := ?_) rfl (by kernel_rfl) (by kernel_rfl) (by kernel_rfl) (fun _ _ _ h => h) (Or.inl ⟨by rfl, ?_⟩) (by assumption) ?_
      rotate_left
      · intro w hSw
        (try dsimp only at hSw)
        go_simp
        all_goals (with_reducible rfl)
      try simp only [Act.put, List.setIfInBounds_toArray, List.set_cons_zero, List.set_cons_succ]
      refine wpAnyH_take (i := 5) (oi := _) (v := ?_) rfl (by kernel_rfl) (by kernel_rfl) (by kernel_rfl) (fun _ _ _ h => h) (Or.inl ⟨by rfl, ?_⟩) (by assumption) ?_
      rotate_left
      · intro w hSw
        (try dsimp only at hSw)
        go_simp
        all_goals (with_reducible rfl)
      try simp only [Act.put, List.setIfInBounds_toArray, List.set_cons_zero, List.set_cons_succ]
      refine wpAnyH_ready (rs := [4, 6]) (by kernel_rfl) (by simp) (AllReadyH.cons (o := _) rfl (fun K hK => ?_) (AllReadyH.cons (o := _) rfl (fun K hK => ?_) AllReadyH.nil))
      · go_simp
        refine hK.out _ _ (kid_cells q1) (fun hHeld => ?_)
        clear hK K
        try simp only [Act.put, List.setIfInBounds_toArray, List.set_cons_zero, List.set_cons_succ]
        refine wpAnyH_ready (rs := [6]) (by kernel_rfl) (by simp) (AllReadyH.cons (o := _) rfl (fun K hK => ?_) AllReadyH.nil)
        go_simp
        refine hcall.mono ?_
        rintro _ w2 ⟨y, rfl, hA, hb2⟩
        obtain ⟨u, yv, rfl⟩ := hA.iface hkc
        have q2 := (hb2.block wr.heap.size (by simp)).trans q1
        have v2 := (hb2.block (wd.heap.size) (by have := hBlt; have := hb1.size; omega)).trans v1
        have v3 := (Below.heap_alloc w2 (.cells #[.iface u yv] 20) _ (Array.getElem?_eq_some_iff.1 v2).1).trans v2
        have q3 := (Below.heap_alloc w2 (.cells #[.iface u yv] 20) _ (Array.getElem?_eq_some_iff.1 q2).1).trans q2
        have r2 : w2.cell? ⟨wd.heap.size, 1, none⟩ = some v := by rw [cell_of_row _ _ _ _ _ _ v2]; rfl
        have r3 : (w2.alloc (.cells #[.iface u yv] 20)).cell? ⟨wd.heap.size, 1, none⟩ = some v := by rw [cell_of_row _ _ _ _ _ _ v3]; rfl
        have hown3 : (w2.alloc (.cells #[.iface u yv] 20)).ownsRow (wd.heap.size + 1) 20 1 v ys.length ys := own_keep hB.own (fun b hb => by rw [Below.heap_alloc w2 _ b (by have := hb1.size; have := hb2.size; omega), hb2.block b (by have := hb1.size; omega), hb1.block b hb])
        have hsz2 : wd.heap.size + 1 ≤ w2.heap.size := by have := hb1.size; have := hb2.size; have := hB.sz; omega
        refine hK.out _ _ (kid_cells q2) (fun hHeld => ?_)
        clear hK K
        try simp only [Act.put, List.setIfInBounds_toArray, List.set_cons_zero, List.set_cons_succ]
        refine wpAnyH_ready (rs := [7]) (by kernel_rfl) (by simp) (AllReadyH.cons (o := _) rfl (fun K hK => ?_) AllReadyH.nil)
        go_simp
        refine hK.out _ _ (kid_cells q3) (fun hHeld => ?_)
        clear hK K
        try simp only [Act.put, List.setIfInBounds_toArray, List.set_cons_zero, List.set_cons_succ]
        refine wpAnyH_ready (rs := [8]) (by kernel_rfl) (by simp) (AllReadyH.cons (o := _) rfl (fun K hK => ?_) AllReadyH.nil)
        refine step_append_lies _ rfl _ _ 78 rfl (wd.heap.size + 1) 20 i0 .nilIface 1 16 Tryz.underlying78 hi0 hz0 hz1 hz2 rfl (by decide) v ys.length ys rfl hown3 ⟨_, 0, none⟩ 1 1 [.iface u yv] rfl rfl (cell_one_new _ _ _) (by simp [Value.oneCell']) (by decide) (by unfold maxLen; omega) (by omega) (by simp; omega) _ rfl ?_
        intro g cap4 w4 hown4 hgrow hat hlt4
        have c4 := hB.mid hb1 hb2 hgrow (wd.heap.size) _ (by have := hBlt; have := hb1.size; omega) hvB v1
        have e4 := hB.mid hb1 hb2 hgrow wr.heap.size _ (by simp) (fun hc => Nat.lt_irrefl _ (own_lt hB.own hc)) q1
        have s4 : w4.cell? ⟨wd.heap.size, 1, none⟩ = some v := by rw [cell_of_row _ _ _ _ _ _ c4]; rfl
        have z4 := frozen_of_row w4 (wd.heap.size) 1 _ _ c4
        refine hK.out _ _ (kid_cells e4) (fun hHeld => ?_)
        clear hK K
        try simp only [Act.put, List.setIfInBounds_toArray, List.set_cons_zero, List.set_cons_succ]
        refine wpAnyH_take (i := 9) (oi := _) (v := ?_) rfl (by kernel_rfl) (by kernel_rfl) (by kernel_rfl) (fun _ _ _ h => h) (Or.inl ⟨by rfl, ?_⟩) (by assumption) ?_
        rotate_left
        · intro w hSw
          (try dsimp only at hSw)
          go_simp
          all_goals (with_reducible rfl)
        try simp only [Act.put, List.setIfInBounds_toArray, List.set_cons_zero, List.set_cons_succ]
        refine wpAnyH_take (i := 10) (oi := _) (v := ?_) rfl (by kernel_rfl) (by kernel_rfl) (by kernel_rfl) (fun _ _ _ h => h) (Or.inl ⟨by rfl, ?_⟩) (by assumption) ?_
        rotate_left
        · intro w hSw
          (try dsimp only at hSw)
          go_simp
          all_goals (with_reducible rfl)
        try simp only [Act.put, List.setIfInBounds_toArray, List.set_cons_zero, List.set_cons_succ]
        refine wpAnyH_ready (rs := [11]) (by kernel_rfl) (by simp) (AllReadyH.cons (o := _) rfl (fun K hK => ?_) AllReadyH.nil)
        go_simp
        have e5 := (Below.heap_setCell w4 ⟨wd.heap.size, 1, none⟩ (.slice (some ⟨g, 0, none⟩) (ys.length + 1) cap4) wr.heap.size (show wr.heap.size ≠ wd.heap.size by have := hBlt; omega)).trans e4
        refine hK.out _ _ (kid_cells e5) (fun hHeld => ?_)
        clear hK K
        try simp only [Act.put, List.setIfInBounds_toArray, List.set_cons_zero, List.set_cons_succ]
        refine wpAnyH_done (by kernel_rfl) ?_ _
        have hN := hB.next (o := 1) hb1 hA hb2 hown4 hgrow (by rcases hat with hat | hat; exact .inl hat.symm; exact .inr (by simp [Value.ownBlock, hat])) rfl
        go_wp2_with fail
        go_roundw
        case rel => exact ⟨j + 1, _, _, by omega, by go_num, by rw [List.take_succ_eq_append_getElem hlt, HC.out]; exact hN⟩
        case measure => simp [intOf]; omega
      · go_simp
        refine hcall.mono ?_
        rintro _ w2 ⟨y, rfl, hA, hb2⟩
        obtain ⟨u, yv, rfl⟩ := hA.iface hkc
        have q2 := (hb2.block wr.heap.size (by simp)).trans q1
        have v2 := (hb2.block (wd.heap.size) (by have := hBlt; have := hb1.size; omega)).trans v1
        have v3 := (Below.heap_alloc w2 (.cells #[.iface u yv] 20) _ (Array.getElem?_eq_some_iff.1 v2).1).trans v2
        have q3 := (Below.heap_alloc w2 (.cells #[.iface u yv] 20) _ (Array.getElem?_eq_some_iff.1 q2).1).trans q2
        have r2 : w2.cell? ⟨wd.heap.size, 1, none⟩ = some v := by rw [cell_of_row _ _ _ _ _ _ v2]; rfl
        have r3 : (w2.alloc (.cells #[.iface u yv] 20)).cell? ⟨wd.heap.size, 1, none⟩ = some v := by rw [cell_of_row _ _ _ _ _ _ v3]; rfl
        have hown3 : (w2.alloc (.cells #[.iface u yv] 20)).ownsRow (wd.heap.size + 1) 20 1 v ys.length ys := own_keep hB.own (fun b hb => by rw [Below.heap_alloc w2 _ b (by have := hb1.size; have := hb2.size; omega), hb2.block b (by have := hb1.size; omega), hb1.block b hb])
        have hsz2 : wd.heap.size + 1 ≤ w2.heap.size := by have := hb1.size; have := hb2.size; have := hB.sz; omega
        refine hK.out _ _ (kid_cells q2) (fun hHeld => ?_)
        clear hK K
        try simp only [Act.put, List.setIfInBounds_toArray, List.set_cons_zero, List.set_cons_succ]
        refine wpAnyH_ready (rs := [4, 7]) (by kernel_rfl) (by simp) (AllReadyH.cons (o := _) rfl (fun K hK => ?_) (AllReadyH.cons (o := _) rfl (fun K hK => ?_) AllReadyH.nil))
        · go_simp
          refine hK.out _ _ (kid_cells q2) (fun hHeld => ?_)
          clear hK K
          try simp only [Act.put, List.setIfInBounds_toArray, List.set_cons_zero, List.set_cons_succ]
          refine wpAnyH_ready (rs := [7]) (by kernel_rfl) (by simp) (AllReadyH.cons (o := _) rfl (fun K hK => ?_) AllReadyH.nil)
          go_simp
          refine hK.out _ _ (kid_cells q3) (fun hHeld => ?_)
          clear hK K
          try simp only [Act.put, List.setIfInBounds_toArray, List.set_cons_zero, List.set_cons_succ]
          refine wpAnyH_ready (rs := [8]) (by kernel_rfl) (by simp) (AllReadyH.cons (o := _) rfl (fun K hK => ?_) AllReadyH.nil)
          refine step_append_lies _ rfl _ _ 78 rfl (wd.heap.size + 1) 20 i0 .nilIface 1 16 Tryz.underlying78 hi0 hz0 hz1 hz2 rfl (by decide) v ys.length ys rfl hown3 ⟨_, 0, none⟩ 1 1 [.iface u yv] rfl rfl (cell_one_new _ _ _) (by simp [Value.oneCell']) (by decide) (by unfold maxLen; omega) (by omega) (by simp; omega) _ rfl ?_
          intro g cap4 w4 hown4 hgrow hat hlt4
          have c4 := hB.mid hb1 hb2 hgrow (wd.heap.size) _ (by have := hBlt; have := hb1.size; omega) hvB v1
          have e4 := hB.mid hb1 hb2 hgrow wr.heap.size _ (by simp) (fun hc => Nat.lt_irrefl _ (own_lt hB.own hc)) q1
          have s4 : w4.cell? ⟨wd.heap.size, 1, none⟩ = some v := by rw [cell_of_row _ _ _ _ _ _ c4]; rfl
          have z4 := frozen_of_row w4 (wd.heap.size) 1 _ _ c4
          refine hK.out _ _ (kid_cells e4) (fun hHeld => ?_)
          clear hK K
          try simp only [Act.put, List.setIfInBounds_toArray, List.set_cons_zero, List.set_cons_succ]
          refine wpAnyH_take (i := 9) (oi := _) (v := ?_) rfl (by kernel_rfl) (by kernel_rfl) (by kernel_rfl) (fun _ _ _ h => h) (Or.inl ⟨by rfl, ?_⟩) (by assumption) ?_
          rotate_left
          · intro w hSw
            (try dsimp only at hSw)
            go_simp
            all_goals (with_reducible rfl)
          try simp only [Act.put, List.setIfInBounds_toArray, List.set_cons_zero, List.set_cons_succ]
          refine wpAnyH_take (i := 10) (oi := _) (v := ?_) rfl (by kernel_rfl) (by kernel_rfl) (by kernel_rfl) (fun _ _ _ h => h) (Or.inl ⟨by rfl, ?_⟩) (by assumption) ?_
          rotate_left
          · intro w hSw
            (try dsimp only at hSw)
            go_simp
            all_goals (with_reducible rfl)
          try simp only [Act.put, List.setIfInBounds_toArray, List.set_cons_zero, List.set_cons_succ]
          refine wpAnyH_ready (rs := [11]) (by kernel_rfl) (by simp) (AllReadyH.cons (o := _) rfl (fun K hK => ?_) AllReadyH.nil)
          go_simp
          have e5 := (Below.heap_setCell w4 ⟨wd.heap.size, 1, none⟩ (.slice (some ⟨g, 0, none⟩) (ys.length + 1) cap4) wr.heap.size (show wr.heap.size ≠ wd.heap.size by have := hBlt; omega)).trans e4
          refine hK.out _ _ (kid_cells e5) (fun hHeld => ?_)
          clear hK K
          try simp only [Act.put, List.setIfInBounds_toArray, List.set_cons_zero, List.set_cons_succ]
          refine wpAnyH_done (by kernel_rfl) ?_ _
          have hN := hB.next (o := 1) hb1 hA hb2 hown4 hgrow (by rcases hat with hat | hat; exact .inl hat.symm; exact .inr (by simp [Value.ownBlock, hat])) rfl
          go_wp2_with fail
          go_roundw
          case rel => exact ⟨j + 1, _, _, by omega, by go_num, by rw [List.take_succ_eq_append_getElem hlt, HC.out]; exact hN⟩
          case measure => simp [intOf]; omega
        · go_simp
          refine hK.out _ _ (kid_cells q3) (fun hHeld => ?_)
          clear hK K
          try simp only [Act.put, List.setIfInBounds_toArray, List.set_cons_zero, List.set_cons_succ]
          refine wpAnyH_ready (rs := [4]) (by kernel_rfl) (by simp) (AllReadyH.cons (o := _) rfl (fun K hK => ?_) AllReadyH.nil)
          go_simp
          refine hK.out _ _ (kid_cells q3) (fun hHeld => ?_)
          clear hK K
          try simp only [Act.put, List.setIfInBounds_toArray, List.set_cons_zero, List.set_cons_succ]
          refine wpAnyH_ready (rs := [8]) (by kernel_rfl) (by simp) (AllReadyH.cons (o := _) rfl (fun K hK => ?_) AllReadyH.nil)
          refine step_append_lies _ rfl _ _ 78 rfl (wd.heap.size + 1) 20 i0 .nilIface 1 16 Tryz.underlying78 hi0 hz0 hz1 hz2 rfl (by decide) v ys.length ys rfl hown3 ⟨_, 0, none⟩ 1 1 [.iface u yv] rfl rfl (cell_one_new _ _ _) (by simp [Value.oneCell']) (by decide) (by unfold maxLen; omega) (by omega) (by simp; omega) _ rfl ?_
          intro g cap4 w4 hown4 hgrow hat hlt4
          have c4 := hB.mid hb1 hb2 hgrow (wd.heap.size) _ (by have := hBlt; have := hb1.size; omega) hvB v1
          have e4 := hB.mid hb1 hb2 hgrow wr.heap.size _ (by simp) (fun hc => Nat.lt_irrefl _ (own_lt hB.own hc)) q1
          have s4 : w4.cell? ⟨wd.heap.size, 1, none⟩ = some v := by rw [cell_of_row _ _ _ _ _ _ c4]; rfl
          have z4 := frozen_of_row w4 (wd.heap.size) 1 _ _ c4
          refine hK.out _ _ (kid_cells e4) (fun hHeld => ?_)
          clear hK K
          try simp only [Act.put, List.setIfInBounds_toArray, List.set_cons_zero, List.set_cons_succ]
          refine wpAnyH_take (i := 9) (oi := _) (v := ?_) rfl (by kernel_rfl) (by kernel_rfl) (by kernel_rfl) (fun _ _ _ h => h) (Or.inl ⟨by rfl, ?_⟩) (by assumption) ?_
          rotate_left
          · intro w hSw
            (try dsimp only at hSw)
            go_simp
            all_goals (with_reducible rfl)
          try simp only [Act.put, List.setIfInBounds_toArray, List.set_cons_zero, List.set_cons_succ]
          refine wpAnyH_take (i := 10) (oi := _) (v := ?_) rfl (by kernel_rfl) (by kernel_rfl) (by kernel_rfl) (fun _ _ _ h => h) (Or.inl ⟨by rfl, ?_⟩) (by assumption) ?_
          rotate_left
          · intro w hSw
            (try dsimp only at hSw)
            go_simp
            all_goals (with_reducible rfl)
          try simp only [Act.put, List.setIfInBounds_toArray, List.set_cons_zero, List.set_cons_succ]
          refine wpAnyH_ready (rs := [11]) (by kernel_rfl) (by simp) (AllReadyH.cons (o := _) rfl (fun K hK => ?_) AllReadyH.nil)
          go_simp
          have e5 := (Below.heap_setCell w4 ⟨wd.heap.size, 1, none⟩ (.slice (some ⟨g, 0, none⟩) (ys.length + 1) cap4) wr.heap.size (show wr.heap.size ≠ wd.heap.size by have := hBlt; omega)).trans e4
          refine hK.out _ _ (kid_cells e5) (fun hHeld => ?_)
          clear hK K
          try simp only [Act.put, List.setIfInBounds_toArray, List.set_cons_zero, List.set_cons_succ]
          refine wpAnyH_done (by kernel_rfl) ?_ _
          have hN := hB.next (o := 1) hb1 hA hb2 hown4 hgrow (by rcases hat with hat | hat; exact .inl hat.symm; exact .inr (by simp [Value.ownBlock, hat])) rfl
          go_wp2_with fail
          go_roundw
          case rel => exact ⟨j + 1, _, _, by omega, by go_num, by rw [List.take_succ_eq_append_getElem hlt, HC.out]; exact hN⟩
          case measure => simp [intOf]; omega
    · obtain rfl : kids.length = j := by omega
      have hltk : decide (kids.length < kids.length) = false := by simp
      rw [List.take_length] at hB
      rw [List.take_length] at hyl
      obtain ⟨A2, cap2, rfl, g1, g2, g3⟩ := own_row hB.own
      rw [hyl] at g1
      have hvar := hB.var
      rw [hyl] at hvar
      go_wp2_with fail
      go_ret
      refine ⟨.iface 89 (.pointer (some ⟨wd.heap.size, 0, none⟩)), rfl, ?_, hB.bel⟩
      simp only [AR]
      rw [if_neg (by decide), if_neg (by decide), if_neg (by decide), if_pos trivial]
      exact ⟨ys, wd.heap.size, hB.ars.keep (fun b _ hb => ⟨rfl, by have := hb.1; omega⟩) (Nat.le_refl _), by omega, .inl ⟨e, A2, cap2, rfl, hp, rfl, g1, g2, hvar, g3.keep (fun b _ hb => ⟨rfl, by omega⟩) (Nat.le_refl _)⟩⟩
end Go.Proofs.YtjbpphomlmlmaaaGreatDoor
