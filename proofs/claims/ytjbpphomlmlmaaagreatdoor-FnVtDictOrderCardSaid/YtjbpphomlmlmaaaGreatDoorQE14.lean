/- The looks into a value: kind, length, elements, fields. -/
import Derived.Test.YtjbpphomlmlmaaaGreatDoorQE13
namespace Go.Proofs.YtjbpphomlmlmaaaGreatDoor
open Go.RowKit
set_option linter.unusedVariables false
set_option linter.unusedSimpArgs false
set_option maxRecDepth 100000 in
set_option maxHeartbeats 1600000 in
theorem vKind_calls (u : TypeId) (y : Value) (c : UInt8) (hc : c ∈ heads) (r : List UInt8) (w : World) : Calls Tryz.prog 80 #[.agg #[.iface u y, .string (bs (c :: r))]] w fun e w' => e = .returned (.int .i64 (kindN c)) ∧ Below w.heap.size w w' := by
  go_enter Tryz.func80, Tryz.ntmps80
  go_wp2_with (go_at_call 72; refine (kind_calls c hc r _).mono ?_; rintro _ _ ⟨rfl, rfl⟩)
  go_ret
  exact ⟨rfl, (Below.refl _ _).alloc (Nat.le_refl _) _⟩
set_option maxRecDepth 100000 in
set_option maxHeartbeats 1600000 in
theorem kidsOf_calls (b : Nat) (A : Option Addr) (n cap : Nat) (w : World) (hc : w.cell? ⟨b, 1, none⟩ = some (.slice A n cap)) : Calls Tryz.prog 121 #[.iface 89 (.pointer (some ⟨b, 0, none⟩))] w fun e w' => e = .returned (.slice A n cap) ∧ w' = w := by
  go_enter Tryz.func121, Tryz.ntmps121
  go_wp2_with fail
  go_ret
  exact ⟨rfl, rfl⟩
set_option maxRecDepth 100000 in
set_option maxHeartbeats 1600000 in
theorem lenList_calls (b : Nat) (A : Option Addr) (n cap : Nat) (l : List UInt8) (w : World) (hb : b < w.heap.size) (hc : w.cell? ⟨b, 1, none⟩ = some (.slice A n cap)) : Calls Tryz.prog 81 #[.agg #[.iface 89 (.pointer (some ⟨b, 0, none⟩)), .string (bs l)]] w fun e w' => e = .returned (.int .i64 n) ∧ Below w.heap.size w w' := by
  have hc1 : (w.alloc (.cells #[.iface 89 (.pointer (some ⟨b, 0, none⟩)), .string (bs l)] 83)).cell? ⟨b, 1, none⟩ = some (.slice A n cap) := cell_keep (fun k hk => Below.heap_alloc w _ k hk) hc
  go_enter Tryz.func81, Tryz.ntmps81
  go_wp2_with (go_at_call 121; refine (kidsOf_calls b A n cap _ hc1).mono ?_; rintro _ _ ⟨rfl, rfl⟩)
  go_ret
  exact ⟨rfl, (Below.refl _ _).alloc (Nat.le_refl _) _⟩
set_option maxRecDepth 100000 in
set_option maxHeartbeats 1600000 in
theorem lenDict_calls (b : Nat) (A : Option Addr) (n cap : Nat) (l : List UInt8) (w : World) (hb : b < w.heap.size) (hc : w.cell? ⟨b, 2, none⟩ = some (.slice A n cap)) : Calls Tryz.prog 81 #[.agg #[.iface 113 (.pointer (some ⟨b, 0, none⟩)), .string (bs l)]] w fun e w' => e = .returned (.int .i64 n) ∧ Below w.heap.size w w' := by
  have hc1 : (w.alloc (.cells #[.iface 113 (.pointer (some ⟨b, 0, none⟩)), .string (bs l)] 83)).cell? ⟨b, 2, none⟩ = some (.slice A n cap) := cell_keep (fun k hk => Below.heap_alloc w _ k hk) hc
  go_enter Tryz.func81, Tryz.ntmps81
  go_wp2_with fail
  go_ret
  exact ⟨rfl, (Below.refl _ _).alloc (Nat.le_refl _) _⟩
set_option maxRecDepth 100000 in
set_option maxHeartbeats 1600000 in
theorem numFld_calls (A : Option Addr) (n cap : Nat) (l : List UInt8) (w : World) : Calls Tryz.prog 90 #[.agg #[.iface 80 (.agg #[.slice A n cap]), .string (bs l)]] w fun e w' => e = .returned (.int .i64 n) ∧ Below w.heap.size w w' := by
  go_enter Tryz.func90, Tryz.ntmps90
  go_wp2_with fail
  go_ret
  exact ⟨rfl, ((Below.refl _ _).alloc (Nat.le_refl _) _).alloc (by simp) _⟩
set_option maxRecDepth 100000 in
set_option maxHeartbeats 1600000 in
theorem index_calls (b g : Nat) (n cap : Nat) (l : List UInt8) (i : Nat) (hi : i < n) (hcap : n ≤ cap) (u : TypeId) (y : Value) (w : World) (hb : b < w.heap.size) (hg : g < w.heap.size) (hc : w.cell? ⟨b, 1, none⟩ = some (.slice (some ⟨g, 0, none⟩) n cap)) (hy : w.cell? ⟨g, i, none⟩ = some (.iface u y)) : Calls Tryz.prog 83 #[.agg #[.iface 89 (.pointer (some ⟨b, 0, none⟩)), .string (bs (91 :: l))], .int .i64 i] w fun e w' => e = .returned (.agg #[.iface u y, .string (bs l)]) ∧ Below w.heap.size w w' := by
  have hW : Below w.heap.size w ((w.alloc (.cells #[.iface 89 (.pointer (some ⟨b, 0, none⟩)), .string (bs (91 :: l))] 83)).alloc (.cells #[.nilIface, .string { data := #[] }] 83)).drew := (((Below.refl _ _).alloc (Nat.le_refl _) _).alloc (by simp) _).drew
  have e0 : ((w.alloc (.cells #[.iface 89 (.pointer (some ⟨b, 0, none⟩)), .string (bs (91 :: l))] 83)).alloc (.cells #[.nilIface, .string { data := #[] }] 83)).drew.heap[w.heap.size]? = some (.cells #[.iface 89 (.pointer (some ⟨b, 0, none⟩)), .string (bs (91 :: l))] 83 (0, 0)) := (Below.heap_alloc (w.alloc (.cells #[.iface 89 (.pointer (some ⟨b, 0, none⟩)), .string (bs (91 :: l))] 83)) (.cells #[.nilIface, .string { data := #[] }] 83) _ (by simp)).trans (heap_alloc_new w _)
  have e1 : ((w.alloc (.cells #[.iface 89 (.pointer (some ⟨b, 0, none⟩)), .string (bs (91 :: l))] 83)).alloc (.cells #[.nilIface, .string { data := #[] }] 83)).drew.heap[w.heap.size + 1]? = some (.cells #[.nilIface, .string { data := #[] }] 83 (0, 0)) := by
    have h0 := heap_alloc_new (w.alloc (.cells #[.iface 89 (.pointer (some ⟨b, 0, none⟩)), .string (bs (91 :: l))] 83)) (.cells #[.nilIface, .string { data := #[] }] 83)
    have hz : (w.alloc (.cells #[.iface 89 (.pointer (some ⟨b, 0, none⟩)), .string (bs (91 :: l))] 83)).heap.size = w.heap.size + 1 := by simp
    rw [hz] at h0
    exact h0
  have b0 : ((w.alloc (.cells #[.iface 89 (.pointer (some ⟨b, 0, none⟩)), .string (bs (91 :: l))] 83)).alloc (.cells #[.nilIface, .string { data := #[] }] 83)).drew.cell? ⟨w.heap.size, 0, none⟩ = some (.iface 89 (.pointer (some ⟨b, 0, none⟩))) := by rw [cell_of_row _ _ _ _ _ _ e0]; rfl
  have b1 : ((w.alloc (.cells #[.iface 89 (.pointer (some ⟨b, 0, none⟩)), .string (bs (91 :: l))] 83)).alloc (.cells #[.nilIface, .string { data := #[] }] 83)).drew.cell? ⟨w.heap.size, 1, none⟩ = some (.string (bs (91 :: l))) := by rw [cell_of_row _ _ _ _ _ _ e0]; rfl
  have z0 : ((w.alloc (.cells #[.iface 89 (.pointer (some ⟨b, 0, none⟩)), .string (bs (91 :: l))] 83)).alloc (.cells #[.nilIface, .string { data := #[] }] 83)).drew.cell? ⟨w.heap.size + 1, 0, none⟩ = some .nilIface := by rw [cell_of_row _ _ _ _ _ _ e1]; rfl
  have z1 : ((w.alloc (.cells #[.iface 89 (.pointer (some ⟨b, 0, none⟩)), .string (bs (91 :: l))] 83)).alloc (.cells #[.nilIface, .string { data := #[] }] 83)).drew.cell? ⟨w.heap.size + 1, 1, none⟩ = some (.string { data := #[] }) := by rw [cell_of_row _ _ _ _ _ _ e1]; rfl
  have zf := fun o => frozen_of_row _ (w.heap.size + 1) o _ _ e1
  have y0 := cell_keep hW.block hy
  have c0 := cell_keep hW.block hc
  have hi1 : (i : Int) < (n : Int) := by omega
  go_enter Tryz.func83, Tryz.ntmps83
  go_wp2_with fail
  generalize hWW : ((w.alloc (.cells #[.iface 89 (.pointer (some ⟨b, 0, none⟩)), .string (bs (91 :: l))] 83)).alloc (.cells #[.nilIface, .string { data := #[] }] 83)).drew = W1 at hW e0 e1 b0 b1 z0 z1 zf y0 c0
  refine wp_region_held_drew (S := fun w' => w'.cell? ⟨w.heap.size, 0, none⟩ = some (.iface 89 (.pointer (some ⟨b, 0, none⟩))) ∧ w'.cell? ⟨w.heap.size, 1, none⟩ = some (.string (bs (91 :: l))) ∧ w'.cell? ⟨g, i, none⟩ = some (.iface u y)) (by kernel_rfl) ?_ (fun hHeld => ?_)
  · rw [hWW]; exact ⟨b0, b1, y0⟩
  rw [hWW] at hHeld ⊢
  refine wpAnyH_take (i := 0) (oi := _) (v := ?_) rfl (by kernel_rfl) (by kernel_rfl) (by kernel_rfl) (fun _ _ _ h => h) (Or.inl ⟨by rfl, ?_⟩) (by assumption) ?_
  rotate_left
  · intro w hSw
    (try dsimp only at hSw)
    go_simp
    all_goals (with_reducible rfl)
  try simp only [Act.put, List.setIfInBounds_toArray, List.set_cons_zero, List.set_cons_succ]
  refine wpAnyH_take (i := 1) (oi := _) (v := ?_) rfl (by kernel_rfl) (by kernel_rfl) (by kernel_rfl) (fun _ _ _ h => h) (Or.inl ⟨by rfl, ?_⟩) (by assumption) ?_
  rotate_left
  · intro w hSw
    (try dsimp only at hSw)
    go_simp
    all_goals (with_reducible rfl)
  try simp only [Act.put, List.setIfInBounds_toArray, List.set_cons_zero, List.set_cons_succ]
  refine wpAnyH_take (i := 3) (oi := _) (v := ?_) rfl (by kernel_rfl) (by kernel_rfl) (by kernel_rfl) (fun _ _ _ h => h) (Or.inl ⟨by rfl, ?_⟩) (by assumption) ?_
  rotate_left
  · intro w hSw
    (try dsimp only at hSw)
    go_simp
    all_goals (with_reducible rfl)
  try simp only [Act.put, List.setIfInBounds_toArray, List.set_cons_zero, List.set_cons_succ]
  refine wpAnyH_take (i := 6) (oi := _) (v := ?_) rfl (by kernel_rfl) (by kernel_rfl) (by kernel_rfl) (fun _ _ _ h => h) (Or.inl ⟨by rfl, ?_⟩) (by assumption) ?_
  rotate_left
  · intro w hSw
    (try dsimp only at hSw)
    go_simp
    all_goals (with_reducible rfl)
  try simp only [Act.put, List.setIfInBounds_toArray, List.set_cons_zero, List.set_cons_succ]
  refine wpAnyH_take (i := 7) (oi := _) (v := ?_) rfl (by kernel_rfl) (by kernel_rfl) (by kernel_rfl) (fun _ _ _ h => h) (Or.inl ⟨by rfl, ?_⟩) (by assumption) ?_
  rotate_left
  · intro w hSw
    (try dsimp only at hSw)
    go_simp
    all_goals (with_reducible rfl)
  try simp only [Act.put, List.setIfInBounds_toArray, List.set_cons_zero, List.set_cons_succ]
  refine wpAnyH_ready (rs := [2]) (by kernel_rfl) (by simp) (AllReadyH.cons (o := _) rfl (fun K hK => ?_) AllReadyH.nil)
  go_simp
  refine (kidsOf_calls b _ n cap _ c0).mono ?_
  rintro _ wq ⟨rfl, hq⟩
  obtain rfl := hq.symm
  refine hK.out _ _ ⟨b0, b1, y0⟩ (fun hHeld => ?_)
  clear hK K
  try simp only [Act.put, List.setIfInBounds_toArray, List.set_cons_zero, List.set_cons_succ]
  refine wpAnyH_take (i := 4) (oi := _) (v := ?_) rfl (by kernel_rfl) (by kernel_rfl) (by kernel_rfl) (fun _ _ _ h => h) (Or.inl ⟨by rfl, ?_⟩) (by assumption) ?_
  rotate_left
  · intro w hSw
    (try dsimp only at hSw)
    go_simp
    all_goals (with_reducible rfl)
  try simp only [Act.put, List.setIfInBounds_toArray, List.set_cons_zero, List.set_cons_succ]
  refine wpAnyH_take (i := 5) (oi := _) (v := ?_) rfl (by kernel_rfl) (by kernel_rfl) (by kernel_rfl) (fun _ _ _ h => h) (Or.inl ⟨by rfl, ?_⟩) (by assumption) ?_
  rotate_left
  · intro w hSw
    (try dsimp only at hSw)
    go_simp
    all_goals (with_reducible rfl)
  try simp only [Act.put, List.setIfInBounds_toArray, List.set_cons_zero, List.set_cons_succ]
  refine wpAnyH_ready (rs := [8]) (by kernel_rfl) (by simp) (AllReadyH.cons (o := _) rfl (fun K hK => ?_) AllReadyH.nil)
  go_simp
  refine (elem_arr _ _).mono ?_
  rintro _ wq ⟨rfl, hq⟩
  obtain rfl := hq.symm
  refine hK.out _ _ ⟨b0, b1, y0⟩ (fun hHeld => ?_)
  clear hK K
  try simp only [Act.put, List.setIfInBounds_toArray, List.set_cons_zero, List.set_cons_succ]
  refine wpAnyH_take (i := 9) (oi := _) (v := ?_) rfl (by kernel_rfl) (by kernel_rfl) (by kernel_rfl) (fun _ _ _ h => h) (Or.inl ⟨by rfl, ?_⟩) (by assumption) ?_
  rotate_left
  · intro w hSw
    (try dsimp only at hSw)
    go_simp
    all_goals (with_reducible rfl)
  try simp only [Act.put, List.setIfInBounds_toArray, List.set_cons_zero, List.set_cons_succ]
  have f1 := row_setC (row_setC e1 0 (.iface u y)) 1 (.string (bs l))
  refine wpAnyH_ready (rs := [10]) (by kernel_rfl) (by simp) (AllReadyH.cons (o := _) rfl (fun K hK => ?_) AllReadyH.nil)
  go_simp
  have far : ∀ q, q ≠ w.heap.size + 1 → ((W1.setCell ⟨w.heap.size + 1, 0, none⟩ (.iface u y)).setCell ⟨w.heap.size + 1, 1, none⟩ (.string (bs l))).heap[q]? = W1.heap[q]? := fun q hq => by
    rw [Below.heap_setCell _ ⟨w.heap.size + 1, 1, none⟩ _ q hq, Below.heap_setCell _ ⟨w.heap.size + 1, 0, none⟩ _ q hq]
  refine hK.out _ _ ⟨(World.cell?_of_block (a := ⟨w.heap.size, 0, none⟩) (far _ (show w.heap.size ≠ w.heap.size + 1 by omega))).trans b0, (World.cell?_of_block (a := ⟨w.heap.size, 1, none⟩) (far _ (show w.heap.size ≠ w.heap.size + 1 by omega))).trans b1, (World.cell?_of_block (a := ⟨g, i, none⟩) (far _ (show g ≠ w.heap.size + 1 by omega))).trans y0⟩ (fun hHeld => ?_)
  clear hK K
  refine wpAnyH_done (by kernel_rfl) ?_ _
  go_wp2_with fail
  refine bodyPost_ret (results_cell_row rfl _ _ (w.heap.size + 1) 83 #[.iface u y, .string (bs l)] (0, 0) _ rfl f1 Tryz.underlying83 rfl (by kernel_rfl)) rfl ⟨rfl, ?_⟩
  exact (hW.setCell (p := ⟨w.heap.size + 1, 0, none⟩) (by show w.heap.size ≤ w.heap.size + 1; omega) _).setCell (p := ⟨w.heap.size + 1, 1, none⟩) (by show w.heap.size ≤ w.heap.size + 1; omega) _
set_option maxRecDepth 100000 in
set_option maxHeartbeats 1600000 in
theorem fieldAt_calls {v : V} {t : Ty} (h : HT v t) (h255 : t.sig.length ≤ 255) (S : Nat → Prop) (g : Nat) (n cap : Nat) (l : List UInt8) (i : Nat) (hi : i < n) (hcap : n ≤ cap) (u : TypeId) (y : Value) (w : World) (hA : AR S w v (.iface u y)) (hy : w.cell? ⟨g, i, none⟩ = some (.iface u y)) : Calls Tryz.prog 91 #[.agg #[.iface 80 (.agg #[.slice (some ⟨g, 0, none⟩) n cap]), .string (bs l)], .int .i64 i] w fun e w' => e = .returned (.agg #[.iface u y, .string (bs (zty t))]) ∧ Below w.heap.size w w' := by
  have hi1 : (i : Int) < (n : Int) := by omega
  have hW : Below w.heap.size w (((w.alloc (.cells #[.iface 80 (.agg #[.slice (some ⟨g, 0, none⟩) n cap]), .string (bs l)] 83)).alloc (.cells #[.nilIface, .string { data := #[] }] 83)).alloc (.cells #[.slice (some ⟨g, 0, none⟩) n cap] 80)) := (((Below.refl _ _).alloc (Nat.le_refl _) _).alloc (by simp) _).alloc (by simp; omega) _
  have e1 : (((w.alloc (.cells #[.iface 80 (.agg #[.slice (some ⟨g, 0, none⟩) n cap]), .string (bs l)] 83)).alloc (.cells #[.nilIface, .string { data := #[] }] 83)).alloc (.cells #[.slice (some ⟨g, 0, none⟩) n cap] 80)).heap[w.heap.size + 1]? = some (.cells #[.nilIface, .string { data := #[] }] 83 (0, 0)) := by
    have h0 := heap_alloc_new (w.alloc (.cells #[.iface 80 (.agg #[.slice (some ⟨g, 0, none⟩) n cap]), .string (bs l)] 83)) (.cells #[.nilIface, .string { data := #[] }] 83)
    have hz : (w.alloc (.cells #[.iface 80 (.agg #[.slice (some ⟨g, 0, none⟩) n cap]), .string (bs l)] 83)).heap.size = w.heap.size + 1 := by simp
    rw [hz] at h0
    exact (Below.heap_alloc _ _ _ (by simp)).trans h0
  have y0 := cell_keep hW.block hy
  have hV := valueOf_calls h h255 S u y _ (hA.below hW)
  have hzz : (((w.alloc (.cells #[.iface 80 (.agg #[.slice (some ⟨g, 0, none⟩) n cap]), .string (bs l)] 83)).alloc (.cells #[.nilIface, .string { data := #[] }] 83)).alloc (.cells #[.slice (some ⟨g, 0, none⟩) n cap] 80)).heap.size = w.heap.size + 3 := by simp
  go_enter Tryz.func91, Tryz.ntmps91
  go_wp2_with fail
  refine hV.mono ?_
  rintro _ w1 ⟨rfl, hb1⟩
  have e2 := (hb1.block (w.heap.size + 1) (by rw [hzz]; omega)).trans e1
  have z0 : w1.cell? ⟨w.heap.size + 1, 0, none⟩ = some .nilIface := by rw [cell_of_row _ _ _ _ _ _ e2]; rfl
  have z1 : w1.cell? ⟨w.heap.size + 1, 1, none⟩ = some (.string { data := #[] }) := by rw [cell_of_row _ _ _ _ _ _ e2]; rfl
  have zf := fun o => frozen_of_row _ (w.heap.size + 1) o _ _ e2
  go_wp2_with fail
  have f1 := row_setC (row_setC e2 0 (.iface u y)) 1 (.string (bs (zty t)))
  refine bodyPost_ret (results_cell_row rfl _ _ (w.heap.size + 1) 83 #[.iface u y, .string (bs (zty t))] (0, 0) _ rfl f1 Tryz.underlying83 rfl (by kernel_rfl)) rfl ⟨rfl, ?_⟩
  have hb := below_then hW hW.size hb1
  exact (hb.setCell (p := ⟨w.heap.size + 1, 0, none⟩) (by show w.heap.size ≤ w.heap.size + 1; omega) _).setCell (p := ⟨w.heap.size + 1, 1, none⟩) (by show w.heap.size ≤ w.heap.size + 1; omega) _
end Go.Proofs.YtjbpphomlmlmaaaGreatDoor
