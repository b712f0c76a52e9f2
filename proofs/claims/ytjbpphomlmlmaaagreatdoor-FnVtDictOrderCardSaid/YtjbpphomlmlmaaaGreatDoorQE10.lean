/- Entries of a dict. -/
import Derived.Test.YtjbpphomlmlmaaaGreatDoorQE9
namespace Go.Proofs.YtjbpphomlmlmaaaGreatDoor
open Go.RowKit
set_option linter.unusedVariables false
set_option linter.unusedSimpArgs false
structure SetR (H B : Nat) (kb eb : ByteArray) (vk vv : Value) (ks xs : List Value) (k x : Value) (w w' : World) : Prop where
  out : ∃ vk' vv', w'.ownsRow H 20 1 vk' (ks.length + 1) (ks ++ [k]) ∧ w'.ownsRow H 20 1 vv' (ks.length + 1) (xs ++ [x]) ∧ (∀ b, vk'.ownBlock = some b → vv'.ownBlock ≠ some b) ∧
    w'.heap[B]? = some (.cells #[.string kb, .string eb, vk', vv'] 116 (0, 0)) ∧ (vk'.ownBlock = vk.ownBlock ∨ ∃ g, vk'.ownBlock = some g ∧ w.heap.size ≤ g) ∧ (vv'.ownBlock = vv.ownBlock ∨ ∃ g, vv'.ownBlock = some g ∧ w.heap.size ≤ g)
  keep : ∀ b, b < w.heap.size → b ≠ B → vk.ownBlock ≠ some b → vv.ownBlock ≠ some b → w'.heap[b]? = w.heap[b]?
  bel : Below B w w'
theorem own_keep' {w w' : World} {base : Nat} {e : TypeId} {size n : Nat} {v : Value} {xs : List Value} (h : w.ownsRow base e size v n xs) (hk : ∀ b, v.ownBlock = some b → w'.heap[b]? = w.heap[b]?) : w'.ownsRow base e size v n xs := by
  refine ⟨h.1, ?_⟩
  rcases h.2 with h0 | ⟨g, cap, cur, rfl, hb, hg, hr⟩
  · exact .inl h0
  · exact .inr ⟨g, cap, cur, rfl, hb, (hk g rfl).trans hg, hr⟩
/-- Two rows that grow side by side. -/
structure St (H : Nat) (W X : World) (vk0 vv0 vk vv : Value) (ks xs : List Value) : Prop where
  ownK : X.ownsRow H 20 1 vk ks.length ks
  ownV : X.ownsRow H 20 1 vv xs.length xs
  ne : ∀ b, vk.ownBlock = some b → vv.ownBlock ≠ some b
  keep : ∀ b, b < W.heap.size → vk0.ownBlock ≠ some b → vv0.ownBlock ≠ some b → X.heap[b]? = W.heap[b]?
  bel : Below H W X
  newK : vk.ownBlock = vk0.ownBlock ∨ ∃ g, vk.ownBlock = some g ∧ W.heap.size ≤ g
  newV : vv.ownBlock = vv0.ownBlock ∨ ∃ g, vv.ownBlock = some g ∧ W.heap.size ≤ g
theorem St.alloc {H : Nat} {W X : World} {vk0 vv0 vk vv : Value} {ks xs : List Value} (h : St H W X vk0 vv0 vk vv ks xs) (hH : H ≤ W.heap.size) (o : Obj) : St H W (X.alloc o) vk0 vv0 vk vv ks xs := by
  have hs := h.bel.size
  refine ⟨own_keep h.ownK fun b hb => Below.heap_alloc X o b hb, own_keep h.ownV fun b hb => Below.heap_alloc X o b hb, h.ne, fun b hb h1 h2 => ?_, h.bel.alloc (by omega) o, h.newK, h.newV⟩
  rw [Below.heap_alloc X o b (by omega)]
  exact h.keep b hb h1 h2
theorem St.appK {H : Nat} {W X X2 : World} {vk0 vv0 vk vv v2 : Value} {ks xs : List Value} {y : Value} (h : St H W X vk0 vv0 vk vv ks xs) (hH : H ≤ W.heap.size)
    (hown : X2.ownsRow H 20 1 v2 (ks.length + 1) (ks ++ [y])) (hg : X.grownBy X2 vk.ownBlock) (ha : vk.ownBlock = v2.ownBlock ∨ v2.ownBlock = some X.heap.size) : St H W X2 vk0 vv0 v2 vv (ks ++ [y]) xs := by
  have hs := h.bel.size
  have hvl : ∀ b, vv.ownBlock = some b → b < X.heap.size := fun b hb => own_lt h.ownV hb
  refine ⟨by rw [List.length_append]; exact hown, ?_, ?_, fun b hb h1 h2 => ?_, h.bel.grown hg (by omega) (fun k hk => own_base' h.ownK hk), ?_, h.newV⟩
  · refine own_keep' h.ownV fun b hb => ?_
    exact hg.block b (own_lt h.ownV hb) (fun hc => h.ne b hc.symm hb)
  · intro b hb hv
    rcases ha with ha | ha
    · rw [← ha] at hb; exact h.ne b hb hv
    · rw [ha] at hb; have := Option.some.inj hb; have := hvl b hv; omega
  · rw [hg.block b (by omega) (fun hc => ?_)]
    · exact h.keep b hb h1 h2
    · rcases h.newK with hk | ⟨g, hk, hg2⟩
      · rw [hk] at hc; exact h1 hc.symm
      · rw [hk] at hc; have := Option.some.inj hc; omega
  · rcases ha with ha | ha
    · rw [← ha]; exact h.newK
    · exact .inr ⟨_, ha, by omega⟩
theorem St.appV {H : Nat} {W X X2 : World} {vk0 vv0 vk vv v2 : Value} {ks xs : List Value} {y : Value} (h : St H W X vk0 vv0 vk vv ks xs) (hH : H ≤ W.heap.size)
    (hown : X2.ownsRow H 20 1 v2 (xs.length + 1) (xs ++ [y])) (hg : X.grownBy X2 vv.ownBlock) (ha : vv.ownBlock = v2.ownBlock ∨ v2.ownBlock = some X.heap.size) : St H W X2 vk0 vv0 vk v2 ks (xs ++ [y]) := by
  have hs := h.bel.size
  have hvl : ∀ b, vk.ownBlock = some b → b < X.heap.size := fun b hb => own_lt h.ownK hb
  refine ⟨?_, by rw [List.length_append]; exact hown, ?_, fun b hb h1 h2 => ?_, h.bel.grown hg (by omega) (fun k hk => own_base' h.ownV hk), h.newK, ?_⟩
  · refine own_keep' h.ownK fun b hb => ?_
    exact hg.block b (own_lt h.ownK hb) (fun hc => h.ne b hb hc.symm)
  · intro b hb hv
    rcases ha with ha | ha
    · rw [← ha] at hv; exact h.ne b hb hv
    · rw [ha] at hv; have := Option.some.inj hv; have := hvl b hb; omega
  · rw [hg.block b (by omega) (fun hc => ?_)]
    · exact h.keep b hb h1 h2
    · rcases h.newV with hk | ⟨g, hk, hg2⟩
      · rw [hk] at hc; exact h2 hc.symm
      · rw [hk] at hc; have := Option.some.inj hc; omega
  · rcases ha with ha | ha
    · rw [← ha]; exact h.newV
    · exact .inr ⟨_, ha, by omega⟩
theorem below_same {B : Nat} {w X Y : World} (h : Below B w X) (hh : Y.heap = X.heap) (h0 : Below 0 X Y) : Below B w Y :=
  h.trans ⟨h0.os, h0.tape, h0.output, h0.size, fun b _ => by rw [hh]⟩
/-- The end of it: the two slices are put back. -/
theorem set_shut {H B : Nat} {kb eb : ByteArray} {vk vv vk' vv' : Value} {ks xs : List Value} {k x : Value} {w W X : World} (hBH : B < H) (hB : B < w.heap.size) (hW : ∀ b, b < w.heap.size → W.heap[b]? = w.heap[b]?) (hxl : xs.length = ks.length)
    (h : St H W X vk vv vk' vv' (ks ++ [k]) (xs ++ [x])) {cs : Array Value} (hBX : ((X.setCell ⟨B, 2, none⟩ vk').setCell ⟨B, 3, none⟩ vv').heap[B]? = some (.cells cs 116 (0, 0))) (hcs : cs = #[.string kb, .string eb, vk', vv'])
    (hWw : Below w.heap.size w W) : SetR H B kb eb vk vv ks xs k x w ((X.setCell ⟨B, 2, none⟩ vk').setCell ⟨B, 3, none⟩ vv') := by
  have hs := hWw.size
  have hk : vk'.ownBlock ≠ some B := fun hc => by have := own_base' h.ownK hc; omega
  have hv : vv'.ownBlock ≠ some B := fun hc => by have := own_base' h.ownV hc; omega
  subst hcs
  refine ⟨⟨vk', vv', ?_, ?_, h.ne, hBX, ?_, ?_⟩, ?_, ?_⟩
  · have := own_set (own_set h.ownK B 2 vk' hk) B 3 vv' hk
    simpa using this
  · have := own_set (own_set h.ownV B 2 vk' hv) B 3 vv' hv
    simpa [hxl] using this
  · rcases h.newK with h1 | ⟨g, h1, h2⟩
    · exact .inl h1
    · exact .inr ⟨g, h1, by omega⟩
  · rcases h.newV with h1 | ⟨g, h1, h2⟩
    · exact .inl h1
    · exact .inr ⟨g, h1, by omega⟩
  · intro b hb hne h1 h2
    rw [Below.heap_setCell _ ⟨B, 3, none⟩ vv' b hne, Below.heap_setCell _ ⟨B, 2, none⟩ vk' b hne, h.keep b (by omega) h1 h2]
    exact hW b hb
  · have q1 : Below B w W := hWw.mono (by omega)
    have q2 : Below B W X := h.bel.mono (by omega)
    exact ((q1.trans q2).setCell (p := ⟨B, 2, none⟩) (Nat.le_refl _) _).setCell (p := ⟨B, 3, none⟩) (Nat.le_refl _) _
set_option maxRecDepth 100000 in
set_option maxHeartbeats 6400000 in
theorem setMap_calls (H B : Nat) (kb eb : ByteArray) (vk vv : Value) (ks xs : List Value) (ku xu : TypeId) (ky xy : Value) (l1 l2 l3 : List UInt8) (w : World)
    (hK : w.ownsRow H 20 1 vk ks.length ks) (hV : w.ownsRow H 20 1 vv ks.length xs) (hne : ∀ b, vk.ownBlock = some b → vv.ownBlock ≠ some b) (hvar : w.heap[B]? = some (.cells #[.string kb, .string eb, vk, vv] 116 (0, 0))) (hBH : B < H) (hsz : H ≤ w.heap.size) (hlen : ks.length ≤ 1000)
    (hfresh : ∀ q ∈ ks, ∃ (u : TypeId) (y : Value), q = .iface u y ∧ ∀ w, (binOp .eql 20 (.iface u y) (.iface ku ky)).run Tryz.prog w = .ok (.bool false) w) :
    Calls Tryz.prog 48 #[.agg #[.iface 113 (.pointer (some ⟨B, 0, none⟩)), .string (bs l1)], .agg #[.iface ku ky, .string (bs l2)], .agg #[.iface xu xy, .string (bs l3)]] w fun e w' => e = .returned (.tuple #[]) ∧ SetR H B kb eb vk vv ks xs (.iface ku ky) (.iface xu xy) w w' := by
  have has : ∀ w, (Instr.typeAssert (.iface 113 (.pointer (some ⟨B, 0, none⟩))) 20 113 false).run Tryz.prog w = .ok (.pointer (some ⟨B, 0, none⟩)) w := fun w => by kernel_rfl
  have hBlt : B < w.heap.size := by omega
  obtain ⟨i0, hi0, hz0, hz1, hz2⟩ := info_parts info20
  obtain ⟨A, cap, hvk, hc1, hc2, hrow⟩ := own_row hK
  have hK0 := hK
  clear hK
  have hWB : Below w.heap.size w (((w.alloc (.cells #[.iface 113 (.pointer (some ⟨B, 0, none⟩)), .string (bs l1)] 83)).alloc (.cells #[.iface ku ky, .string (bs l2)] 83)).alloc (.cells #[.iface xu xy, .string (bs l3)] 83)) := (((Below.refl _ _).alloc (Nat.le_refl _) _).alloc (by simp) _).alloc (by simp; omega) _
  have hWs : (((w.alloc (.cells #[.iface 113 (.pointer (some ⟨B, 0, none⟩)), .string (bs l1)] 83)).alloc (.cells #[.iface ku ky, .string (bs l2)] 83)).alloc (.cells #[.iface xu xy, .string (bs l3)] 83)).heap.size = w.heap.size + 3 := by simp
  have e0 : (((w.alloc (.cells #[.iface 113 (.pointer (some ⟨B, 0, none⟩)), .string (bs l1)] 83)).alloc (.cells #[.iface ku ky, .string (bs l2)] 83)).alloc (.cells #[.iface xu xy, .string (bs l3)] 83)).heap[w.heap.size + 1]? = some (.cells #[.iface ku ky, .string (bs l2)] 83 (0, 0)) := by
    rw [Below.heap_alloc _ _ _ (by simp)]
    have := heap_alloc_new (w.alloc (.cells #[.iface 113 (.pointer (some ⟨B, 0, none⟩)), .string (bs l1)] 83)) (.cells #[.iface ku ky, .string (bs l2)] 83)
    simpa using this
  have e1 : (((w.alloc (.cells #[.iface 113 (.pointer (some ⟨B, 0, none⟩)), .string (bs l1)] 83)).alloc (.cells #[.iface ku ky, .string (bs l2)] 83)).alloc (.cells #[.iface xu xy, .string (bs l3)] 83)).heap[w.heap.size + 2]? = some (.cells #[.iface xu xy, .string (bs l3)] 83 (0, 0)) := by
    have := heap_alloc_new ((w.alloc (.cells #[.iface 113 (.pointer (some ⟨B, 0, none⟩)), .string (bs l1)] 83)).alloc (.cells #[.iface ku ky, .string (bs l2)] 83)) (.cells #[.iface xu xy, .string (bs l3)] 83)
    simpa using this
  have n0 := (hWB.block B hBlt).trans hvar
  obtain ⟨c0, c1, c2, c3⟩ := kid_cells n0
  subst hvk
  go_enter Tryz.func48, Tryz.ntmps48
  go_wp2_with fail
  have key : ∀ W3 : World, (((w.alloc (.cells #[.iface 113 (.pointer (some ⟨B, 0, none⟩)), .string (bs l1)] 83)).alloc (.cells #[.iface ku ky, .string (bs l2)] 83)).alloc (.cells #[.iface xu xy, .string (bs l3)] 83)) = W3 → True := fun _ _ => trivial
  generalize (((w.alloc (.cells #[.iface 113 (.pointer (some ⟨B, 0, none⟩)), .string (bs l1)] 83)).alloc (.cells #[.iface ku ky, .string (bs l2)] 83)).alloc (.cells #[.iface xu xy, .string (bs l3)] 83)) = W3 at *
  clear key
  go_loopw [16] (fun i wr => ∃ j : Nat, j ≤ ks.length ∧ i = .int .i64 j ∧ wr.heap = W3.heap ∧ Below 0 W3 wr) (fun i _ => ks.length - (intOf i).toNat)
  case atStart => exact ⟨0, Nat.zero_le _, rfl, rfl, Below.refl _ _⟩
  case round =>
    obtain ⟨j, hj, rfl, hh, hb0⟩ := hrel
    have hn := hWB.block
    by_cases hlt : j < ks.length
    · have hltk : decide (j < ks.length) = true := by simp; omega
      rcases hrow with h0 | ⟨g, rfl, hg1, hg2, hg3⟩
      · subst h0; simp at hlt
      obtain ⟨u, y, hq, heq⟩ := hfresh ks[j] (List.getElem_mem hlt)
      have q0 : wr.cell? ⟨g, j, none⟩ = some (.iface u y) := by
        have h1 := hg3 j (.iface u y) (by rw [List.getElem?_eq_getElem hlt, hq])
        refine (World.cell?_of_block (a := ⟨g, j, none⟩) ?_).trans h1
        rw [hh]; exact hn g hg2
      have d2 : wr.cell? ⟨B, 2, none⟩ = some (.slice (some ⟨g, 0, none⟩) ks.length cap) := (World.cell?_of_block (a := ⟨B, 2, none⟩) (by rw [hh])).trans c2
      have b0 : wr.cell? ⟨w.heap.size + 1, 0, none⟩ = some (.iface ku ky) := by
        refine (World.cell?_of_block (a := ⟨w.heap.size + 1, 0, none⟩) (w := W3) (by rw [hh])).trans ?_
        rw [cell_of_row _ _ _ _ _ _ e0]; rfl
      go_wp2_with fail
      go_quiet (fail)
      go_wp2_with fail
      go_roundw
      case rel => exact ⟨j + 1, by omega, by go_num, hh, below_drewN hb0 _⟩
      case measure => simp [intOf]; omega
    · obtain rfl : ks.length = j := by omega
      have hltk : decide (ks.length < ks.length) = false := by simp
      have f2 : wr.drew.heap = W3.heap := hh
      have hWr : ∀ b, b < w.heap.size → wr.drew.heap[b]? = w.heap[b]? := fun b hb => by rw [f2]; exact hn b hb
      have hWw : Below w.heap.size w wr.drew := below_same hWB f2 hb0.drew
      have hWz : wr.drew.heap.size = w.heap.size + 3 := by rw [f2]; exact hWs
      have hBltw := hBlt
      have hxl : xs.length = ks.length := by have := hV.1; omega
      have hxl2 : xs.length ≤ 1000 := by omega
      have HXL := Lib.hid hxl
      have hHd : H ≤ wr.drew.heap.size := by omega
      have S0 : St H wr.drew wr.drew (.slice A ks.length cap) vv (.slice A ks.length cap) vv ks xs := ⟨own_keep hK0 hWr, by rw [hxl]; exact own_keep hV hWr, hne, fun _ _ _ _ => rfl, Below.refl _ _, .inl rfl, .inl rfl⟩
      have FX : ∀ (X : World) (vk' vv' : Value) (ks' xs' : List Value), St H wr.drew X (.slice A ks.length cap) vv vk' vv' ks' xs' →
          (X.cell? ⟨w.heap.size + 1, 0, none⟩ = some (.iface ku ky) ∧ X.cell? ⟨w.heap.size + 2, 0, none⟩ = some (.iface xu xy)) ∧ (X.cell? ⟨B, 2, none⟩ = some (.slice A ks.length cap) ∧ X.cell? ⟨B, 3, none⟩ = some vv) ∧
          X.heap[B]? = some (.cells #[.string kb, .string eb, .slice A ks.length cap, vv] 116 (0, 0)) ∧ (∀ o, X.frozen? ⟨B, o, none⟩ = false) ∧ X.heap[w.heap.size + 1]? = some (.cells #[.iface ku ky, .string (bs l2)] 83 (0, 0)) ∧ X.heap[w.heap.size + 2]? = some (.cells #[.iface xu xy, .string (bs l3)] 83 (0, 0)) := fun X vk' vv' ks' xs' hX => by
        have hk : ∀ b, b < w.heap.size + 3 → (b < H ∨ w.heap.size ≤ b) → X.heap[b]? = W3.heap[b]? := fun b hb hr => by
          rw [hX.keep b (by omega) (fun hc => by have h1 := own_base' hK0 hc; have h2 := own_lt hK0 hc; omega) (fun hc => by have h1 := own_base' hV hc; have h2 := own_lt hV hc; omega), f2]
        have hB' := (hk B (by omega) (.inl hBH)).trans n0
        have h4 := (hk (w.heap.size + 1) (by omega) (.inr (by omega))).trans e0
        have h5 := (hk (w.heap.size + 2) (by omega) (.inr (by omega))).trans e1
        refine ⟨⟨?_, ?_⟩, ⟨?_, ?_⟩, hB', fun o => frozen_of_row _ _ _ _ _ hB', h4, h5⟩
        · rw [cell_of_row _ _ _ _ _ _ h4]; rfl
        · rw [cell_of_row _ _ _ _ _ _ h5]; rfl
        · rw [cell_of_row _ _ _ _ _ _ hB']; rfl
        · rw [cell_of_row _ _ _ _ _ _ hB']; rfl
      have hSx := (FX _ _ _ _ _ S0).1
      have hTx := (FX _ _ _ _ _ S0).2.1
      clear hxl
      go_wp2_with fail
      refine wp_region_noPanic ?_
      refine wp_region_F (fun w' => w'.cell? ⟨w.heap.size + 1, 0, none⟩ = some (.iface ku ky) ∧ w'.cell? ⟨w.heap.size + 2, 0, none⟩ = some (.iface xu xy)) (fun w' => w'.cell? ⟨B, 2, none⟩ = some (.slice A ks.length cap) ∧ w'.cell? ⟨B, 3, none⟩ = some vv) ([0, 1, 2, 3, 4, 6, 7, 10, 11, 12, 14, 15, 18, 19, 20, 21, 22, 23] : List Nat).contains (by kernel_rfl) ?_
      refine wpAnyF_take (i := 0) (oi := _) (v := ?_) rfl (by kernel_rfl) (by kernel_rfl) (by kernel_rfl) (by decide) (fun _ _ _ h => h) (Or.inl ⟨by rfl, ?_⟩) (by assumption) ?_
      rotate_left
      · intro w hSw
        (try dsimp only at hSw)
        go_simp
        all_goals (with_reducible rfl)
      try simp only [Act.put, List.setIfInBounds_toArray, List.set_cons_zero, List.set_cons_succ]
      refine wpAnyF_take (i := 1) (oi := _) (v := ?_) rfl (by kernel_rfl) (by kernel_rfl) (by kernel_rfl) (by decide) (fun _ _ _ h => h) (Or.inl ⟨by rfl, ?_⟩) (by assumption) ?_
      rotate_left
      · intro w hSw
        (try dsimp only at hSw)
        go_simp
        all_goals (with_reducible rfl)
      try simp only [Act.put, List.setIfInBounds_toArray, List.set_cons_zero, List.set_cons_succ]
      refine wpAnyF_take (i := 2) (oi := _) (v := ?_) rfl (by kernel_rfl) (by kernel_rfl) (by kernel_rfl) (by decide) (fun _ _ _ h => h) (Or.inl ⟨by rfl, ?_⟩) (by assumption) ?_
      rotate_left
      · intro w hSw
        (try dsimp only at hSw)
        go_simp
        all_goals (with_reducible rfl)
      try simp only [Act.put, List.setIfInBounds_toArray, List.set_cons_zero, List.set_cons_succ]
      refine wpAnyF_take (i := 3) (oi := _) (v := ?_) rfl (by kernel_rfl) (by kernel_rfl) (by kernel_rfl) (by decide) (fun _ _ _ h => h) (Or.inl ⟨by rfl, ?_⟩) (by assumption) ?_
      rotate_left
      · intro w hSw
        (try dsimp only at hSw)
        go_simp
        all_goals (with_reducible rfl)
      try simp only [Act.put, List.setIfInBounds_toArray, List.set_cons_zero, List.set_cons_succ]
      refine wpAnyF_take (i := 4) (oi := _) (v := ?_) rfl (by kernel_rfl) (by kernel_rfl) (by kernel_rfl) (by decide) (fun _ _ _ h => h) (Or.inl ⟨by rfl, ?_⟩) (by assumption) ?_
      rotate_left
      · intro w hSw
        (try dsimp only at hSw)
        go_simp
        all_goals (with_reducible rfl)
      try simp only [Act.put, List.setIfInBounds_toArray, List.set_cons_zero, List.set_cons_succ]
      refine wpAnyF_take (i := 6) (oi := _) (v := ?_) rfl (by kernel_rfl) (by kernel_rfl) (by kernel_rfl) (by decide) (fun _ _ _ h => h) (Or.inl ⟨by rfl, ?_⟩) (by assumption) ?_
      rotate_left
      · intro w hSw
        (try dsimp only at hSw)
        go_simp
        all_goals (with_reducible rfl)
      try simp only [Act.put, List.setIfInBounds_toArray, List.set_cons_zero, List.set_cons_succ]
      refine wpAnyF_take (i := 7) (oi := _) (v := ?_) rfl (by kernel_rfl) (by kernel_rfl) (by kernel_rfl) (by decide) (fun _ _ _ h => h) (Or.inl ⟨by rfl, ?_⟩) (by assumption) ?_
      rotate_left
      · intro w hSw
        (try dsimp only at hSw)
        go_simp
        all_goals (with_reducible rfl)
      try simp only [Act.put, List.setIfInBounds_toArray, List.set_cons_zero, List.set_cons_succ]
      refine wpAnyF_take (i := 10) (oi := _) (v := ?_) rfl (by kernel_rfl) (by kernel_rfl) (by kernel_rfl) (by decide) (fun _ _ _ h => h) (Or.inl ⟨by rfl, ?_⟩) (by assumption) ?_
      rotate_left
      · intro w hSw
        (try dsimp only at hSw)
        go_simp
        all_goals (with_reducible rfl)
      try simp only [Act.put, List.setIfInBounds_toArray, List.set_cons_zero, List.set_cons_succ]
      refine wpAnyF_take (i := 11) (oi := _) (v := ?_) rfl (by kernel_rfl) (by kernel_rfl) (by kernel_rfl) (by decide) (fun _ _ _ h => h) (Or.inl ⟨by rfl, ?_⟩) (by assumption) ?_
      rotate_left
      · intro w hSw
        (try dsimp only at hSw)
        go_simp
        all_goals (with_reducible rfl)
      try simp only [Act.put, List.setIfInBounds_toArray, List.set_cons_zero, List.set_cons_succ]
      refine wpAnyF_take (i := 12) (oi := _) (v := ?_) rfl (by kernel_rfl) (by kernel_rfl) (by kernel_rfl) (by decide) (fun _ _ _ h => h) (Or.inl ⟨by rfl, ?_⟩) (by assumption) ?_
      rotate_left
      · intro w hSw
        (try dsimp only at hSw)
        go_simp
        all_goals (with_reducible rfl)
      try simp only [Act.put, List.setIfInBounds_toArray, List.set_cons_zero, List.set_cons_succ]
      refine wpAnyF_take (i := 14) (oi := _) (v := ?_) rfl (by kernel_rfl) (by kernel_rfl) (by kernel_rfl) (by decide) (fun _ _ _ h => h) (Or.inl ⟨by rfl, ?_⟩) (by assumption) ?_
      rotate_left
      · intro w hSw
        (try dsimp only at hSw)
        go_simp
        all_goals (with_reducible rfl)
      try simp only [Act.put, List.setIfInBounds_toArray, List.set_cons_zero, List.set_cons_succ]
      refine wpAnyF_take (i := 15) (oi := _) (v := ?_) rfl (by kernel_rfl) (by kernel_rfl) (by kernel_rfl) (by decide) (fun _ _ _ h => h) (Or.inl ⟨by rfl, ?_⟩) (by assumption) ?_
      rotate_left
      · intro w hSw
        (try dsimp only at hSw)
        go_simp
        all_goals (with_reducible rfl)
      try simp only [Act.put, List.setIfInBounds_toArray, List.set_cons_zero, List.set_cons_succ]
      refine wpAnyF_takeT (i := 5) (oi := _) (v := ?_) rfl (by kernel_rfl) (by kernel_rfl) (by kernel_rfl) (by kernel_rfl) (fun _ _ _ h => h) (Or.inl ⟨by rfl, ?_⟩) (by assumption) (by assumption) ?_
      rotate_left
      · intro w hSw
        (try dsimp only at hSw)
        go_simp
        all_goals (with_reducible rfl)
      try simp only [Act.put, List.setIfInBounds_toArray, List.set_cons_zero, List.set_cons_succ]
      refine wpAnyF_takeT (i := 13) (oi := _) (v := ?_) rfl (by kernel_rfl) (by kernel_rfl) (by kernel_rfl) (by kernel_rfl) (fun _ _ _ h => h) (Or.inl ⟨by rfl, ?_⟩) (by assumption) (by assumption) ?_
      rotate_left
      · intro w hSw
        (try dsimp only at hSw)
        go_simp
        all_goals (with_reducible rfl)
      try simp only [Act.put, List.setIfInBounds_toArray, List.set_cons_zero, List.set_cons_succ]
      refine wpAnyF_ready (rs := [8, 16]) (by kernel_rfl) (by simp) (AllReadyF.cons (o := _) rfl (fun K hK => ?_) (AllReadyF.cons (o := _) rfl (fun K hK => ?_) AllReadyF.nil))
      · go_simp
        have NK : St H wr.drew (wr.alloc (.cells #[.iface ku ky] 20)).drew (.slice A ks.length cap) vv (.slice A ks.length cap) vv ks xs := S0.alloc hHd (.cells #[.iface ku ky] 20)
        have hpK : (wr.alloc (.cells #[.iface ku ky] 20)).drew.heap[w.heap.size + 3]? = some (.cells #[.iface ku ky] 20 (0, 0)) := by
          have h0 := heap_alloc_new wr (.cells #[.iface ku ky] 20)
          have hz : wr.heap.size = w.heap.size + 3 := by
            first
              | exact hWz
              | (have hq : wr.heap.size = w.heap.size + 3 := hWz; simp [hq])
          rw [hz] at h0
          exact h0
        have hSx := (FX _ _ _ _ _ NK).1
        have hTx := (FX _ _ _ _ _ NK).2.1
        refine hK.out _ _ hSx (fun _ => hTx) ?_
        clear hK K
        try simp only [Act.put, List.setIfInBounds_toArray, List.set_cons_zero, List.set_cons_succ]
        refine wpAnyF_ready (rs := [9, 16]) (by kernel_rfl) (by simp) (AllReadyF.cons (o := _) rfl (fun K hK => ?_) (AllReadyF.cons (o := _) rfl (fun K hK => ?_) AllReadyF.nil))
        · refine step_append_lies _ rfl _ _ 78 rfl H 20 i0 .nilIface 1 16 Tryz.underlying78 hi0 hz0 hz1 hz2 rfl (by decide) (.slice A ks.length cap) ks.length ks rfl NK.ownK ⟨w.heap.size + 3, 0, none⟩ 1 1 [.iface ku ky] rfl rfl (World.news_of_block hpK) (by simp [Value.oneCell']) (by decide) (by unfold maxLen; omega) (by omega) (by have := NK.bel.size; omega) _ rfl ?_
          intro gK capK XK hownK hgrowK hatK hltK
          have SK := NK.appK hHd hownK hgrowK (by rcases hatK with hat | hat; exact .inl hat; exact .inr (by simp [Value.ownBlock, hat]))
          have hSx := (FX _ _ _ _ _ SK).1
          have hTx := (FX _ _ _ _ _ SK).2.1
          refine hK.out _ _ hSx (fun _ => hTx) ?_
          clear hK K
          try simp only [Act.put, List.setIfInBounds_toArray, List.set_cons_zero, List.set_cons_succ]
          refine wpAnyF_ready (rs := [16]) (by kernel_rfl) (by simp) (AllReadyF.cons (o := _) rfl (fun K hK => ?_) AllReadyF.nil)
          go_simp
          have NV : St H wr.drew (XK.alloc (.cells #[.iface xu xy] 20)) (.slice A ks.length cap) vv (.slice (some ⟨gK, 0, none⟩) (ks.length + 1) capK) vv (ks ++ [.iface ku ky]) xs := SK.alloc hHd (.cells #[.iface xu xy] 20)
          have hpV : (XK.alloc (.cells #[.iface xu xy] 20)).heap[XK.heap.size]? = some (.cells #[.iface xu xy] 20 (0, 0)) := heap_alloc_new XK (.cells #[.iface xu xy] 20)
          have hSx := (FX _ _ _ _ _ NV).1
          have hTx := (FX _ _ _ _ _ NV).2.1
          refine hK.out _ _ hSx (fun _ => hTx) ?_
          clear hK K
          try simp only [Act.put, List.setIfInBounds_toArray, List.set_cons_zero, List.set_cons_succ]
          refine wpAnyF_ready (rs := [17]) (by kernel_rfl) (by simp) (AllReadyF.cons (o := _) rfl (fun K hK => ?_) AllReadyF.nil)
          refine step_append_lies _ rfl _ _ 78 rfl H 20 i0 .nilIface 1 16 Tryz.underlying78 hi0 hz0 hz1 hz2 rfl (by decide) vv xs.length xs rfl NV.ownV ⟨XK.heap.size, 0, none⟩ 1 1 [.iface xu xy] rfl rfl (World.news_of_block hpV) (by simp [Value.oneCell']) (by decide) (by unfold maxLen; omega) (by omega) (by have := NV.bel.size; omega) _ rfl ?_
          intro gV capV XV hownV hgrowV hatV hltV
          have SV := NV.appV hHd hownV hgrowV (by rcases hatV with hat | hat; exact .inl hat; exact .inr (by simp [Value.ownBlock, hat]))
          have hSx := (FX _ _ _ _ _ SV).1
          have hTx := (FX _ _ _ _ _ SV).2.1
          refine hK.out _ _ hSx (fun _ => hTx) ?_
          clear hK K
          try simp only [Act.put, List.setIfInBounds_toArray, List.set_cons_zero, List.set_cons_succ]
          refine wpAnyF_take (i := 18) (oi := _) (v := ?_) rfl (by kernel_rfl) (by kernel_rfl) (by kernel_rfl) (by decide) (fun _ _ _ h => h) (Or.inl ⟨by rfl, ?_⟩) (by assumption) ?_
          rotate_left
          · intro w hSw
            (try dsimp only at hSw)
            go_simp
            all_goals (with_reducible rfl)
          try simp only [Act.put, List.setIfInBounds_toArray, List.set_cons_zero, List.set_cons_succ]
          refine wpAnyF_take (i := 19) (oi := _) (v := ?_) rfl (by kernel_rfl) (by kernel_rfl) (by kernel_rfl) (by decide) (fun _ _ _ h => h) (Or.inl ⟨by rfl, ?_⟩) (by assumption) ?_
          rotate_left
          · intro w hSw
            (try dsimp only at hSw)
            go_simp
            all_goals (with_reducible rfl)
          try simp only [Act.put, List.setIfInBounds_toArray, List.set_cons_zero, List.set_cons_succ]
          obtain ⟨⟨b4, b5⟩, ⟨t2, t3⟩, hBX, z0, h4X, h5X⟩ := FX _ _ _ _ _ SV
          refine wpAnyF_ready (rs := [20]) (by kernel_rfl) (by simp) (AllReadyF.cons (o := _) rfl (fun K hK => ?_) AllReadyF.nil)
          go_simp
          have hBX5 := row_setC hBX 2 (.slice (some ⟨gK, 0, none⟩) (ks.length + 1) capK)
          have h4X5 := (Below.heap_setCell XV ⟨B, 2, none⟩ (.slice (some ⟨gK, 0, none⟩) (ks.length + 1) capK) (w.heap.size + 1) (show w.heap.size + 1 ≠ B by omega)).trans h4X
          have h5X5 := (Below.heap_setCell XV ⟨B, 2, none⟩ (.slice (some ⟨gK, 0, none⟩) (ks.length + 1) capK) (w.heap.size + 2) (show w.heap.size + 2 ≠ B by omega)).trans h5X
          have hS5 : (XV.setCell ⟨B, 2, none⟩ (.slice (some ⟨gK, 0, none⟩) (ks.length + 1) capK)).cell? ⟨w.heap.size + 1, 0, none⟩ = some (.iface ku ky) ∧ (XV.setCell ⟨B, 2, none⟩ (.slice (some ⟨gK, 0, none⟩) (ks.length + 1) capK)).cell? ⟨w.heap.size + 2, 0, none⟩ = some (.iface xu xy) := ⟨by rw [cell_of_row _ _ _ _ _ _ h4X5]; rfl, by rw [cell_of_row _ _ _ _ _ _ h5X5]; rfl⟩
          refine hK.out _ _ hS5 (fun hc => by cases hc) ?_
          clear hK K
          try simp only [Act.put, List.setIfInBounds_toArray, List.set_cons_zero, List.set_cons_succ]
          have t35 : (XV.setCell ⟨B, 2, none⟩ (.slice (some ⟨gK, 0, none⟩) (ks.length + 1) capK)).cell? ⟨B, 3, none⟩ = some vv := by rw [cell_of_row _ _ _ _ _ _ hBX5]; rfl
          have z5 := fun o => frozen_of_row _ B o _ _ hBX5
          refine wpAnyF_take (i := 21) (oi := _) (v := ?_) rfl (by kernel_rfl) (by kernel_rfl) (by kernel_rfl) (by decide) (fun _ _ _ h => h) (Or.inl ⟨by rfl, ?_⟩) (by assumption) ?_
          rotate_left
          · intro w hSw
            (try dsimp only at hSw)
            go_simp
            all_goals (with_reducible rfl)
          try simp only [Act.put, List.setIfInBounds_toArray, List.set_cons_zero, List.set_cons_succ]
          refine wpAnyF_take (i := 22) (oi := _) (v := ?_) rfl (by kernel_rfl) (by kernel_rfl) (by kernel_rfl) (by decide) (fun _ _ _ h => h) (Or.inl ⟨by rfl, ?_⟩) (by assumption) ?_
          rotate_left
          · intro w hSw
            (try dsimp only at hSw)
            go_simp
            all_goals (with_reducible rfl)
          try simp only [Act.put, List.setIfInBounds_toArray, List.set_cons_zero, List.set_cons_succ]
          refine wpAnyF_ready (rs := [23]) (by kernel_rfl) (by simp) (AllReadyF.cons (o := _) rfl (fun K hK => ?_) AllReadyF.nil)
          go_simp
          have hBX6 := row_setC hBX5 3 (.slice (some ⟨gV, 0, none⟩) (xs.length + 1) capV)
          have h4X6 := (Below.heap_setCell (XV.setCell ⟨B, 2, none⟩ (.slice (some ⟨gK, 0, none⟩) (ks.length + 1) capK)) ⟨B, 3, none⟩ (.slice (some ⟨gV, 0, none⟩) (xs.length + 1) capV) (w.heap.size + 1) (show w.heap.size + 1 ≠ B by omega)).trans h4X5
          have h5X6 := (Below.heap_setCell (XV.setCell ⟨B, 2, none⟩ (.slice (some ⟨gK, 0, none⟩) (ks.length + 1) capK)) ⟨B, 3, none⟩ (.slice (some ⟨gV, 0, none⟩) (xs.length + 1) capV) (w.heap.size + 2) (show w.heap.size + 2 ≠ B by omega)).trans h5X5
          refine hK.out _ _ ⟨by rw [cell_of_row _ _ _ _ _ _ h4X6]; rfl, by rw [cell_of_row _ _ _ _ _ _ h5X6]; rfl⟩ (fun hc => by cases hc) ?_
          clear hK K
          refine wpAnyF_done (by kernel_rfl) ?_ _
          refine NoPanic.normal ?_
          go_wp2_with fail
          refine bodyPost_end (results_none rfl _ _ _) rfl ⟨rfl, ?_⟩
          exact set_shut hBH hBltw hWr HXL.out SV hBX6 rfl hWw
        · go_simp
          have NV : St H wr.drew ((wr.alloc (.cells #[.iface ku ky] 20)).alloc (.cells #[.iface xu xy] 20)).drew (.slice A ks.length cap) vv (.slice A ks.length cap) vv ks xs := NK.alloc hHd (.cells #[.iface xu xy] 20)
          have hpV : ((wr.alloc (.cells #[.iface ku ky] 20)).alloc (.cells #[.iface xu xy] 20)).drew.heap[w.heap.size + 3 + 1]? = some (.cells #[.iface xu xy] 20 (0, 0)) := by
            have h0 := heap_alloc_new (wr.alloc (.cells #[.iface ku ky] 20)) (.cells #[.iface xu xy] 20)
            have hz : (wr.alloc (.cells #[.iface ku ky] 20)).heap.size = w.heap.size + 3 + 1 := by
              first
                | exact hWz
                | (have hq : wr.heap.size = w.heap.size + 3 := hWz; simp [hq])
            rw [hz] at h0
            exact h0
          have hpK0 := hpK
          replace hpK : ((wr.alloc (.cells #[.iface ku ky] 20)).alloc (.cells #[.iface xu xy] 20)).drew.heap[w.heap.size + 3]? = _ := (Below.heap_alloc (wr.alloc (.cells #[.iface ku ky] 20)) (.cells #[.iface xu xy] 20) _ (Array.getElem?_eq_some_iff.1 hpK0).1).trans hpK0
          have hSx := (FX _ _ _ _ _ NV).1
          have hTx := (FX _ _ _ _ _ NV).2.1
          refine hK.out _ _ hSx (fun _ => hTx) ?_
          clear hK K
          try simp only [Act.put, List.setIfInBounds_toArray, List.set_cons_zero, List.set_cons_succ]
          refine wpAnyF_ready (rs := [9]) (by kernel_rfl) (by simp) (AllReadyF.cons (o := _) rfl (fun K hK => ?_) AllReadyF.nil)
          refine step_append_lies _ rfl _ _ 78 rfl H 20 i0 .nilIface 1 16 Tryz.underlying78 hi0 hz0 hz1 hz2 rfl (by decide) (.slice A ks.length cap) ks.length ks rfl NV.ownK ⟨w.heap.size + 3, 0, none⟩ 1 1 [.iface ku ky] rfl rfl (World.news_of_block hpK) (by simp [Value.oneCell']) (by decide) (by unfold maxLen; omega) (by omega) (by have := NV.bel.size; omega) _ rfl ?_
          intro gK capK XK hownK hgrowK hatK hltK
          have SK := NV.appK hHd hownK hgrowK (by rcases hatK with hat | hat; exact .inl hat; exact .inr (by simp [Value.ownBlock, hat]))
          replace hpV := (hgrowK.block _ (Array.getElem?_eq_some_iff.1 hpV).1 (fun hc => by have := own_lt S0.ownK hc.symm; have := hWz; omega)).trans hpV
          have hSx := (FX _ _ _ _ _ SK).1
          have hTx := (FX _ _ _ _ _ SK).2.1
          refine hK.out _ _ hSx (fun _ => hTx) ?_
          clear hK K
          try simp only [Act.put, List.setIfInBounds_toArray, List.set_cons_zero, List.set_cons_succ]
          refine wpAnyF_ready (rs := [17]) (by kernel_rfl) (by simp) (AllReadyF.cons (o := _) rfl (fun K hK => ?_) AllReadyF.nil)
          refine step_append_lies _ rfl _ _ 78 rfl H 20 i0 .nilIface 1 16 Tryz.underlying78 hi0 hz0 hz1 hz2 rfl (by decide) vv xs.length xs rfl SK.ownV ⟨w.heap.size + 3 + 1, 0, none⟩ 1 1 [.iface xu xy] rfl rfl (World.news_of_block hpV) (by simp [Value.oneCell']) (by decide) (by unfold maxLen; omega) (by omega) (by have := SK.bel.size; omega) _ rfl ?_
          intro gV capV XV hownV hgrowV hatV hltV
          have SV := SK.appV hHd hownV hgrowV (by rcases hatV with hat | hat; exact .inl hat; exact .inr (by simp [Value.ownBlock, hat]))
          have hSx := (FX _ _ _ _ _ SV).1
          have hTx := (FX _ _ _ _ _ SV).2.1
          refine hK.out _ _ hSx (fun _ => hTx) ?_
          clear hK K
          try simp only [Act.put, List.setIfInBounds_toArray, List.set_cons_zero, List.set_cons_succ]
          refine wpAnyF_take (i := 18) (oi := _) (v := ?_) rfl (by kernel_rfl) (by kernel_rfl) (by kernel_rfl) (by decide) (fun _ _ _ h => h) (Or.inl ⟨by rfl, ?_⟩) (by assumption) ?_
          rotate_left
          · intro w hSw
            (try dsimp only at hSw)
            go_simp
            all_goals (with_reducible rfl)
          try simp only [Act.put, List.setIfInBounds_toArray, List.set_cons_zero, List.set_cons_succ]
          refine wpAnyF_take (i := 19) (oi := _) (v := ?_) rfl (by kernel_rfl) (by kernel_rfl) (by kernel_rfl) (by decide) (fun _ _ _ h => h) (Or.inl ⟨by rfl, ?_⟩) (by assumption) ?_
          rotate_left
          · intro w hSw
            (try dsimp only at hSw)
            go_simp
            all_goals (with_reducible rfl)
          try simp only [Act.put, List.setIfInBounds_toArray, List.set_cons_zero, List.set_cons_succ]
          obtain ⟨⟨b4, b5⟩, ⟨t2, t3⟩, hBX, z0, h4X, h5X⟩ := FX _ _ _ _ _ SV
          refine wpAnyF_ready (rs := [20]) (by kernel_rfl) (by simp) (AllReadyF.cons (o := _) rfl (fun K hK => ?_) AllReadyF.nil)
          go_simp
          have hBX5 := row_setC hBX 2 (.slice (some ⟨gK, 0, none⟩) (ks.length + 1) capK)
          have h4X5 := (Below.heap_setCell XV ⟨B, 2, none⟩ (.slice (some ⟨gK, 0, none⟩) (ks.length + 1) capK) (w.heap.size + 1) (show w.heap.size + 1 ≠ B by omega)).trans h4X
          have h5X5 := (Below.heap_setCell XV ⟨B, 2, none⟩ (.slice (some ⟨gK, 0, none⟩) (ks.length + 1) capK) (w.heap.size + 2) (show w.heap.size + 2 ≠ B by omega)).trans h5X
          have hS5 : (XV.setCell ⟨B, 2, none⟩ (.slice (some ⟨gK, 0, none⟩) (ks.length + 1) capK)).cell? ⟨w.heap.size + 1, 0, none⟩ = some (.iface ku ky) ∧ (XV.setCell ⟨B, 2, none⟩ (.slice (some ⟨gK, 0, none⟩) (ks.length + 1) capK)).cell? ⟨w.heap.size + 2, 0, none⟩ = some (.iface xu xy) := ⟨by rw [cell_of_row _ _ _ _ _ _ h4X5]; rfl, by rw [cell_of_row _ _ _ _ _ _ h5X5]; rfl⟩
          refine hK.out _ _ hS5 (fun hc => by cases hc) ?_
          clear hK K
          try simp only [Act.put, List.setIfInBounds_toArray, List.set_cons_zero, List.set_cons_succ]
          have t35 : (XV.setCell ⟨B, 2, none⟩ (.slice (some ⟨gK, 0, none⟩) (ks.length + 1) capK)).cell? ⟨B, 3, none⟩ = some vv := by rw [cell_of_row _ _ _ _ _ _ hBX5]; rfl
          have z5 := fun o => frozen_of_row _ B o _ _ hBX5
          refine wpAnyF_take (i := 21) (oi := _) (v := ?_) rfl (by kernel_rfl) (by kernel_rfl) (by kernel_rfl) (by decide) (fun _ _ _ h => h) (Or.inl ⟨by rfl, ?_⟩) (by assumption) ?_
          rotate_left
          · intro w hSw
            (try dsimp only at hSw)
            go_simp
            all_goals (with_reducible rfl)
          try simp only [Act.put, List.setIfInBounds_toArray, List.set_cons_zero, List.set_cons_succ]
          refine wpAnyF_take (i := 22) (oi := _) (v := ?_) rfl (by kernel_rfl) (by kernel_rfl) (by kernel_rfl) (by decide) (fun _ _ _ h => h) (Or.inl ⟨by rfl, ?_⟩) (by assumption) ?_
          rotate_left
          · intro w hSw
            (try dsimp only at hSw)
            go_simp
            all_goals (with_reducible rfl)
          try simp only [Act.put, List.setIfInBounds_toArray, List.set_cons_zero, List.set_cons_succ]
          refine wpAnyF_ready (rs := [23]) (by kernel_rfl) (by simp) (AllReadyF.cons (o := _) rfl (fun K hK => ?_) AllReadyF.nil)
          go_simp
          have hBX6 := row_setC hBX5 3 (.slice (some ⟨gV, 0, none⟩) (xs.length + 1) capV)
          have h4X6 := (Below.heap_setCell (XV.setCell ⟨B, 2, none⟩ (.slice (some ⟨gK, 0, none⟩) (ks.length + 1) capK)) ⟨B, 3, none⟩ (.slice (some ⟨gV, 0, none⟩) (xs.length + 1) capV) (w.heap.size + 1) (show w.heap.size + 1 ≠ B by omega)).trans h4X5
          have h5X6 := (Below.heap_setCell (XV.setCell ⟨B, 2, none⟩ (.slice (some ⟨gK, 0, none⟩) (ks.length + 1) capK)) ⟨B, 3, none⟩ (.slice (some ⟨gV, 0, none⟩) (xs.length + 1) capV) (w.heap.size + 2) (show w.heap.size + 2 ≠ B by omega)).trans h5X5
          refine hK.out _ _ ⟨by rw [cell_of_row _ _ _ _ _ _ h4X6]; rfl, by rw [cell_of_row _ _ _ _ _ _ h5X6]; rfl⟩ (fun hc => by cases hc) ?_
          clear hK K
          refine wpAnyF_done (by kernel_rfl) ?_ _
          refine NoPanic.normal ?_
          go_wp2_with fail
          refine bodyPost_end (results_none rfl _ _ _) rfl ⟨rfl, ?_⟩
          exact set_shut hBH hBltw hWr HXL.out SV hBX6 rfl hWw
      · go_simp
        have NV : St H wr.drew (wr.alloc (.cells #[.iface xu xy] 20)).drew (.slice A ks.length cap) vv (.slice A ks.length cap) vv ks xs := S0.alloc hHd (.cells #[.iface xu xy] 20)
        have hpV : (wr.alloc (.cells #[.iface xu xy] 20)).drew.heap[w.heap.size + 3]? = some (.cells #[.iface xu xy] 20 (0, 0)) := by
          have h0 := heap_alloc_new wr (.cells #[.iface xu xy] 20)
          have hz : wr.heap.size = w.heap.size + 3 := by
            first
              | exact hWz
              | (have hq : wr.heap.size = w.heap.size + 3 := hWz; simp [hq])
          rw [hz] at h0
          exact h0
        have hSx := (FX _ _ _ _ _ NV).1
        have hTx := (FX _ _ _ _ _ NV).2.1
        refine hK.out _ _ hSx (fun _ => hTx) ?_
        clear hK K
        try simp only [Act.put, List.setIfInBounds_toArray, List.set_cons_zero, List.set_cons_succ]
        refine wpAnyF_ready (rs := [8]) (by kernel_rfl) (by simp) (AllReadyF.cons (o := _) rfl (fun K hK => ?_) AllReadyF.nil)
        go_simp
        have NK : St H wr.drew ((wr.alloc (.cells #[.iface xu xy] 20)).alloc (.cells #[.iface ku ky] 20)).drew (.slice A ks.length cap) vv (.slice A ks.length cap) vv ks xs := NV.alloc hHd (.cells #[.iface ku ky] 20)
        have hpK : ((wr.alloc (.cells #[.iface xu xy] 20)).alloc (.cells #[.iface ku ky] 20)).drew.heap[w.heap.size + 3 + 1]? = some (.cells #[.iface ku ky] 20 (0, 0)) := by
          have h0 := heap_alloc_new (wr.alloc (.cells #[.iface xu xy] 20)) (.cells #[.iface ku ky] 20)
          have hz : (wr.alloc (.cells #[.iface xu xy] 20)).heap.size = w.heap.size + 3 + 1 := by
            first
              | exact hWz
              | (have hq : wr.heap.size = w.heap.size + 3 := hWz; simp [hq])
          rw [hz] at h0
          exact h0
        have hpV0 := hpV
        replace hpV : ((wr.alloc (.cells #[.iface xu xy] 20)).alloc (.cells #[.iface ku ky] 20)).drew.heap[w.heap.size + 3]? = _ := (Below.heap_alloc (wr.alloc (.cells #[.iface xu xy] 20)) (.cells #[.iface ku ky] 20) _ (Array.getElem?_eq_some_iff.1 hpV0).1).trans hpV0
        have hSx := (FX _ _ _ _ _ NK).1
        have hTx := (FX _ _ _ _ _ NK).2.1
        refine hK.out _ _ hSx (fun _ => hTx) ?_
        clear hK K
        try simp only [Act.put, List.setIfInBounds_toArray, List.set_cons_zero, List.set_cons_succ]
        refine wpAnyF_ready (rs := [9]) (by kernel_rfl) (by simp) (AllReadyF.cons (o := _) rfl (fun K hK => ?_) AllReadyF.nil)
        refine step_append_lies _ rfl _ _ 78 rfl H 20 i0 .nilIface 1 16 Tryz.underlying78 hi0 hz0 hz1 hz2 rfl (by decide) (.slice A ks.length cap) ks.length ks rfl NK.ownK ⟨w.heap.size + 3 + 1, 0, none⟩ 1 1 [.iface ku ky] rfl rfl (World.news_of_block hpK) (by simp [Value.oneCell']) (by decide) (by unfold maxLen; omega) (by omega) (by have := NK.bel.size; omega) _ rfl ?_
        intro gK capK XK hownK hgrowK hatK hltK
        have SK := NK.appK hHd hownK hgrowK (by rcases hatK with hat | hat; exact .inl hat; exact .inr (by simp [Value.ownBlock, hat]))
        replace hpV := (hgrowK.block _ (Array.getElem?_eq_some_iff.1 hpV).1 (fun hc => by have := own_lt S0.ownK hc.symm; have := hWz; omega)).trans hpV
        have hSx := (FX _ _ _ _ _ SK).1
        have hTx := (FX _ _ _ _ _ SK).2.1
        refine hK.out _ _ hSx (fun _ => hTx) ?_
        clear hK K
        try simp only [Act.put, List.setIfInBounds_toArray, List.set_cons_zero, List.set_cons_succ]
        refine wpAnyF_ready (rs := [17]) (by kernel_rfl) (by simp) (AllReadyF.cons (o := _) rfl (fun K hK => ?_) AllReadyF.nil)
        refine step_append_lies _ rfl _ _ 78 rfl H 20 i0 .nilIface 1 16 Tryz.underlying78 hi0 hz0 hz1 hz2 rfl (by decide) vv xs.length xs rfl SK.ownV ⟨w.heap.size + 3, 0, none⟩ 1 1 [.iface xu xy] rfl rfl (World.news_of_block hpV) (by simp [Value.oneCell']) (by decide) (by unfold maxLen; omega) (by omega) (by have := SK.bel.size; omega) _ rfl ?_
        intro gV capV XV hownV hgrowV hatV hltV
        have SV := SK.appV hHd hownV hgrowV (by rcases hatV with hat | hat; exact .inl hat; exact .inr (by simp [Value.ownBlock, hat]))
        have hSx := (FX _ _ _ _ _ SV).1
        have hTx := (FX _ _ _ _ _ SV).2.1
        refine hK.out _ _ hSx (fun _ => hTx) ?_
        clear hK K
        try simp only [Act.put, List.setIfInBounds_toArray, List.set_cons_zero, List.set_cons_succ]
        refine wpAnyF_take (i := 18) (oi := _) (v := ?_) rfl (by kernel_rfl) (by kernel_rfl) (by kernel_rfl) (by decide) (fun _ _ _ h => h) (Or.inl ⟨by rfl, ?_⟩) (by assumption) ?_
        rotate_left
        · intro w hSw
          (try dsimp only at hSw)
          go_simp
          all_goals (with_reducible rfl)
        try simp only [Act.put, List.setIfInBounds_toArray, List.set_cons_zero, List.set_cons_succ]
        refine wpAnyF_take (i := 19) (oi := _) (v := ?_) rfl (by kernel_rfl) (by kernel_rfl) (by kernel_rfl) (by decide) (fun _ _ _ h => h) (Or.inl ⟨by rfl, ?_⟩) (by assumption) ?_
        rotate_left
        · intro w hSw
          (try dsimp only at hSw)
          go_simp
          all_goals (with_reducible rfl)
        try simp only [Act.put, List.setIfInBounds_toArray, List.set_cons_zero, List.set_cons_succ]
        obtain ⟨⟨b4, b5⟩, ⟨t2, t3⟩, hBX, z0, h4X, h5X⟩ := FX _ _ _ _ _ SV
        refine wpAnyF_ready (rs := [20]) (by kernel_rfl) (by simp) (AllReadyF.cons (o := _) rfl (fun K hK => ?_) AllReadyF.nil)
        go_simp
        have hBX5 := row_setC hBX 2 (.slice (some ⟨gK, 0, none⟩) (ks.length + 1) capK)
        have h4X5 := (Below.heap_setCell XV ⟨B, 2, none⟩ (.slice (some ⟨gK, 0, none⟩) (ks.length + 1) capK) (w.heap.size + 1) (show w.heap.size + 1 ≠ B by omega)).trans h4X
        have h5X5 := (Below.heap_setCell XV ⟨B, 2, none⟩ (.slice (some ⟨gK, 0, none⟩) (ks.length + 1) capK) (w.heap.size + 2) (show w.heap.size + 2 ≠ B by omega)).trans h5X
        have hS5 : (XV.setCell ⟨B, 2, none⟩ (.slice (some ⟨gK, 0, none⟩) (ks.length + 1) capK)).cell? ⟨w.heap.size + 1, 0, none⟩ = some (.iface ku ky) ∧ (XV.setCell ⟨B, 2, none⟩ (.slice (some ⟨gK, 0, none⟩) (ks.length + 1) capK)).cell? ⟨w.heap.size + 2, 0, none⟩ = some (.iface xu xy) := ⟨by rw [cell_of_row _ _ _ _ _ _ h4X5]; rfl, by rw [cell_of_row _ _ _ _ _ _ h5X5]; rfl⟩
        refine hK.out _ _ hS5 (fun hc => by cases hc) ?_
        clear hK K
        try simp only [Act.put, List.setIfInBounds_toArray, List.set_cons_zero, List.set_cons_succ]
        have t35 : (XV.setCell ⟨B, 2, none⟩ (.slice (some ⟨gK, 0, none⟩) (ks.length + 1) capK)).cell? ⟨B, 3, none⟩ = some vv := by rw [cell_of_row _ _ _ _ _ _ hBX5]; rfl
        have z5 := fun o => frozen_of_row _ B o _ _ hBX5
        refine wpAnyF_take (i := 21) (oi := _) (v := ?_) rfl (by kernel_rfl) (by kernel_rfl) (by kernel_rfl) (by decide) (fun _ _ _ h => h) (Or.inl ⟨by rfl, ?_⟩) (by assumption) ?_
        rotate_left
        · intro w hSw
          (try dsimp only at hSw)
          go_simp
          all_goals (with_reducible rfl)
        try simp only [Act.put, List.setIfInBounds_toArray, List.set_cons_zero, List.set_cons_succ]
        refine wpAnyF_take (i := 22) (oi := _) (v := ?_) rfl (by kernel_rfl) (by kernel_rfl) (by kernel_rfl) (by decide) (fun _ _ _ h => h) (Or.inl ⟨by rfl, ?_⟩) (by assumption) ?_
        rotate_left
        · intro w hSw
          (try dsimp only at hSw)
          go_simp
          all_goals (with_reducible rfl)
        try simp only [Act.put, List.setIfInBounds_toArray, List.set_cons_zero, List.set_cons_succ]
        refine wpAnyF_ready (rs := [23]) (by kernel_rfl) (by simp) (AllReadyF.cons (o := _) rfl (fun K hK => ?_) AllReadyF.nil)
        go_simp
        have hBX6 := row_setC hBX5 3 (.slice (some ⟨gV, 0, none⟩) (xs.length + 1) capV)
        have h4X6 := (Below.heap_setCell (XV.setCell ⟨B, 2, none⟩ (.slice (some ⟨gK, 0, none⟩) (ks.length + 1) capK)) ⟨B, 3, none⟩ (.slice (some ⟨gV, 0, none⟩) (xs.length + 1) capV) (w.heap.size + 1) (show w.heap.size + 1 ≠ B by omega)).trans h4X5
        have h5X6 := (Below.heap_setCell (XV.setCell ⟨B, 2, none⟩ (.slice (some ⟨gK, 0, none⟩) (ks.length + 1) capK)) ⟨B, 3, none⟩ (.slice (some ⟨gV, 0, none⟩) (xs.length + 1) capV) (w.heap.size + 2) (show w.heap.size + 2 ≠ B by omega)).trans h5X5
        refine hK.out _ _ ⟨by rw [cell_of_row _ _ _ _ _ _ h4X6]; rfl, by rw [cell_of_row _ _ _ _ _ _ h5X6]; rfl⟩ (fun hc => by cases hc) ?_
        clear hK K
        refine wpAnyF_done (by kernel_rfl) ?_ _
        refine NoPanic.normal ?_
        go_wp2_with fail
        refine bodyPost_end (results_none rfl _ _ _) rfl ⟨rfl, ?_⟩
        exact set_shut hBH hBltw hWr HXL.out SV hBX6 rfl hWw
end Go.Proofs.YtjbpphomlmlmaaaGreatDoor
