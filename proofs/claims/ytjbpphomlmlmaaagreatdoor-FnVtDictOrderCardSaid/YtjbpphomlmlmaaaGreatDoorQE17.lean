/- What valIn answers: the same tree in new memory. -/
import Derived.Test.YtjbpphomlmlmaaaGreatDoorQE13
namespace Go.Proofs.YtjbpphomlmlmaaaGreatDoor
open Go.RowKit
set_option linter.unusedVariables false
set_option linter.unusedSimpArgs false
theorem info44 : (Tryz.prog.info? 44).map (fun i => (i.zero, i.size, i.bytes)) = some (some (.agg #[.int .u8 0, .int .u64 0, .string ByteArray.empty, .slice none 0 0]), 4, 56) := by kernel_rfl
theorem Rep.form {S : Nat → Prop} {w : World} {v : V} {y : Value} (h : Rep S w v y) : ∃ A cap, y = .agg #[.int .u8 v.k, .int .u64 v.n, .string v.s, .slice A v.kids.length cap] := by
  obtain ⟨k, n, s, l⟩ := v
  simp only [Rep] at h
  obtain ⟨A, cap, rfl, _⟩ := h
  exact ⟨A, cap, rfl⟩
/-- The cells of a row of values. -/
def RL (S : Nat → Prop) (w : World) : List V → List Value → Prop
  | [], xs => xs = []
  | v :: vs, xs => ∃ c0 c1 c2 c3 r, xs = c0 :: c1 :: c2 :: c3 :: r ∧ Rep S w v (.agg #[c0, c1, c2, c3]) ∧ RL S w vs r
theorem RL.keep {S S' : Nat → Prop} {w w' : World} (h : ∀ b, b < w.heap.size → S b → w'.heap[b]? = w.heap[b]? ∧ S' b) (hs : w.heap.size ≤ w'.heap.size) : ∀ {vs : List V} {xs : List Value}, RL S w vs xs → RL S' w' vs xs
  | [], _, hr => hr
  | v :: vs, xs, hr => by
    simp only [RL] at hr ⊢
    obtain ⟨c0, c1, c2, c3, r, h1, h2, h3⟩ := hr
    exact ⟨c0, c1, c2, c3, r, h1, ((h2.mono (fun b hb hS => (show S b ∧ S' b from ⟨hS, (h b hb hS).2⟩))).keep (fun b hb hS => (h b hb hS.1).1)).mono (fun b _ hS => hS.2), RL.keep h hs h3⟩
theorem RL.snoc {S : Nat → Prop} {w : World} {c : V} {c0 c1 c2 c3 : Value} (hc : Rep S w c (.agg #[c0, c1, c2, c3])) : ∀ {vs : List V} {xs : List Value}, RL S w vs xs → RL S w (vs ++ [c]) (xs ++ [c0, c1, c2, c3])
  | [], _, hr => by
    simp only [RL] at hr
    subst hr
    exact ⟨c0, c1, c2, c3, [], rfl, hc, rfl⟩
  | v :: vs, xs, hr => by
    simp only [RL] at hr
    obtain ⟨d0, d1, d2, d3, r, rfl, h2, h3⟩ := hr
    exact ⟨d0, d1, d2, d3, r ++ [c0, c1, c2, c3], rfl, h2, RL.snoc hc h3⟩
theorem RL.reps {S : Nat → Prop} {w : World} {g : Nat} (hS : S g) : ∀ {vs : List V} {xs : List Value} {i : Nat}, RL S w vs xs → (∀ j u, xs[j]? = some u → w.cell? ⟨g, i * 4 + j, none⟩ = some u) → Reps S w vs (some ⟨g, 0, none⟩) i
  | [], _, _, _, _ => by simp only [Reps]
  | v :: vs, xs, i, hr, hc => by
    simp only [RL] at hr
    obtain ⟨d0, d1, d2, d3, r, rfl, h2, h3⟩ := hr
    simp only [Reps]
    refine ⟨⟨g, 0, d0, d1, d2, d3, rfl, hS, ?_, ?_, ?_, ?_, h2⟩, RL.reps hS h3 fun j u hj => ?_⟩
    · simpa using hc 0 d0 rfl
    · simpa using hc 1 d1 rfl
    · simpa using hc 2 d2 rfl
    · simpa using hc 3 d3 rfl
    · have := hc (j + 4) u (by simpa using hj)
      rw [show (i + 1) * 4 + j = i * 4 + (j + 4) by omega]
      exact this
theorem own_reps {w : World} {base : Nat} {v : Value} {vs : List V} {xs : List Value} (h : w.ownsRow base 44 4 v vs.length xs) (hr : RL (fun b => base ≤ b) w vs xs) :
    ∃ A cap, v = .slice A vs.length cap ∧ vs.length ≤ cap ∧ cap ≤ maxLen ∧ Reps (fun b => base ≤ b) w vs A 0 := by
  rcases h.2 with ⟨rfl, h0⟩ | ⟨g, cap, cur, rfl, hb, hg, hn, hc, _⟩
  · obtain rfl : vs = [] := List.eq_nil_of_length_eq_zero h0
    exact ⟨none, 0, rfl, Nat.le_refl _, by unfold maxLen; omega, by simp only [Reps]⟩
  · refine ⟨_, cap, rfl, hn, hc, hr.reps hb fun j u hj => ?_⟩
    have hj4 : j < vs.length * 4 := by rw [← h.1]; exact (List.getElem?_eq_some_iff.1 hj).1
    have := h.cellAt j hj4
    simp only [Nat.zero_mul, Nat.zero_add]
    rw [this]
    exact hj
/-- A row of values that grows, its slice held in a variable of block B. -/
structure Bv (H B : Nat) (k n : Int) (s : ByteArray) (w wr : World) (vs : List V) (v : Value) (xs : List Value) : Prop where
  own : wr.ownsRow H 44 4 v vs.length xs
  var : wr.heap[B]? = some (.cells #[.int .u8 k, .int .u64 n, .string s, v] 44 (0, 0))
  ars : RL (fun b => H ≤ b ∧ v.ownBlock ≠ some b) wr vs xs
  bel : Below w.heap.size w wr
  lo : w.heap.size ≤ B
  hi : B < H
  sz : H ≤ wr.heap.size
  ret : wr.heap[w.heap.size + 1]? = some (.cells #[.int .u8 0, .int .u64 0, .string { data := #[] }, .slice none 0 0] 44 (0, 0))
  rB : B = w.heap.size + 2
theorem Bv.next {H B : Nat} {k n : Int} {s : ByteArray} {w wr w1 w2 w4 : World} {vs : List V} {v v' : Value} {xs : List Value} {c : V} {c0 c1 c2 c3 : Value} (h : Bv H B k n s w wr vs v xs)
    (hb1 : Below wr.heap.size wr w1) (hA : Rep (fun b => w1.heap.size ≤ b) w2 c (.agg #[c0, c1, c2, c3])) (hb2 : Below w1.heap.size w1 w2)
    (hown : w4.ownsRow H 44 4 v' (vs.length + 1) (xs ++ [c0, c1, c2, c3])) (hg : (w2.alloc (.cells #[c0, c1, c2, c3] 44)).grownBy w4 v.ownBlock) (ha : v'.ownBlock = v.ownBlock ∨ v'.ownBlock = some (w2.alloc (.cells #[c0, c1, c2, c3] 44)).heap.size) : Bv H B k n s w (w4.setCell ⟨B, 3, none⟩ v') (vs ++ [c]) v' (xs ++ [c0, c1, c2, c3]) := by
  have hs1 := hb1.size
  have hs2 := hb2.size
  have hs3 : (w2.alloc (.cells #[c0, c1, c2, c3] 44)).heap.size = w2.heap.size + 1 := by simp
  have hsg := hg.size
  have hBlt : B < wr.heap.size := (Array.getElem?_eq_some_iff.1 h.var).1
  have hvB : v.ownBlock ≠ some B := fun hc => by have := own_base' h.own hc; have := h.hi; omega
  have hb12 := below_then hb1 hb1.size hb2
  have keep : ∀ b, b < wr.heap.size → v.ownBlock ≠ some b → b ≠ B → (w4.setCell ⟨B, 3, none⟩ v').heap[b]? = wr.heap[b]? := fun b hb hv hne => by
    rw [Below.heap_setCell w4 ⟨B, 3, none⟩ v' b hne, hg.block b (by omega) (fun hc => hv hc.symm), Below.heap_alloc w2 _ b (by omega)]
    exact hb12.block b hb
  have keep2 : ∀ b, b < w2.heap.size → w1.heap.size ≤ b → (w4.setCell ⟨B, 3, none⟩ v').heap[b]? = w2.heap[b]? := fun b hb hv => by
    rw [Below.heap_setCell w4 ⟨B, 3, none⟩ v' b (show b ≠ B by omega), hg.block b (by omega) (fun hc => by have := own_lt h.own hc.symm; omega), Below.heap_alloc w2 _ b (by omega)]
  have hsize : (w4.setCell ⟨B, 3, none⟩ v').heap.size = w4.heap.size := by simp [World.setCell]
  refine ⟨?_, ?_, ?_, ?_, h.lo, h.hi, ?_, ?_, h.rB⟩
  · rw [List.length_append]
    exact own_set hown B 3 v' (fun hc => by
      rcases ha with ha | ha
      · rw [ha] at hc; exact hvB hc
      · rw [ha] at hc; have := Option.some.inj hc; omega)
  · have hB4 : w4.heap[B]? = some (.cells #[.int .u8 k, .int .u64 n, .string s, v] 44 (0, 0)) := by
      rw [hg.block B (by omega) (fun hc => hvB hc.symm), Below.heap_alloc w2 _ B (by omega), hb12.block B hBlt]
      exact h.var
    have := row_setC hB4 3 v'
    simpa using this
  · refine RL.snoc ?_ (h.ars.keep (fun b hb hS => ⟨keep b hb hS.2 (by have := h.hi; omega), hS.1, ?_⟩) (by omega))
    · refine ((hA.mono (fun b hb hS => (show w1.heap.size ≤ b ∧ b < w2.heap.size from ⟨hS, hb⟩))).keep (fun b hb hS => keep2 b hb hS.1)).mono fun b hb hS => ⟨by have := h.sz; omega, ?_⟩
      rcases ha with ha | ha
      · rw [ha]; intro hc; have := own_lt h.own hc; omega
      · rw [ha]; intro hc; have := Option.some.inj hc; omega
    · rcases ha with ha | ha
      · rw [ha]; exact hS.2
      · rw [ha]; intro hc; have := Option.some.inj hc; omega
  · have hlo := h.lo
    exact ((((h.bel.trans (hb12.mono h.bel.size)).alloc (by have := h.bel.size; omega) _).grown hg (by have := h.bel.size; omega) (fun k hk => by have := own_base' h.own hk; have := h.hi; omega)).setCell (p := ⟨B, 3, none⟩) hlo _)
  · have := h.sz; omega
  · have hrb := h.rB
    have hhi := h.hi
    refine (keep (w.heap.size + 1) (by omega) (fun hc => ?_) (by omega)).trans h.ret
    have := own_base' h.own hc; omega
theorem Bv.mid {H B : Nat} {k n : Int} {s : ByteArray} {w wr w1 w2 w4 : World} {vs : List V} {v : Value} {xs : List Value} {o' : Obj} (h : Bv H B k n s w wr vs v xs)
    (hb1 : Below wr.heap.size wr w1) (hb2 : Below w1.heap.size w1 w2) (hg : (w2.alloc o').grownBy w4 v.ownBlock) (b : Nat) (o : Obj) (hb : b < w1.heap.size) (hv : v.ownBlock ≠ some b) (ho : w1.heap[b]? = some o) : w4.heap[b]? = some o := by
  have hs2 := hb2.size
  have hs3 : (w2.alloc o').heap.size = w2.heap.size + 1 := by simp
  rw [hg.block b (by omega) (fun hc => hv hc.symm), Below.heap_alloc w2 _ b (by omega), hb2.block b hb, ho]
def ViR (v : V) (w : World) (e : Ending) (w' : World) : Prop := ∃ y, e = .returned y ∧ Rep (fun b => w.heap.size ≤ b) w' v y ∧ Below w.heap.size w w'
def ViOk (v : V) : Prop := ∀ (S : Nat → Prop) (x : Value) (w : World), Rep S w v x → Calls Tryz.prog 20 #[x] w (ViR v w)
set_option maxRecDepth 100000 in
set_option maxHeartbeats 6400000 in
theorem vi_step (k n : Int) (s : ByteArray) (kids : List V) (hlen : kids.length ≤ 1000) (ih : ∀ c ∈ kids, ViOk c) : ViOk (.mk k n s kids) := by
  obtain ⟨i0, hi0, hz0, hz1, hz2⟩ := info_parts info44
  intro S x w hr
  simp only [Rep] at hr
  obtain ⟨A, cap, rfl, h1, h2, hk0, hn0, hs0, hkids⟩ := hr
  have hB0 : Bv (w.heap.size + 3) (w.heap.size + 2) k n s w (((w.alloc (.cells #[.int .u8 k, .int .u64 n, .string s, .slice A kids.length cap] 25)).alloc (.cells #[.int .u8 0, .int .u64 0, .string { data := #[] }, .slice none 0 0] 44)).alloc (.cells #[.int .u8 k, .int .u64 n, .string s, .slice none 0 0] 44)) [] (.slice none 0 0) [] := by
    refine ⟨World.ownsRow_nil _ _ _ _, ?_, rfl, (((Below.refl _ _).alloc (Nat.le_refl _) _).alloc (by simp) _).alloc (by simp; omega) _, by omega, by omega, by simp, ?_, rfl⟩
    rotate_left
    · rw [Below.heap_alloc _ _ _ (by simp)]
      have := heap_alloc_new (w.alloc (.cells #[.int .u8 k, .int .u64 n, .string s, .slice A kids.length cap] 25)) (.cells #[.int .u8 0, .int .u64 0, .string { data := #[] }, .slice none 0 0] 44)
      simpa using this
    have := heap_alloc_new ((w.alloc (.cells #[.int .u8 k, .int .u64 n, .string s, .slice A kids.length cap] 25)).alloc (.cells #[.int .u8 0, .int .u64 0, .string { data := #[] }, .slice none 0 0] 44)) (.cells #[.int .u8 k, .int .u64 n, .string s, .slice none 0 0] 44)
    simpa using this
  go_enter Tryz.func20, Tryz.ntmps20
  go_wp2_with fail
  go_loopw [16] (fun i wr => ∃ (j : Nat) (vs : List V) (v : Value) (xs : List Value), j ≤ kids.length ∧ i = .int .i64 j ∧ vs = kids.take j ∧ Bv (w.heap.size + 3) (w.heap.size + 2) k n s w wr vs v xs) (fun i _ => kids.length - (intOf i).toNat)
  case atStart => exact ⟨0, _, _, _, Nat.zero_le _, rfl, rfl, by simpa using hB0⟩
  case round =>
    clear hB0
    obtain ⟨j, vs, v, xs, hj, rfl, hvs, hB⟩ := hrel
    have hvl : vs.length = j := by rw [hvs, List.length_take, Nat.min_eq_left hj]
    have hbsz := hB.sz
    by_cases hlt : j < kids.length
    · have hltk : decide (j < kids.length) = true := by simp; omega
      have hyl2 : vs.length ≤ 1000 := by omega
      have HVL := Lib.hid hvl
      have HVS := Lib.hid hvs.symm
      clear hvl hvs
      obtain ⟨b, o, A', cap', rfl, _, k0, k1, k2, k3, hv⟩ := (hkids.keep fun b hlt _ => hB.bel.block b hlt).kid j hlt
      have hcin : kids[j] ∈ kids := List.getElem_mem hlt
      have hih := ih _ hcin
      generalize hc : kids[j] = c at *
      have hb1 : Below wr.heap.size wr (wr.alloc (.cells #[.int .u8 c.k, .int .u64 c.n, .string c.s, .slice A' c.kids.length cap'] 25)).drew := ((Below.refl _ _).alloc (Nat.le_refl _) _).drew
      have hcall := hih _ _ _ (hv.below hb1)
      have HC := Lib.hid hc
      have hBlt : w.heap.size + 2 < wr.heap.size := (Array.getElem?_eq_some_iff.1 hB.var).1
      have hvB : v.ownBlock ≠ some (w.heap.size + 2) := fun hc => by have := own_base' hB.own hc; omega
      have q1 : (wr.alloc (.cells #[.int .u8 c.k, .int .u64 c.n, .string c.s, .slice A' c.kids.length cap'] 25)).drew.heap[wr.heap.size]? = some (.cells #[.int .u8 c.k, .int .u64 c.n, .string c.s, .slice A' c.kids.length cap'] 25 (0, 0)) := heap_alloc_new wr _
      have v1 := (hb1.block (w.heap.size + 2) hBlt).trans hB.var
      have r1 : (wr.alloc (.cells #[.int .u8 c.k, .int .u64 c.n, .string c.s, .slice A' c.kids.length cap'] 25)).drew.cell? ⟨w.heap.size + 2, 3, none⟩ = some v := by rw [cell_of_row _ _ _ _ _ _ v1]; rfl
      clear hc hcin hih
      go_wp2_with fail
      refine wp_region_held_drew (S := fun w' => w'.cell? ⟨wr.heap.size, 0, none⟩ = some (.int .u8 c.k) ∧ w'.cell? ⟨wr.heap.size, 1, none⟩ = some (.int .u64 c.n) ∧ w'.cell? ⟨wr.heap.size, 2, none⟩ = some (.string c.s) ∧ w'.cell? ⟨wr.heap.size, 3, none⟩ = some (.slice A' c.kids.length cap')) (by kernel_rfl) (kid_cells q1) (fun hHeld => ?_)
      refine wpAnyH_take (i := 0) (oi := _) (v := ?_) rfl (by kernel_rfl) (by kernel_rfl) (by kernel_rfl) (fun _ _ _ h => h) (Or.inl ⟨by rfl, ?_⟩) (by assumption) ?_
      rotate_left
      · intro w hSw
        (try dsimp only at hSw)
        go_simp
        all_goals (with_reducible rfl)
      try simp only [Act.put, List.setIfInBounds_toArray, List.set_cons_zero, List.set_cons_succ]
      refine wpAnyH_take (i := 2) (oi := _) (v := ?_) rfl (by kernel_rfl) (by kernel_rfl) (by kernel_rfl) (fun _ _ _ h => h) (Or.inl ⟨by rfl, ?_⟩) (by assumption) ?_
      rotate_left
      · intro w hSw
        (try dsimp only at hSw)
        go_simp
        all_goals (with_reducible rfl)
      try simp only [Act.put, List.setIfInBounds_toArray, List.set_cons_zero, List.set_cons_succ]
      refine wpAnyH_ready (rs := [1, 3]) (by kernel_rfl) (by simp) (AllReadyH.cons (o := _) rfl (fun K hK => ?_) (AllReadyH.cons (o := _) rfl (fun K hK => ?_) AllReadyH.nil))
      · go_simp
        refine hK.out _ _ (kid_cells q1) (fun hHeld => ?_)
        clear hK K
        try simp only [Act.put, List.setIfInBounds_toArray, List.set_cons_zero, List.set_cons_succ]
        refine wpAnyH_ready (rs := [3]) (by kernel_rfl) (by simp) (AllReadyH.cons (o := _) rfl (fun K hK => ?_) AllReadyH.nil)
        go_simp
        refine hcall.mono ?_
        rintro _ w2 ⟨y, rfl, hA, hb2⟩
        obtain ⟨A3, cap3, rfl⟩ := hA.form
        have q2 := (hb2.block wr.heap.size (by simp)).trans q1
        have v2 := (hb2.block (w.heap.size + 2) (by have := hBlt; have := hb1.size; omega)).trans v1
        have v3 := (Below.heap_alloc w2 (.cells #[.int .u8 c.k, .int .u64 c.n, .string c.s, .slice A3 c.kids.length cap3] 44) _ (Array.getElem?_eq_some_iff.1 v2).1).trans v2
        have q3 := (Below.heap_alloc w2 (.cells #[.int .u8 c.k, .int .u64 c.n, .string c.s, .slice A3 c.kids.length cap3] 44) _ (Array.getElem?_eq_some_iff.1 q2).1).trans q2
        have r2 : w2.cell? ⟨w.heap.size + 2, 3, none⟩ = some v := by rw [cell_of_row _ _ _ _ _ _ v2]; rfl
        have r3 : (w2.alloc (.cells #[.int .u8 c.k, .int .u64 c.n, .string c.s, .slice A3 c.kids.length cap3] 44)).cell? ⟨w.heap.size + 2, 3, none⟩ = some v := by rw [cell_of_row _ _ _ _ _ _ v3]; rfl
        have hown3 : (w2.alloc (.cells #[.int .u8 c.k, .int .u64 c.n, .string c.s, .slice A3 c.kids.length cap3] 44)).ownsRow (w.heap.size + 3) 44 4 v vs.length xs := own_keep hB.own (fun b hb => by rw [Below.heap_alloc w2 _ b (by have := hb1.size; have := hb2.size; omega), hb2.block b (by have := hb1.size; omega), hb1.block b hb])
        have hsz2 : w.heap.size + 3 ≤ w2.heap.size := by have := hb1.size; have := hb2.size; have := hB.sz; omega
        refine hK.out _ _ (kid_cells q2) (fun hHeld => ?_)
        clear hK K
        try simp only [Act.put, List.setIfInBounds_toArray, List.set_cons_zero, List.set_cons_succ]
        refine wpAnyH_ready (rs := [4]) (by kernel_rfl) (by simp) (AllReadyH.cons (o := _) rfl (fun K hK => ?_) AllReadyH.nil)
        go_simp
        refine hK.out _ _ (kid_cells q3) (fun hHeld => ?_)
        clear hK K
        try simp only [Act.put, List.setIfInBounds_toArray, List.set_cons_zero, List.set_cons_succ]
        refine wpAnyH_ready (rs := [5]) (by kernel_rfl) (by simp) (AllReadyH.cons (o := _) rfl (fun K hK => ?_) AllReadyH.nil)
        refine step_append_lies _ rfl _ _ 42 rfl (w.heap.size + 3) 44 i0 _ 4 56 Tryz.underlying42 hi0 hz0 hz1 hz2 rfl (by decide) v vs.length xs rfl hown3 ⟨_, 0, none⟩ 1 1 [.int .u8 c.k, .int .u64 c.n, .string c.s, .slice A3 c.kids.length cap3] rfl rfl (World.news_of_block (heap_alloc_new w2 _)) (by simp [Value.oneCell']) (by decide) (by unfold maxLen; omega) (by omega) (by simp; omega) _ rfl ?_
        intro g cap4 w4 hown4 hgrow hat hlt4
        have c4 := hB.mid hb1 hb2 hgrow (w.heap.size + 2) _ (by have := hBlt; have := hb1.size; omega) hvB v1
        have e4 := hB.mid hb1 hb2 hgrow wr.heap.size _ (by simp) (fun hc => Nat.lt_irrefl _ (own_lt hB.own hc)) q1
        have s4 : w4.cell? ⟨w.heap.size + 2, 3, none⟩ = some v := by rw [cell_of_row _ _ _ _ _ _ c4]; rfl
        have z4 := frozen_of_row w4 (w.heap.size + 2) 3 _ _ c4
        refine hK.out _ _ (kid_cells e4) (fun hHeld => ?_)
        clear hK K
        try simp only [Act.put, List.setIfInBounds_toArray, List.set_cons_zero, List.set_cons_succ]
        refine wpAnyH_take (i := 6) (oi := _) (v := ?_) rfl (by kernel_rfl) (by kernel_rfl) (by kernel_rfl) (fun _ _ _ h => h) (Or.inl ⟨by rfl, ?_⟩) (by assumption) ?_
        rotate_left
        · intro w hSw
          (try dsimp only at hSw)
          go_simp
          all_goals (with_reducible rfl)
        try simp only [Act.put, List.setIfInBounds_toArray, List.set_cons_zero, List.set_cons_succ]
        refine wpAnyH_ready (rs := [7]) (by kernel_rfl) (by simp) (AllReadyH.cons (o := _) rfl (fun K hK => ?_) AllReadyH.nil)
        go_simp
        have e5 := (Below.heap_setCell w4 ⟨w.heap.size + 2, 3, none⟩ (.slice (some ⟨g, 0, none⟩) (vs.length + 1) cap4) wr.heap.size (show wr.heap.size ≠ w.heap.size + 2 by have := hBlt; omega)).trans e4
        refine hK.out _ _ (kid_cells e5) (fun hHeld => ?_)
        clear hK K
        try simp only [Act.put, List.setIfInBounds_toArray, List.set_cons_zero, List.set_cons_succ]
        refine wpAnyH_done (by kernel_rfl) ?_ _
        have hN := hB.next hb1 hA hb2 hown4 hgrow (by rcases hat with hat | hat; exact .inl hat.symm; exact .inr (by simp [Value.ownBlock, hat])) 
        go_wp2_with fail
        go_roundw
        case rel => exact ⟨j + 1, _, _, _, by omega, by go_num, by rw [List.take_succ_eq_append_getElem hlt, HVS.out, HC.out], hN⟩
        case measure => simp [intOf]; omega
      · go_simp
        refine hcall.mono ?_
        rintro _ w2 ⟨y, rfl, hA, hb2⟩
        obtain ⟨A3, cap3, rfl⟩ := hA.form
        have q2 := (hb2.block wr.heap.size (by simp)).trans q1
        have v2 := (hb2.block (w.heap.size + 2) (by have := hBlt; have := hb1.size; omega)).trans v1
        have v3 := (Below.heap_alloc w2 (.cells #[.int .u8 c.k, .int .u64 c.n, .string c.s, .slice A3 c.kids.length cap3] 44) _ (Array.getElem?_eq_some_iff.1 v2).1).trans v2
        have q3 := (Below.heap_alloc w2 (.cells #[.int .u8 c.k, .int .u64 c.n, .string c.s, .slice A3 c.kids.length cap3] 44) _ (Array.getElem?_eq_some_iff.1 q2).1).trans q2
        have r2 : w2.cell? ⟨w.heap.size + 2, 3, none⟩ = some v := by rw [cell_of_row _ _ _ _ _ _ v2]; rfl
        have r3 : (w2.alloc (.cells #[.int .u8 c.k, .int .u64 c.n, .string c.s, .slice A3 c.kids.length cap3] 44)).cell? ⟨w.heap.size + 2, 3, none⟩ = some v := by rw [cell_of_row _ _ _ _ _ _ v3]; rfl
        have hown3 : (w2.alloc (.cells #[.int .u8 c.k, .int .u64 c.n, .string c.s, .slice A3 c.kids.length cap3] 44)).ownsRow (w.heap.size + 3) 44 4 v vs.length xs := own_keep hB.own (fun b hb => by rw [Below.heap_alloc w2 _ b (by have := hb1.size; have := hb2.size; omega), hb2.block b (by have := hb1.size; omega), hb1.block b hb])
        have hsz2 : w.heap.size + 3 ≤ w2.heap.size := by have := hb1.size; have := hb2.size; have := hB.sz; omega
        refine hK.out _ _ (kid_cells q2) (fun hHeld => ?_)
        clear hK K
        try simp only [Act.put, List.setIfInBounds_toArray, List.set_cons_zero, List.set_cons_succ]
        refine wpAnyH_ready (rs := [1, 4]) (by kernel_rfl) (by simp) (AllReadyH.cons (o := _) rfl (fun K hK => ?_) (AllReadyH.cons (o := _) rfl (fun K hK => ?_) AllReadyH.nil))
        · go_simp
          refine hK.out _ _ (kid_cells q2) (fun hHeld => ?_)
          clear hK K
          try simp only [Act.put, List.setIfInBounds_toArray, List.set_cons_zero, List.set_cons_succ]
          refine wpAnyH_ready (rs := [4]) (by kernel_rfl) (by simp) (AllReadyH.cons (o := _) rfl (fun K hK => ?_) AllReadyH.nil)
          go_simp
          refine hK.out _ _ (kid_cells q3) (fun hHeld => ?_)
          clear hK K
          try simp only [Act.put, List.setIfInBounds_toArray, List.set_cons_zero, List.set_cons_succ]
          refine wpAnyH_ready (rs := [5]) (by kernel_rfl) (by simp) (AllReadyH.cons (o := _) rfl (fun K hK => ?_) AllReadyH.nil)
          refine step_append_lies _ rfl _ _ 42 rfl (w.heap.size + 3) 44 i0 _ 4 56 Tryz.underlying42 hi0 hz0 hz1 hz2 rfl (by decide) v vs.length xs rfl hown3 ⟨_, 0, none⟩ 1 1 [.int .u8 c.k, .int .u64 c.n, .string c.s, .slice A3 c.kids.length cap3] rfl rfl (World.news_of_block (heap_alloc_new w2 _)) (by simp [Value.oneCell']) (by decide) (by unfold maxLen; omega) (by omega) (by simp; omega) _ rfl ?_
          intro g cap4 w4 hown4 hgrow hat hlt4
          have c4 := hB.mid hb1 hb2 hgrow (w.heap.size + 2) _ (by have := hBlt; have := hb1.size; omega) hvB v1
          have e4 := hB.mid hb1 hb2 hgrow wr.heap.size _ (by simp) (fun hc => Nat.lt_irrefl _ (own_lt hB.own hc)) q1
          have s4 : w4.cell? ⟨w.heap.size + 2, 3, none⟩ = some v := by rw [cell_of_row _ _ _ _ _ _ c4]; rfl
          have z4 := frozen_of_row w4 (w.heap.size + 2) 3 _ _ c4
          refine hK.out _ _ (kid_cells e4) (fun hHeld => ?_)
          clear hK K
          try simp only [Act.put, List.setIfInBounds_toArray, List.set_cons_zero, List.set_cons_succ]
          refine wpAnyH_take (i := 6) (oi := _) (v := ?_) rfl (by kernel_rfl) (by kernel_rfl) (by kernel_rfl) (fun _ _ _ h => h) (Or.inl ⟨by rfl, ?_⟩) (by assumption) ?_
          rotate_left
          · intro w hSw
            (try dsimp only at hSw)
            go_simp
            all_goals (with_reducible rfl)
          try simp only [Act.put, List.setIfInBounds_toArray, List.set_cons_zero, List.set_cons_succ]
          refine wpAnyH_ready (rs := [7]) (by kernel_rfl) (by simp) (AllReadyH.cons (o := _) rfl (fun K hK => ?_) AllReadyH.nil)
          go_simp
          have e5 := (Below.heap_setCell w4 ⟨w.heap.size + 2, 3, none⟩ (.slice (some ⟨g, 0, none⟩) (vs.length + 1) cap4) wr.heap.size (show wr.heap.size ≠ w.heap.size + 2 by have := hBlt; omega)).trans e4
          refine hK.out _ _ (kid_cells e5) (fun hHeld => ?_)
          clear hK K
          try simp only [Act.put, List.setIfInBounds_toArray, List.set_cons_zero, List.set_cons_succ]
          refine wpAnyH_done (by kernel_rfl) ?_ _
          have hN := hB.next hb1 hA hb2 hown4 hgrow (by rcases hat with hat | hat; exact .inl hat.symm; exact .inr (by simp [Value.ownBlock, hat])) 
          go_wp2_with fail
          go_roundw
          case rel => exact ⟨j + 1, _, _, _, by omega, by go_num, by rw [List.take_succ_eq_append_getElem hlt, HVS.out, HC.out], hN⟩
          case measure => simp [intOf]; omega
        · go_simp
          refine hK.out _ _ (kid_cells q3) (fun hHeld => ?_)
          clear hK K
          try simp only [Act.put, List.setIfInBounds_toArray, List.set_cons_zero, List.set_cons_succ]
          refine wpAnyH_ready (rs := [1]) (by kernel_rfl) (by simp) (AllReadyH.cons (o := _) rfl (fun K hK => ?_) AllReadyH.nil)
          go_simp
          refine hK.out _ _ (kid_cells q3) (fun hHeld => ?_)
          clear hK K
          try simp only [Act.put, List.setIfInBounds_toArray, List.set_cons_zero, List.set_cons_succ]
          refine wpAnyH_ready (rs := [5]) (by kernel_rfl) (by simp) (AllReadyH.cons (o := _) rfl (fun K hK => ?_) AllReadyH.nil)
          refine step_append_lies _ rfl _ _ 42 rfl (w.heap.size + 3) 44 i0 _ 4 56 Tryz.underlying42 hi0 hz0 hz1 hz2 rfl (by decide) v vs.length xs rfl hown3 ⟨_, 0, none⟩ 1 1 [.int .u8 c.k, .int .u64 c.n, .string c.s, .slice A3 c.kids.length cap3] rfl rfl (World.news_of_block (heap_alloc_new w2 _)) (by simp [Value.oneCell']) (by decide) (by unfold maxLen; omega) (by omega) (by simp; omega) _ rfl ?_
          intro g cap4 w4 hown4 hgrow hat hlt4
          have c4 := hB.mid hb1 hb2 hgrow (w.heap.size + 2) _ (by have := hBlt; have := hb1.size; omega) hvB v1
          have e4 := hB.mid hb1 hb2 hgrow wr.heap.size _ (by simp) (fun hc => Nat.lt_irrefl _ (own_lt hB.own hc)) q1
          have s4 : w4.cell? ⟨w.heap.size + 2, 3, none⟩ = some v := by rw [cell_of_row _ _ _ _ _ _ c4]; rfl
          have z4 := frozen_of_row w4 (w.heap.size + 2) 3 _ _ c4
          refine hK.out _ _ (kid_cells e4) (fun hHeld => ?_)
          clear hK K
          try simp only [Act.put, List.setIfInBounds_toArray, List.set_cons_zero, List.set_cons_succ]
          refine wpAnyH_take (i := 6) (oi := _) (v := ?_) rfl (by kernel_rfl) (by kernel_rfl) (by kernel_rfl) (fun _ _ _ h => h) (Or.inl ⟨by rfl, ?_⟩) (by assumption) ?_
          rotate_left
          · intro w hSw
            (try dsimp only at hSw)
            go_simp
            all_goals (with_reducible rfl)
          try simp only [Act.put, List.setIfInBounds_toArray, List.set_cons_zero, List.set_cons_succ]
          refine wpAnyH_ready (rs := [7]) (by kernel_rfl) (by simp) (AllReadyH.cons (o := _) rfl (fun K hK => ?_) AllReadyH.nil)
          go_simp
          have e5 := (Below.heap_setCell w4 ⟨w.heap.size + 2, 3, none⟩ (.slice (some ⟨g, 0, none⟩) (vs.length + 1) cap4) wr.heap.size (show wr.heap.size ≠ w.heap.size + 2 by have := hBlt; omega)).trans e4
          refine hK.out _ _ (kid_cells e5) (fun hHeld => ?_)
          clear hK K
          try simp only [Act.put, List.setIfInBounds_toArray, List.set_cons_zero, List.set_cons_succ]
          refine wpAnyH_done (by kernel_rfl) ?_ _
          have hN := hB.next hb1 hA hb2 hown4 hgrow (by rcases hat with hat | hat; exact .inl hat.symm; exact .inr (by simp [Value.ownBlock, hat])) 
          go_wp2_with fail
          go_roundw
          case rel => exact ⟨j + 1, _, _, _, by omega, by go_num, by rw [List.take_succ_eq_append_getElem hlt, HVS.out, HC.out], hN⟩
          case measure => simp [intOf]; omega
    · obtain rfl : kids.length = j := by omega
      have hltk : decide (kids.length < kids.length) = false := by simp
      rw [List.take_length] at hvs
      subst hvs
      obtain ⟨r0, r1, r2, r3⟩ := kid_cells hB.var
      obtain ⟨A2, cap2, rfl, g1, g2, g3⟩ := own_reps hB.own (hB.ars.keep (fun b _ hb => ⟨rfl, hb.1⟩) (Nat.le_refl _))
      have hR := hB.ret
      obtain ⟨t0, t1, t2, t3⟩ := kid_cells hR
      have f0 := fun o => frozen_of_row wr (w.heap.size + 1) o _ _ hR
      have far : ∀ (q : Nat) (a b c d : Value), q ≠ w.heap.size + 1 → ((((wr.setCell ⟨w.heap.size + 1, 0, none⟩ a).setCell ⟨w.heap.size + 1, 1, none⟩ b).setCell ⟨w.heap.size + 1, 2, none⟩ c).setCell ⟨w.heap.size + 1, 3, none⟩ d).heap[q]? = wr.heap[q]? := fun q a b c d hq => by
        rw [Below.heap_setCell _ ⟨w.heap.size + 1, 3, none⟩ _ q hq, Below.heap_setCell _ ⟨w.heap.size + 1, 2, none⟩ _ q hq, Below.heap_setCell _ ⟨w.heap.size + 1, 1, none⟩ _ q hq, Below.heap_setCell _ ⟨w.heap.size + 1, 0, none⟩ _ q hq]
      go_wp2_with fail
      have h3 := row_setC (row_setC (row_setC (row_setC hR 0 (.int .u8 k)) 1 (.int .u64 n)) 2 (.string s)) 3 (.slice A2 vs.length cap2)
      have hlo : w.heap.size ≤ w.heap.size + 1 := by omega
      refine bodyPost_ret (results_cell_row rfl _ _ (w.heap.size + 1) 44 #[.int .u8 k, .int .u64 n, .string s, .slice A2 vs.length cap2] (0, 0) _ rfl h3 Tryz.underlying44 rfl (by kernel_rfl)) rfl ⟨.agg #[.int .u8 k, .int .u64 n, .string s, .slice A2 vs.length cap2], rfl, ?_, (((hB.bel.setCell (p := ⟨w.heap.size + 1, 0, none⟩) hlo _).setCell (p := ⟨w.heap.size + 1, 1, none⟩) hlo _).setCell (p := ⟨w.heap.size + 1, 2, none⟩) hlo _).setCell (p := ⟨w.heap.size + 1, 3, none⟩) hlo _⟩
      have g4 := (g3.keep (fun b _ hb => far b (.int .u8 k) (.int .u64 n) (.string s) (.slice A2 vs.length cap2) (by omega))).mono (fun b _ hb => (show w.heap.size ≤ b by omega))
      simp only [Rep]
      exact ⟨A2, cap2, rfl, g1, by unfold maxLen at g2; omega, hk0, hn0, hs0, g4⟩
theorem vi_calls {v : V} {t : Ty} (h : HT v t) : ViOk v := by
  induction h with
  | num k n s hk _ _ _ _ => exact vi_step k n s [] (by simp) (by simp)
  | txt k n s hk _ => exact vi_step k n s [] (by simp) (by simp)
  | var n s v t hv hok h255 _ _ ih => exact vi_step 118 n s [v] (by simp) (by simpa using ih)
  | str n s kids ts hne hlen hl hk ih =>
    refine vi_step 40 n s kids hlen fun c hc => ?_
    obtain ⟨j, hj, rfl⟩ := List.mem_iff_getElem.1 hc
    exact ih j _ (ts[j]'(by omega)) (List.getElem?_eq_getElem hj) (List.getElem?_eq_getElem (by omega))
  | arr n s kids e hs hsz hlen hp hke hk ih => exact vi_step 97 n s kids hlen ih
  | dict n s kids kc e hs hsz hlen hkc hkb hp hke hfr hen ha hb iha ihb =>
    refine vi_step 97 n s kids hlen fun c hc => ?_
    obtain ⟨n', s', a, b, rfl⟩ := hen c hc
    refine vi_step 123 n' s' [a, b] (by simp) fun c' hc' => ?_
    simp only [List.mem_cons, List.not_mem_nil, or_false] at hc'
    rcases hc' with rfl | rfl
    · exact iha n' s' _ b hc
    · exact ihb n' s' a _ hc
end Go.Proofs.YtjbpphomlmlmaaaGreatDoor
