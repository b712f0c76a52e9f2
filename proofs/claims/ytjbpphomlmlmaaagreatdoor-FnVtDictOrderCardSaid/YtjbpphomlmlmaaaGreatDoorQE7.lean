/- The value that the door makes: structs and lists. -/
import Derived.Test.YtjbpphomlmlmaaaGreatDoorQK5
import Derived.Test.YtjbpphomlmlmaaaGreatDoorQD5b
namespace Go.Proofs.YtjbpphomlmlmaaaGreatDoor
open Go.RowKit
set_option linter.unusedVariables false
set_option linter.unusedSimpArgs false
theorem info20 : (Tryz.prog.info? 20).map (fun i => (i.zero, i.size, i.bytes)) = some (some .nilIface, 1, 16) := by kernel_rfl
/-- A row of made values that grows, its slice held in a variable of block B. -/
structure Bld (H B : Nat) (T : TypeId) (cs : Value → Array Value) (w wr : World) (vs : List V) (v : Value) (ys : List Value) : Prop where
  own : wr.ownsRow H 20 1 v ys.length ys
  var : wr.heap[B]? = some (.cells (cs v) T (0, 0))
  ars : ARl (fun b => H ≤ b ∧ v.ownBlock ≠ some b) wr vs ys
  bel : Below w.heap.size w wr
  lo : w.heap.size ≤ B
  hi : B < H
  sz : H ≤ wr.heap.size
theorem own_lt {w : World} {base : Nat} {e : TypeId} {size n : Nat} {v : Value} {xs : List Value} (h : w.ownsRow base e size v n xs) {k : Nat} (hk : v.ownBlock = some k) : k < w.heap.size := by
  rcases h.2 with ⟨rfl, _⟩ | ⟨g, cap, cur, rfl, hb, hg, _⟩
  · simp [Value.ownBlock] at hk
  · have : g = k := by simpa [Value.ownBlock] using hk
    subst this
    exact (Array.getElem?_eq_some_iff.1 hg).1
theorem own_set {w : World} {base : Nat} {e : TypeId} {size n : Nat} {v : Value} {xs : List Value} (h : w.ownsRow base e size v n xs) (B o : Nat) (u : Value) (hB : v.ownBlock ≠ some B) : (w.setCell ⟨B, o, none⟩ u).ownsRow base e size v n xs := by
  refine ⟨h.1, ?_⟩
  rcases h.2 with h0 | ⟨g, cap, cur, rfl, hb, hg, hr⟩
  · exact .inl h0
  · exact .inr ⟨g, cap, cur, rfl, hb, (Below.heap_setCell w ⟨B, o, none⟩ u g (fun hc => hB (by simp [Value.ownBlock]; exact hc))).trans hg, hr⟩
/-- One element more: the kid's value is made in the world w2, laid in a new block, appended, and the slice put back. -/
theorem Bld.next {H B : Nat} {T : TypeId} {cs : Value → Array Value} {w wr w1 w2 w4 : World} {vs : List V} {v v' : Value} {ys : List Value} {c : V} {y : Value} {o : Nat} (h : Bld H B T cs w wr vs v ys)
    (hb1 : Below wr.heap.size wr w1) (hA : AR (fun b => w1.heap.size ≤ b) w2 c y) (hb2 : Below w1.heap.size w1 w2)
    (hown : w4.ownsRow H 20 1 v' (ys.length + 1) (ys ++ [y])) (hg : (w2.alloc (.cells #[y] 20)).grownBy w4 v.ownBlock) (ha : v'.ownBlock = v.ownBlock ∨ v'.ownBlock = some (w2.alloc (.cells #[y] 20)).heap.size)
    (hcs : (cs v).setIfInBounds o v' = cs v') : Bld H B T cs w (w4.setCell ⟨B, o, none⟩ v') (vs ++ [c]) v' (ys ++ [y]) := by
  have hs1 := hb1.size
  have hs2 := hb2.size
  have hs3 : (w2.alloc (.cells #[y] 20)).heap.size = w2.heap.size + 1 := by simp
  have hsg := hg.size
  have hBlt : B < wr.heap.size := (Array.getElem?_eq_some_iff.1 h.var).1
  have hvB : v.ownBlock ≠ some B := fun hc => by have := own_base' h.own hc; have := h.hi; omega
  have hb12 := below_then hb1 hb1.size hb2
  have keep : ∀ b, b < wr.heap.size → v.ownBlock ≠ some b → b ≠ B → (w4.setCell ⟨B, o, none⟩ v').heap[b]? = wr.heap[b]? := fun b hb hv hne => by
    rw [Below.heap_setCell w4 ⟨B, o, none⟩ v' b hne, hg.block b (by omega) (fun hc => hv hc.symm), Below.heap_alloc w2 _ b (by omega)]
    exact hb12.block b hb
  have keep2 : ∀ b, b < w2.heap.size → w1.heap.size ≤ b → (w4.setCell ⟨B, o, none⟩ v').heap[b]? = w2.heap[b]? := fun b hb hv => by
    rw [Below.heap_setCell w4 ⟨B, o, none⟩ v' b (show b ≠ B by omega), hg.block b (by omega) (fun hc => by have := own_lt h.own hc.symm; omega), Below.heap_alloc w2 _ b (by omega)]
  have hsize : (w4.setCell ⟨B, o, none⟩ v').heap.size = w4.heap.size := by simp [World.setCell]
  refine ⟨?_, ?_, ?_, ?_, h.lo, h.hi, ?_⟩
  · rw [List.length_append]
    exact own_set hown B o v' (fun hc => by
      rcases ha with ha | ha
      · rw [ha] at hc; exact hvB hc
      · rw [ha] at hc; have := Option.some.inj hc; omega)
  · have hB4 : w4.heap[B]? = some (.cells (cs v) T (0, 0)) := by
      rw [hg.block B (by omega) (fun hc => hvB hc.symm), Below.heap_alloc w2 _ B (by omega), hb12.block B hBlt]
      exact h.var
    have := row_setC hB4 o v'
    rwa [hcs] at this
  · refine (h.ars.keep (fun b hb hS => ⟨keep b hb hS.2 (by have := h.hi; omega), hS.1, ?_⟩) (by omega)).snoc (hA.keep (fun b hb hS => ⟨keep2 b hb hS, by have := h.sz; omega, ?_⟩) (by omega))
    · rcases ha with ha | ha
      · rw [ha]; exact hS.2
      · rw [ha]; intro hc; have := Option.some.inj hc; omega
    · rcases ha with ha | ha
      · rw [ha]; intro hc; have := own_lt h.own hc; omega
      · rw [ha]; intro hc; have := Option.some.inj hc; omega
  · have hlo := h.lo
    exact ((((h.bel.trans (hb12.mono h.bel.size)).alloc (by have := h.bel.size; omega) _).grown hg (by have := h.bel.size; omega) (fun k hk => by have := own_base' h.own hk; have := h.hi; omega)).setCell (p := ⟨B, o, none⟩) hlo _)
  · have := h.sz; omega
/-- What is known at the append's end: the variable and a block that lies before it. -/
theorem Bld.mid {H B : Nat} {T : TypeId} {cs : Value → Array Value} {w wr w1 w2 w4 : World} {vs : List V} {v : Value} {ys : List Value} {y : Value} (h : Bld H B T cs w wr vs v ys)
    (hb1 : Below wr.heap.size wr w1) (hb2 : Below w1.heap.size w1 w2) (hg : (w2.alloc (.cells #[y] 20)).grownBy w4 v.ownBlock) (b : Nat) (o : Obj) (hb : b < w1.heap.size) (hv : v.ownBlock ≠ some b) (ho : w1.heap[b]? = some o) : w4.heap[b]? = some o := by
  have hs2 := hb2.size
  have hs3 : (w2.alloc (.cells #[y] 20)).heap.size = w2.heap.size + 1 := by simp
  rw [hg.block b (by omega) (fun hc => hv hc.symm), Below.heap_alloc w2 _ b (by omega), hb2.block b hb, ho]
theorem own_keep {w w' : World} {base : Nat} {e : TypeId} {size n : Nat} {v : Value} {xs : List Value} (h : w.ownsRow base e size v n xs) (hk : ∀ b, b < w.heap.size → w'.heap[b]? = w.heap[b]?) : w'.ownsRow base e size v n xs := by
  refine ⟨h.1, ?_⟩
  rcases h.2 with h0 | ⟨g, cap, cur, rfl, hb, hg, hr⟩
  · exact .inl h0
  · exact .inr ⟨g, cap, cur, rfl, hb, (hk g (Array.getElem?_eq_some_iff.1 hg).1).trans hg, hr⟩
theorem own_row {w : World} {base : Nat} {e : TypeId} {n : Nat} {v : Value} {xs : List Value} (h : w.ownsRow base e 1 v n xs) : ∃ A cap, v = .slice A n cap ∧ n ≤ cap ∧ cap ≤ maxLen ∧ Row (fun b => base ≤ b) w A xs := by
  rcases h.2 with ⟨rfl, h0⟩ | ⟨g, cap, cur, rfl, hb, hg, hn, hc, _⟩
  · refine ⟨none, 0, by rw [h0], by omega, by unfold maxLen; omega, .inl ?_⟩
    have := h.1
    rw [h0] at this
    exact List.eq_nil_of_length_eq_zero (by simpa using this)
  · exact ⟨_, cap, rfl, hn, hc, .inr ⟨g, rfl, hb, (Array.getElem?_eq_some_iff.1 hg).1, fun j y hj => own_cell h j y hj⟩⟩
theorem kid_cells {w : World} {b : Nat} {x0 x1 x2 x3 : Value} {T : TypeId} (h : w.heap[b]? = some (.cells #[x0, x1, x2, x3] T (0, 0))) :
    w.cell? ⟨b, 0, none⟩ = some x0 ∧ w.cell? ⟨b, 1, none⟩ = some x1 ∧ w.cell? ⟨b, 2, none⟩ = some x2 ∧ w.cell? ⟨b, 3, none⟩ = some x3 := by
  refine ⟨?_, ?_, ?_, ?_⟩
  all_goals (rw [cell_of_row _ _ _ _ _ _ h]; rfl)
set_option maxRecDepth 100000 in
set_option maxHeartbeats 6400000 in
theorem di_str (n : Int) (s : ByteArray) (kids : List V) (hlen : kids.length ≤ 1000) (hkk : ∀ c ∈ kids, c.k ≠ 123) (ih : ∀ c ∈ kids, DiOk c) : DiOk (.mk 40 n s kids) := by
  obtain ⟨i0, hi0, hz0, hz1, hz2⟩ := info_parts info20
  intro S x w hr
  simp only [Rep] at hr
  obtain ⟨A, cap, rfl, h1, h2, _, _, _, hkids⟩ := hr
  have hB0 : Bld (w.heap.size + 2) (w.heap.size + 1) 80 (fun v => #[v]) w ((w.alloc (.cells #[.int .u8 40, .int .u64 n, .string s, .slice A kids.length cap] 44)).alloc (.cells #[.slice none 0 0] 80)) [] (.slice none 0 0) [] := by
    refine ⟨World.ownsRow_nil _ _ _ _, ?_, rfl, ((Below.refl _ _).alloc (Nat.le_refl _) _).alloc (by simp) _, by omega, by omega, by simp⟩
    have := heap_alloc_new (w.alloc (.cells #[.int .u8 40, .int .u64 n, .string s, .slice A kids.length cap] 44)) (.cells #[.slice none 0 0] 80)
    simpa using this
  go_enter Tryz.func30, Tryz.ntmps30
  go_wp2_with fail
  go_loopw [104] (fun i wr => ∃ (j : Nat) (v : Value) (ys : List Value), j ≤ kids.length ∧ i = .int .i64 j ∧ Bld (w.heap.size + 2) (w.heap.size + 1) 80 (fun v => #[v]) w wr (kids.take j) v ys) (fun i _ => kids.length - (intOf i).toNat)
  case atStart => exact ⟨0, _, _, Nat.zero_le _, rfl, by simpa using hB0⟩
  case round =>
    clear hB0
    obtain ⟨j, v, ys, hj, rfl, hB⟩ := hrel
    have hyl := hB.ars.length
    have hbsz := hB.sz
    by_cases hlt : j < kids.length
    · have hltk : decide (j < kids.length) = true := by simp; omega
      rw [List.length_take, Nat.min_eq_left hj] at hyl
      have hyl2 : ys.length ≤ 1000 := by omega
      have HYL := Lib.hid hyl
      clear hyl
      obtain ⟨b, o, A', cap', rfl, _, k0, k1, k2, k3, hv⟩ := (hkids.keep fun b hlt _ => hB.bel.block b hlt).kid j hlt
      have hcin : kids[j] ∈ kids := List.getElem_mem hlt
      have hih := ih _ hcin
      have hkc := hkk _ hcin
      generalize hc : kids[j] = c at *
      have hb1 : Below wr.heap.size wr (wr.alloc (.cells #[.int .u8 c.k, .int .u64 c.n, .string c.s, .slice A' c.kids.length cap'] 44)).drew := ((Below.refl _ _).alloc (Nat.le_refl _) _).drew
      have hcall := hih _ _ _ (hv.below hb1)
      have HC := Lib.hid hc
      have hBlt : w.heap.size + 1 < wr.heap.size := (Array.getElem?_eq_some_iff.1 hB.var).1
      have hvB : v.ownBlock ≠ some (w.heap.size + 1) := fun hc => by have := own_base' hB.own hc; omega
      have q1 : (wr.alloc (.cells #[.int .u8 c.k, .int .u64 c.n, .string c.s, .slice A' c.kids.length cap'] 44)).drew.heap[wr.heap.size]? = some (.cells #[.int .u8 c.k, .int .u64 c.n, .string c.s, .slice A' c.kids.length cap'] 44 (0, 0)) := heap_alloc_new wr _
      have v1 := (hb1.block (w.heap.size + 1) hBlt).trans hB.var
      have r1 : (wr.alloc (.cells #[.int .u8 c.k, .int .u64 c.n, .string c.s, .slice A' c.kids.length cap'] 44)).drew.cell? ⟨w.heap.size + 1, 0, none⟩ = some v := by rw [cell_of_row _ _ _ _ _ _ v1]; rfl
      clear hc hcin hih
      go_wp2_with fail
      refine wp_region_held_drew (S := fun w' => w'.cell? ⟨wr.heap.size, 0, none⟩ = some (.int .u8 c.k) ∧ w'.cell? ⟨wr.heap.size, 1, none⟩ = some (.int .u64 c.n) ∧ w'.cell? ⟨wr.heap.size, 2, none⟩ = some (.string c.s) ∧ w'.cell? ⟨wr.heap.size, 3, none⟩ = some (.slice A' c.kids.length cap')) (by kernel_rfl) (kid_cells q1) (fun hHeld => ?_)
      refine wpAnyH_take (i := 0) (oi := _) (v := ?_) rfl (by kernel_rfl) (by kernel_rfl) (by kernel_rfl) (fun _ _ _ h => h) (Or.inl ⟨by rfl, ?_⟩) (by assumption) ?_
      rotate_left
      · intro w hSw
        (try dsimp only at hSw)
        go_simp
        all_goals (with_reducible rfl)
      try simp only [Act.put, List.setIfInBounds_toArray, List.set_cons_zero, List.set_cons_succ]
      refine wpAnyH_take (i := 2) (oi := _) (v := ?_) rfl (by kernel_rfl) (by kernel_rfl) (by kernel_rfl) (fun _ _ _ h => h) (Or.inl ⟨by rfl, ?_⟩) (by assumption) ?_
      rotate_left
      · intro w hSw
        (try dsimp only at hSw)
        go_simp
        all_goals (with_reducible rfl)
      try simp only [Act.put, List.setIfInBounds_toArray, List.set_cons_zero, List.set_cons_succ]
      refine wpAnyH_ready (rs := [1, 3]) (by kernel_rfl) (by simp) (AllReadyH.cons (o := _) rfl (fun K hK => ?_) (AllReadyH.cons (o := _) rfl (fun K hK => ?_) AllReadyH.nil))
      · go_simp
        refine hK.out _ _ (kid_cells q1) (fun hHeld => ?_)
        clear hK K
        try simp only [Act.put, List.setIfInBounds_toArray, List.set_cons_zero, List.set_cons_succ]
        refine wpAnyH_ready (rs := [3]) (by kernel_rfl) (by simp) (AllReadyH.cons (o := _) rfl (fun K hK => ?_) AllReadyH.nil)
        go_simp
        refine hcall.mono ?_
        rintro _ w2 ⟨y, rfl, hA, hb2⟩
        obtain ⟨u, yv, rfl⟩ := hA.iface hkc
        have q2 := (hb2.block wr.heap.size (by simp)).trans q1
        have v2 := (hb2.block (w.heap.size + 1) (by have := hBlt; have := hb1.size; omega)).trans v1
        have v3 := (Below.heap_alloc w2 (.cells #[.iface u yv] 20) _ (Array.getElem?_eq_some_iff.1 v2).1).trans v2
        have q3 := (Below.heap_alloc w2 (.cells #[.iface u yv] 20) _ (Array.getElem?_eq_some_iff.1 q2).1).trans q2
        have r2 : w2.cell? ⟨w.heap.size + 1, 0, none⟩ = some v := by rw [cell_of_row _ _ _ _ _ _ v2]; rfl
        have r3 : (w2.alloc (.cells #[.iface u yv] 20)).cell? ⟨w.heap.size + 1, 0, none⟩ = some v := by rw [cell_of_row _ _ _ _ _ _ v3]; rfl
        have hown3 : (w2.alloc (.cells #[.iface u yv] 20)).ownsRow (w.heap.size + 2) 20 1 v ys.length ys := own_keep hB.own (fun b hb => by rw [Below.heap_alloc w2 _ b (by have := hb1.size; have := hb2.size; omega), hb2.block b (by have := hb1.size; omega), hb1.block b hb])
        have hsz2 : w.heap.size + 2 ≤ w2.heap.size := by have := hb1.size; have := hb2.size; have := hB.sz; omega
        refine hK.out _ _ (kid_cells q2) (fun hHeld => ?_)
        clear hK K
        try simp only [Act.put, List.setIfInBounds_toArray, List.set_cons_zero, List.set_cons_succ]
        refine wpAnyH_ready (rs := [4]) (by kernel_rfl) (by simp) (AllReadyH.cons (o := _) rfl (fun K hK => ?_) AllReadyH.nil)
        go_simp
        refine hK.out _ _ (kid_cells q3) (fun hHeld => ?_)
        clear hK K
        try simp only [Act.put, List.setIfInBounds_toArray, List.set_cons_zero, List.set_cons_succ]
        refine wpAnyH_ready (rs := [5]) (by kernel_rfl) (by simp) (AllReadyH.cons (o := _) rfl (fun K hK => ?_) AllReadyH.nil)
        refine step_append_lies _ rfl _ _ 78 rfl (w.heap.size + 2) 20 i0 .nilIface 1 16 Tryz.underlying78 hi0 hz0 hz1 hz2 rfl (by decide) v ys.length ys rfl hown3 ⟨_, 0, none⟩ 1 1 [.iface u yv] rfl rfl (cell_one_new _ _ _) (by simp [Value.oneCell']) (by decide) (by unfold maxLen; omega) (by omega) (by simp; omega) _ rfl ?_
        intro g cap4 w4 hown4 hgrow hat hlt4
        have c4 := hB.mid hb1 hb2 hgrow (w.heap.size + 1) _ (by have := hBlt; have := hb1.size; omega) hvB v1
        have e4 := hB.mid hb1 hb2 hgrow wr.heap.size _ (by simp) (fun hc => Nat.lt_irrefl _ (own_lt hB.own hc)) q1
        have s4 : w4.cell? ⟨w.heap.size + 1, 0, none⟩ = some v := by rw [cell_of_row _ _ _ _ _ _ c4]; rfl
        have z4 := frozen_of_row w4 (w.heap.size + 1) 0 _ _ c4
        refine hK.out _ _ (kid_cells e4) (fun hHeld => ?_)
        clear hK K
        try simp only [Act.put, List.setIfInBounds_toArray, List.set_cons_zero, List.set_cons_succ]
        refine wpAnyH_take (i := 6) (oi := _) (v := ?_) rfl (by kernel_rfl) (by kernel_rfl) (by kernel_rfl) (fun _ _ _ h => h) (Or.inl ⟨by rfl, ?_⟩) (by assumption) ?_
        rotate_left
        · intro w hSw
          (try dsimp only at hSw)
          go_simp
          all_goals (with_reducible rfl)
        try simp only [Act.put, List.setIfInBounds_toArray, List.set_cons_zero, List.set_cons_succ]
        refine wpAnyH_ready (rs := [7]) (by kernel_rfl) (by simp) (AllReadyH.cons (o := _) rfl (fun K hK => ?_) AllReadyH.nil)
        go_simp
        have e5 := (Below.heap_setCell w4 ⟨w.heap.size + 1, 0, none⟩ (.slice (some ⟨g, 0, none⟩) (ys.length + 1) cap4) wr.heap.size (show wr.heap.size ≠ w.heap.size + 1 by have := hBlt; omega)).trans e4
        refine hK.out _ _ (kid_cells e5) (fun hHeld => ?_)
        clear hK K
        try simp only [Act.put, List.setIfInBounds_toArray, List.set_cons_zero, List.set_cons_succ]
        refine wpAnyH_done (by kernel_rfl) ?_ _
        have hN := hB.next (o := 0) hb1 hA hb2 hown4 hgrow (by rcases hat with hat | hat; exact .inl hat.symm; exact .inr (by simp [Value.ownBlock, hat])) rfl
        go_wp2_with fail
        go_roundw
        case rel => exact ⟨j + 1, _, _, by omega, by go_num, by rw [List.take_succ_eq_append_getElem hlt, HC.out]; exact hN⟩
        case measure => simp [intOf]; omega
      · go_simp
        refine hcall.mono ?_
        rintro _ w2 ⟨y, rfl, hA, hb2⟩
        obtain ⟨u, yv, rfl⟩ := hA.iface hkc
        have q2 := (hb2.block wr.heap.size (by simp)).trans q1
        have v2 := (hb2.block (w.heap.size + 1) (by have := hBlt; have := hb1.size; omega)).trans v1
        have v3 := (Below.heap_alloc w2 (.cells #[.iface u yv] 20) _ (Array.getElem?_eq_some_iff.1 v2).1).trans v2
        have q3 := (Below.heap_alloc w2 (.cells #[.iface u yv] 20) _ (Array.getElem?_eq_some_iff.1 q2).1).trans q2
        have r2 : w2.cell? ⟨w.heap.size + 1, 0, none⟩ = some v := by rw [cell_of_row _ _ _ _ _ _ v2]; rfl
        have r3 : (w2.alloc (.cells #[.iface u yv] 20)).cell? ⟨w.heap.size + 1, 0, none⟩ = some v := by rw [cell_of_row _ _ _ _ _ _ v3]; rfl
        have hown3 : (w2.alloc (.cells #[.iface u yv] 20)).ownsRow (w.heap.size + 2) 20 1 v ys.length ys := own_keep hB.own (fun b hb => by rw [Below.heap_alloc w2 _ b (by have := hb1.size; have := hb2.size; omega), hb2.block b (by have := hb1.size; omega), hb1.block b hb])
        have hsz2 : w.heap.size + 2 ≤ w2.heap.size := by have := hb1.size; have := hb2.size; have := hB.sz; omega
        refine hK.out _ _ (kid_cells q2) (fun hHeld => ?_)
        clear hK K
        try simp only [Act.put, List.setIfInBounds_toArray, List.set_cons_zero, List.set_cons_succ]
        refine wpAnyH_ready (rs := [1, 4]) (by kernel_rfl) (by simp) (AllReadyH.cons (o := _) rfl (fun K hK => ?_) (AllReadyH.cons (o := _) rfl (fun K hK => ?_) AllReadyH.nil))
        · go_simp
          refine hK.out _ _ (kid_cells q2) (fun hHeld => ?_)
          clear hK K
          try simp only [Act.put, List.setIfInBounds_toArray, List.set_cons_zero, List.set_cons_succ]
          refine wpAnyH_ready (rs := [4]) (by kernel_rfl) (by simp) (AllReadyH.cons (o := _) rfl (fun K hK => ?_) AllReadyH.nil)
          go_simp
          refine hK.out _ _ (kid_cells q3) (fun hHeld => ?_)
          clear hK K
          try simp only [Act.put, List.setIfInBounds_toArray, List.set_cons_zero, List.set_cons_succ]
          refine wpAnyH_ready (rs := [5]) (by kernel_rfl) (by simp) (AllReadyH.cons (o := _) rfl (fun K hK => ?_) AllReadyH.nil)
          refine step_append_lies _ rfl _ _ 78 rfl (w.heap.size + 2) 20 i0 .nilIface 1 16 Tryz.underlying78 hi0 hz0 hz1 hz2 rfl (by decide) v ys.length ys rfl hown3 ⟨_, 0, none⟩ 1 1 [.iface u yv] rfl rfl (cell_one_new _ _ _) (by simp [Value.oneCell']) (by decide) (by unfold maxLen; omega) (by omega) (by simp; omega) _ rfl ?_
          intro g cap4 w4 hown4 hgrow hat hlt4
          have c4 := hB.mid hb1 hb2 hgrow (w.heap.size + 1) _ (by have := hBlt; have := hb1.size; omega) hvB v1
          have e4 := hB.mid hb1 hb2 hgrow wr.heap.size _ (by simp) (fun hc => Nat.lt_irrefl _ (own_lt hB.own hc)) q1
          have s4 : w4.cell? ⟨w.heap.size + 1, 0, none⟩ = some v := by rw [cell_of_row _ _ _ _ _ _ c4]; rfl
          have z4 := frozen_of_row w4 (w.heap.size + 1) 0 _ _ c4
          refine hK.out _ _ (kid_cells e4) (fun hHeld => ?_)
          clear hK K
          try simp only [Act.put, List.setIfInBounds_toArray, List.set_cons_zero, List.set_cons_succ]
          refine wpAnyH_take (i := 6) (oi := _) (v := ?_) rfl (by kernel_rfl) (by kernel_rfl) (by kernel_rfl) (fun _ _ _ h => h) (Or.inl ⟨by rfl, ?_⟩) (by assumption) ?_
          rotate_left
          · intro w hSw
            (try dsimp only at hSw)
            go_simp
            all_goals (with_reducible rfl)
          try simp only [Act.put, List.setIfInBounds_toArray, List.set_cons_zero, List.set_cons_succ]
          refine wpAnyH_ready (rs := [7]) (by kernel_rfl) (by simp) (AllReadyH.cons (o := _) rfl (fun K hK => ?_) AllReadyH.nil)
          go_simp
          have e5 := (Below.heap_setCell w4 ⟨w.heap.size + 1, 0, none⟩ (.slice (some ⟨g, 0, none⟩) (ys.length + 1) cap4) wr.heap.size (show wr.heap.size ≠ w.heap.size + 1 by have := hBlt; omega)).trans e4
          refine hK.out _ _ (kid_cells e5) (fun hHeld => ?_)
          clear hK K
          try simp only [Act.put, List.setIfInBounds_toArray, List.set_cons_zero, List.set_cons_succ]
          refine wpAnyH_done (by kernel_rfl) ?_ _
          have hN := hB.next (o := 0) hb1 hA hb2 hown4 hgrow (by rcases hat with hat | hat; exact .inl hat.symm; exact .inr (by simp [Value.ownBlock, hat])) rfl
          go_wp2_with fail
          go_roundw
          case rel => exact ⟨j + 1, _, _, by omega, by go_num, by rw [List.take_succ_eq_append_getElem hlt, HC.out]; exact hN⟩
          case measure => simp [intOf]; omega
        · go_simp
          refine hK.out _ _ (kid_cells q3) (fun hHeld => ?_)
          clear hK K
          try simp only [Act.put, List.setIfInBounds_toArray, List.set_cons_zero, List.set_cons_succ]
          refine wpAnyH_ready (rs := [1]) (by kernel_rfl) (by simp) (AllReadyH.cons (o := _) rfl (fun K hK => ?_) AllReadyH.nil)
          go_simp
          refine hK.out _ _ (kid_cells q3) (fun hHeld => ?_)
          clear hK K
          try simp only [Act.put, List.setIfInBounds_toArray, List.set_cons_zero, List.set_cons_succ]
          refine wpAnyH_ready (rs := [5]) (by kernel_rfl) (by simp) (AllReadyH.cons (o := _) rfl (fun K hK => ?_) AllReadyH.nil)
          refine step_append_lies _ rfl _ _ 78 rfl (w.heap.size + 2) 20 i0 .nilIface 1 16 Tryz.underlying78 hi0 hz0 hz1 hz2 rfl (by decide) v ys.length ys rfl hown3 ⟨_, 0, none⟩ 1 1 [.iface u yv] rfl rfl (cell_one_new _ _ _) (by simp [Value.oneCell']) (by decide) (by unfold maxLen; omega) (by omega) (by simp; omega) _ rfl ?_
          intro g cap4 w4 hown4 hgrow hat hlt4
          have c4 := hB.mid hb1 hb2 hgrow (w.heap.size + 1) _ (by have := hBlt; have := hb1.size; omega) hvB v1
          have e4 := hB.mid hb1 hb2 hgrow wr.heap.size _ (by simp) (fun hc => Nat.lt_irrefl _ (own_lt hB.own hc)) q1
          have s4 : w4.cell? ⟨w.heap.size + 1, 0, none⟩ = some v := by rw [cell_of_row _ _ _ _ _ _ c4]; rfl
          have z4 := frozen_of_row w4 (w.heap.size + 1) 0 _ _ c4
          refine hK.out _ _ (kid_cells e4) (fun hHeld => ?_)
          clear hK K
          try simp only [Act.put, List.setIfInBounds_toArray, List.set_cons_zero, List.set_cons_succ]
          refine wpAnyH_take (i := 6) (oi := _) (v := ?_) rfl (by kernel_rfl) (by kernel_rfl) (by kernel_rfl) (fun _ _ _ h => h) (Or.inl ⟨by rfl, ?_⟩) (by assumption) ?_
          rotate_left
          · intro w hSw
            (try dsimp only at hSw)
            go_simp
            all_goals (with_reducible rfl)
          try simp only [Act.put, List.setIfInBounds_toArray, List.set_cons_zero, List.set_cons_succ]
          refine wpAnyH_ready (rs := [7]) (by kernel_rfl) (by simp) (AllReadyH.cons (o := _) rfl (fun K hK => ?_) AllReadyH.nil)
          go_simp
          have e5 := (Below.heap_setCell w4 ⟨w.heap.size + 1, 0, none⟩ (.slice (some ⟨g, 0, none⟩) (ys.length + 1) cap4) wr.heap.size (show wr.heap.size ≠ w.heap.size + 1 by have := hBlt; omega)).trans e4
          refine hK.out _ _ (kid_cells e5) (fun hHeld => ?_)
          clear hK K
          try simp only [Act.put, List.setIfInBounds_toArray, List.set_cons_zero, List.set_cons_succ]
          refine wpAnyH_done (by kernel_rfl) ?_ _
          have hN := hB.next (o := 0) hb1 hA hb2 hown4 hgrow (by rcases hat with hat | hat; exact .inl hat.symm; exact .inr (by simp [Value.ownBlock, hat])) rfl
          go_wp2_with fail
          go_roundw
          case rel => exact ⟨j + 1, _, _, by omega, by go_num, by rw [List.take_succ_eq_append_getElem hlt, HC.out]; exact hN⟩
          case measure => simp [intOf]; omega
    · obtain rfl : kids.length = j := by omega
      have hltk : decide (kids.length < kids.length) = false := by simp
      rw [List.take_length] at hB
      rw [List.take_length] at hyl
      have r0 : wr.cell? ⟨w.heap.size + 1, 0, none⟩ = some v := by rw [cell_of_row _ _ _ _ _ _ hB.var]; rfl
      obtain ⟨A2, cap2, rfl, g1, g2, g3⟩ := own_row hB.own
      rw [hyl] at r0 g1
      go_wp2_with fail
      go_ret
      refine ⟨.iface 80 (.agg #[.slice A2 kids.length cap2]), rfl, ?_, hB.bel⟩
      simp only [AR]
      rw [if_neg (by decide), if_neg (by decide), if_pos trivial]
      exact ⟨ys, A2, cap2, rfl, g1, g2, hB.ars.keep (fun b _ hb => ⟨rfl, by have := hb.1; omega⟩) (Nat.le_refl _), g3.keep (fun b _ hb => ⟨rfl, by omega⟩) (Nat.le_refl _)⟩
end Go.Proofs.YtjbpphomlmlmaaaGreatDoor
