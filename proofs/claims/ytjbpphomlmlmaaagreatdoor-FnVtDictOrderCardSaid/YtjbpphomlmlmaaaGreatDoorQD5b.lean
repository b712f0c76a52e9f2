/- The signature of a type: dicts. (A region that draws its order, by hand: what is known of memory grows as the calls come back.) -/
import Derived.Test.YtjbpphomlmlmaaaGreatDoorQK3
namespace Go.Proofs.YtjbpphomlmlmaaaGreatDoor
open Go.RowKit
set_option linter.unusedVariables false
set_option linter.unusedSimpArgs false
/-- What is known of memory may grow in the midst of a region. -/
theorem wpAnyH_more {P : Program} {md : Region.Mode} {ops : Array Oper} {Q : Exit → Act → World → Prop} {S1 S2 : World → Prop} (hi : ∀ w, S2 w → S1 w) :
    ∀ (fuel : Nat) (listed : Array Bool) (a : Act) (w : World), wpAnyH P md ops Q S2 fuel listed a w → wpAnyH P md ops Q S1 fuel listed a w
  | 0, _, _, _, h => h
  | fuel + 1, _, _, _, h => ⟨h.1, fun i hi' => wpOp_mono (fun a' w' h' => ⟨hi _ h'.1, wpAnyH_more hi fuel _ a' w' h'.2⟩) (h.2 i hi')⟩
theorem Depth.ne {w : World} {q B : Nat} {x y z : Int} {s : ByteArray} (h : Depth w q x y z) (hB : w.heap[B]? = some (.cells #[.string s] 9 (0, 0))) : q ≠ B := by
  rintro rfl
  unfold Depth at h
  rw [h] at hB
  simp at hB
theorem Depth.set {w : World} {q B : Nat} {x y z : Int} (h : Depth w q x y z) (hne : q ≠ B) (v : Value) : Depth (w.setCell ⟨B, 0, none⟩ v) q x y z := (Below.heap_setCell w ⟨B, 0, none⟩ v q hne).trans h
set_option maxRecDepth 100000 in
set_option maxHeartbeats 6400000 in
theorem sig_dict (N : Nat) (ih : SigIH N) (k : UInt8) (hk : keyB k.toNat = true) (hkb : k ∈ basicL) (t : Ty) (htp : t.plain) (htk : t.keyed) (hN : t.sig.length < N) (hN1 : 1 < N) (h255 : t.sig.length + 4 ≤ 255) (p : Nat) (a b d : Int) (ha : 0 ≤ a) (hb : 0 ≤ b) (hd : 0 ≤ d) (ha' : a ≤ 31) (hb' : b ≤ 32) (hd' : d ≤ 31) (hok : t.ok (32 - (a + 1)) (32 - b) (32 - (d + 1))) (w : World) (h : Depth w p a b d) :
    Calls Tryz.prog 70 #[.string (bs (123 :: k :: zty t)), .pointer (some ⟨p, 0, none⟩)] w (GsR (97 :: 123 :: k :: (t.sig ++ [125])) w) := by
  have hmf : ∀ (fn : Fn) (first cap : Array Value) (w : World), (Instr.makeFunc fn first cap).run Tryz.prog w = .ok (.func fn first cap) w := fun _ _ _ _ => rfl
  have HM : ∀ w, Calls Tryz.prog 72 #[.string (bs (123 :: k :: zty t))] w fun e w' => e = .returned (.int .i64 14) ∧ w' = w := kind_calls 123 (by decide) _
  have M0 := Mid.start h
  have hcat : ¬ 9223372036854775807 < 3 + t.sig.length := by omega
  have hcat2 : ¬ 9223372036854775807 < 3 + t.sig.length + 1 := by omega
  have hbs1 : ({ data := #[97, 123] } : ByteArray) ++ bs [k] = bs [97, 123, k] := ba_ext (by simp [bs])
  have hbs2 : bs [97, 123, k] ++ bs t.sig = bs (97 :: 123 :: k :: t.sig) := ba_ext (by simp [bs])
  have hbs3 : bs (97 :: 123 :: k :: t.sig) ++ ({ data := #[125] } : ByteArray) = bs (97 :: 123 :: k :: (t.sig ++ [125])) := ba_ext (by simp [bs])
  have hsz1 : (bs [97, 123, k]).size = 3 := rfl
  have hsz2 : (bs (97 :: 123 :: k :: t.sig)).size = 3 + t.sig.length := by simp; omega
  have hkty : (Ty.basic k).ok (32 - (a + 1)) (32 - b) (32 - (d + 1)) := ⟨hkb, by omega, by omega, by omega⟩
  have ihk : ∀ (q : Nat) (w : World), Depth w q (a + 1) b (d + 1) → Calls Tryz.prog 70 #[.string (bs [k]), .pointer (some ⟨q, 0, none⟩)] w (GsR [k] w) := fun q w hq => ih (.basic k) hkb trivial hN1 (by simp [Ty.sig]) q (a + 1) b (d + 1) (by omega) hb (by omega) hkty w hq
  go_enter_defers Tryz.func70, Tryz.ntmps70
  go_wp2_with (first | (go_at_call 107; refine (depthValid_calls p a b d (by omega) hb' (by omega) _ M0.dep).mono ?_; rintro _ _ ⟨rfl, rfl⟩) | (go_at_call 72; refine (HM _).mono ?_; rintro _ _ ⟨rfl, rfl⟩) | (go_at_call 73; refine (key_calls _ _ _ _).mono ?_; rintro _ _ ⟨rfl, rfl⟩) | (go_at_call 114; refine (keyType_calls k hk _).mono ?_; rintro _ _ ⟨rfl, rfl⟩))
  have M1 := M0.drew
  obtain ⟨p0, p1, p2, q0, f0⟩ := M1.cells
  refine wp_region_noPanic ?_
  refine wp_region_held_drew (S := fun w' => w'.cell? ⟨p, 0, none⟩ = some (.int .i64 a) ∧ w'.cell? ⟨p, 1, none⟩ = some (.int .i64 b) ∧ w'.cell? ⟨p, 2, none⟩ = some (.int .i64 d)) (by kernel_rfl) ⟨p0, p1, p2⟩ (fun hHeld => ?_)
  refine wpAnyH_take (i := 0) (oi := _) (v := ?_) rfl (by kernel_rfl) (by kernel_rfl) (by kernel_rfl) (fun _ _ _ h => h) (Or.inl ⟨by rfl, ?_⟩) (by assumption) ?_
  rotate_left
  · intro w hSw
    (try dsimp only at hSw)
    go_simp
    all_goals (with_reducible rfl)
  try simp only [Act.put, List.setIfInBounds_toArray, List.set_cons_zero, List.set_cons_succ]
  refine wpAnyH_take (i := 2) (oi := _) (v := ?_) rfl (by kernel_rfl) (by kernel_rfl) (by kernel_rfl) (fun _ _ _ h => h) (Or.inl ⟨by rfl, ?_⟩) (by assumption) ?_
  rotate_left
  · intro w hSw
    (try dsimp only at hSw)
    go_simp
    all_goals (with_reducible rfl)
  try simp only [Act.put, List.setIfInBounds_toArray, List.set_cons_zero, List.set_cons_succ]
  refine wpAnyH_take (i := 3) (oi := _) (v := ?_) rfl (by kernel_rfl) (by kernel_rfl) (by kernel_rfl) (fun _ _ _ h => h) (Or.inl ⟨by rfl, ?_⟩) (by assumption) ?_
  rotate_left
  · intro w hSw
    (try dsimp only at hSw)
    go_simp
    all_goals (with_reducible rfl)
  try simp only [Act.put, List.setIfInBounds_toArray, List.set_cons_zero, List.set_cons_succ]
  refine wpAnyH_take (i := 4) (oi := _) (v := ?_) rfl (by kernel_rfl) (by kernel_rfl) (by kernel_rfl) (fun _ _ _ h => h) (Or.inl ⟨by rfl, ?_⟩) (by assumption) ?_
  rotate_left
  · intro w hSw
    (try dsimp only at hSw)
    go_simp
    all_goals (with_reducible rfl)
  try simp only [Act.put, List.setIfInBounds_toArray, List.set_cons_zero, List.set_cons_succ]
  refine wpAnyH_take (i := 11) (oi := _) (v := ?_) rfl (by kernel_rfl) (by kernel_rfl) (by kernel_rfl) (fun _ _ _ h => h) (Or.inl ⟨by rfl, ?_⟩) (by assumption) ?_
  rotate_left
  · intro w hSw
    (try dsimp only at hSw)
    go_simp
    all_goals (with_reducible rfl)
  try simp only [Act.put, List.setIfInBounds_toArray, List.set_cons_zero, List.set_cons_succ]
  refine wpAnyH_take (i := 13) (oi := _) (v := ?_) rfl (by kernel_rfl) (by kernel_rfl) (by kernel_rfl) (fun _ _ _ h => h) (Or.inl ⟨by rfl, ?_⟩) (by assumption) ?_
  rotate_left
  · intro w hSw
    (try dsimp only at hSw)
    go_simp
    all_goals (with_reducible rfl)
  try simp only [Act.put, List.setIfInBounds_toArray, List.set_cons_zero, List.set_cons_succ]
  refine wpAnyH_take (i := 14) (oi := _) (v := ?_) rfl (by kernel_rfl) (by kernel_rfl) (by kernel_rfl) (fun _ _ _ h => h) (Or.inl ⟨by rfl, ?_⟩) (by assumption) ?_
  rotate_left
  · intro w hSw
    (try dsimp only at hSw)
    go_simp
    all_goals (with_reducible rfl)
  try simp only [Act.put, List.setIfInBounds_toArray, List.set_cons_zero, List.set_cons_succ]
  refine wpAnyH_take (i := 15) (oi := _) (v := ?_) rfl (by kernel_rfl) (by kernel_rfl) (by kernel_rfl) (fun _ _ _ h => h) (Or.inl ⟨by rfl, ?_⟩) (by assumption) ?_
  rotate_left
  · intro w hSw
    (try dsimp only at hSw)
    go_simp
    all_goals (with_reducible rfl)
  try simp only [Act.put, List.setIfInBounds_toArray, List.set_cons_zero, List.set_cons_succ]
  refine wpAnyH_ready (rs := [1]) (by kernel_rfl) (by simp) ?_
  refine AllReadyH.cons (o := _) rfl (fun K hK => ?_) AllReadyH.nil
  go_simp
  refine (key_calls _ _ _ _).mono ?_; rintro _ _ ⟨rfl, rfl⟩
  refine hK.out _ _ ⟨p0, p1, p2⟩ (fun hHeld => ?_)
  clear hK K
  try simp only [Act.put, List.setIfInBounds_toArray, List.set_cons_zero, List.set_cons_succ]
  refine wpAnyH_ready (rs := [5]) (by kernel_rfl) (by simp) ?_
  refine AllReadyH.cons (o := _) rfl (fun K hK => ?_) AllReadyH.nil
  go_simp
  refine (enterArray_calls a b d (by omega) _).mono ?_; rintro _ wa ⟨pa, rfl, hA1, hA2⟩; have MA := M1.below hA2; obtain ⟨ma0, ma1, ma2, qa, fa⟩ := MA.cells; obtain ⟨ra0, ra1, ra2⟩ := hA1.cells
  refine hK.out _ _ ⟨ma0, ma1, ma2⟩ (fun hHeld => ?_)
  clear hK K
  try simp only [Act.put, List.setIfInBounds_toArray, List.set_cons_zero, List.set_cons_succ]
  refine wpAnyH_more (S2 := fun w' => w'.cell? ⟨p, 0, none⟩ = some (.int .i64 a) ∧ w'.cell? ⟨p, 1, none⟩ = some (.int .i64 b) ∧ w'.cell? ⟨p, 2, none⟩ = some (.int .i64 d) ∧ w'.cell? ⟨pa, 0, none⟩ = some (.int .i64 (a + 1)) ∧ w'.cell? ⟨pa, 1, none⟩ = some (.int .i64 b) ∧ w'.cell? ⟨pa, 2, none⟩ = some (.int .i64 d)) (fun w hq => ⟨hq.1, hq.2.1, hq.2.2.1⟩) _ _ _ _ ?_
  have hHeld2 := (⟨ma0, ma1, ma2, ra0, ra1, ra2⟩ : _ ∧ _ ∧ _ ∧ _ ∧ _ ∧ _)
  refine wpAnyH_take (i := 6) (oi := _) (v := ?_) rfl (by kernel_rfl) (by kernel_rfl) (by kernel_rfl) (fun _ _ _ h => h) (Or.inl ⟨by rfl, ?_⟩) (by assumption) ?_
  rotate_left
  · intro w hSw
    (try dsimp only at hSw)
    go_simp
    all_goals (with_reducible rfl)
  try simp only [Act.put, List.setIfInBounds_toArray, List.set_cons_zero, List.set_cons_succ]
  refine wpAnyH_take (i := 7) (oi := _) (v := ?_) rfl (by kernel_rfl) (by kernel_rfl) (by kernel_rfl) (fun _ _ _ h => h) (Or.inl ⟨by rfl, ?_⟩) (by assumption) ?_
  rotate_left
  · intro w hSw
    (try dsimp only at hSw)
    go_simp
    all_goals (with_reducible rfl)
  try simp only [Act.put, List.setIfInBounds_toArray, List.set_cons_zero, List.set_cons_succ]
  refine wpAnyH_ready (rs := [8]) (by kernel_rfl) (by simp) ?_
  refine AllReadyH.cons (o := _) rfl (fun K hK => ?_) AllReadyH.nil
  go_simp
  refine (enterDict_calls (a + 1) b d (by omega) _).mono ?_; rintro _ wb ⟨pb, rfl, hB1, hB2⟩; have MB := MA.below hB2; have hA1b := hA1.below hB2; obtain ⟨mb0, mb1, mb2, qb, fb⟩ := MB.cells; obtain ⟨rb0, rb1, rb2⟩ := hA1b.cells
  refine hK.out _ _ ⟨mb0, mb1, mb2, rb0, rb1, rb2⟩ (fun hHeld => ?_)
  clear hK K
  try simp only [Act.put, List.setIfInBounds_toArray, List.set_cons_zero, List.set_cons_succ]
  refine wpAnyH_ready (rs := [9]) (by kernel_rfl) (by simp) ?_
  refine AllReadyH.cons (o := _) rfl (fun K hK => ?_) AllReadyH.nil
  go_simp
  refine (ihk _ _ hB1).mono ?_; rintro _ wc ⟨rfl, hb3⟩; have MC := MB.below hb3; have hA1c := hA1b.below hb3; obtain ⟨mc0, mc1, mc2, qc, fc⟩ := MC.cells; obtain ⟨rc0, rc1, rc2⟩ := hA1c.cells
  refine hK.out _ _ ⟨mc0, mc1, mc2, rc0, rc1, rc2⟩ (fun hHeld => ?_)
  clear hK K
  try simp only [Act.put, List.setIfInBounds_toArray, List.set_cons_zero, List.set_cons_succ]
  refine wpAnyH_take (i := 10) (oi := _) (v := ?_) rfl (by kernel_rfl) (by kernel_rfl) (by kernel_rfl) (fun _ _ _ h => h) (Or.inl ⟨by rfl, ?_⟩) (by assumption) ?_
  rotate_left
  · intro w hSw
    (try dsimp only at hSw)
    go_simp
    all_goals (with_reducible rfl)
  try simp only [Act.put, List.setIfInBounds_toArray, List.set_cons_zero, List.set_cons_succ]
  refine wpAnyH_ready (rs := [12]) (by kernel_rfl) (by simp) ?_
  refine AllReadyH.cons (o := _) rfl (fun K hK => ?_) AllReadyH.nil
  go_simp
  refine (elem_dict _ _ _).mono ?_; rintro _ _ ⟨rfl, rfl⟩
  refine hK.out _ _ ⟨mc0, mc1, mc2, rc0, rc1, rc2⟩ (fun hHeld => ?_)
  clear hK K
  try simp only [Act.put, List.setIfInBounds_toArray, List.set_cons_zero, List.set_cons_succ]
  refine wpAnyH_ready (rs := [16]) (by kernel_rfl) (by simp) ?_
  refine AllReadyH.cons (o := _) rfl (fun K hK => ?_) AllReadyH.nil
  go_simp
  refine (enterArray_calls a b d (by omega) _).mono ?_; rintro _ wd ⟨pd, rfl, hD1, hD2⟩; have MD := MC.below hD2; obtain ⟨md0, md1, md2, qd, fd⟩ := MD.cells; obtain ⟨rd0, rd1, rd2⟩ := hD1.cells; obtain ⟨sd0, sd1, sd2⟩ := (hA1c.below hD2).cells
  refine hK.out _ _ ⟨md0, md1, md2, sd0, sd1, sd2⟩ (fun hHeld => ?_)
  clear hK K
  try simp only [Act.put, List.setIfInBounds_toArray, List.set_cons_zero, List.set_cons_succ]
  refine wpAnyH_more (S2 := fun w' => (w'.cell? ⟨p, 0, none⟩ = some (.int .i64 a) ∧ w'.cell? ⟨p, 1, none⟩ = some (.int .i64 b) ∧ w'.cell? ⟨p, 2, none⟩ = some (.int .i64 d) ∧ w'.cell? ⟨pa, 0, none⟩ = some (.int .i64 (a + 1)) ∧ w'.cell? ⟨pa, 1, none⟩ = some (.int .i64 b) ∧ w'.cell? ⟨pa, 2, none⟩ = some (.int .i64 d)) ∧ w'.cell? ⟨pd, 0, none⟩ = some (.int .i64 (a + 1)) ∧ w'.cell? ⟨pd, 1, none⟩ = some (.int .i64 b) ∧ w'.cell? ⟨pd, 2, none⟩ = some (.int .i64 d)) (fun w hq => hq.1) _ _ _ _ ?_
  have hHeld3 := And.intro hHeld (And.intro rd0 (And.intro rd1 rd2))
  refine wpAnyH_take (i := 17) (oi := _) (v := ?_) rfl (by kernel_rfl) (by kernel_rfl) (by kernel_rfl) (fun _ _ _ h => h) (Or.inl ⟨by rfl, ?_⟩) (by assumption) ?_
  rotate_left
  · intro w hSw
    (try dsimp only at hSw)
    go_simp
    all_goals (with_reducible rfl)
  try simp only [Act.put, List.setIfInBounds_toArray, List.set_cons_zero, List.set_cons_succ]
  refine wpAnyH_take (i := 18) (oi := _) (v := ?_) rfl (by kernel_rfl) (by kernel_rfl) (by kernel_rfl) (fun _ _ _ h => h) (Or.inl ⟨by rfl, ?_⟩) (by assumption) ?_
  rotate_left
  · intro w hSw
    (try dsimp only at hSw)
    go_simp
    all_goals (with_reducible rfl)
  try simp only [Act.put, List.setIfInBounds_toArray, List.set_cons_zero, List.set_cons_succ]
  refine wpAnyH_ready (rs := [19]) (by kernel_rfl) (by simp) ?_
  refine AllReadyH.cons (o := _) rfl (fun K hK => ?_) AllReadyH.nil
  go_simp
  refine (enterDict_calls (a + 1) b d (by omega) _).mono ?_; rintro _ we ⟨pe, rfl, hE1, hE2⟩; have ME := MD.below hE2; have hA1e := (hA1c.below hD2).below hE2; have hD1e := hD1.below hE2; obtain ⟨me0, me1, me2, qe, fe⟩ := ME.cells; obtain ⟨te0, te1, te2⟩ := hA1e.cells; obtain ⟨ue0, ue1, ue2⟩ := hD1e.cells
  refine hK.out _ _ ⟨⟨me0, me1, me2, te0, te1, te2⟩, ue0, ue1, ue2⟩ (fun hHeld => ?_)
  clear hK K
  try simp only [Act.put, List.setIfInBounds_toArray, List.set_cons_zero, List.set_cons_succ]
  refine wpAnyH_ready (rs := [20]) (by kernel_rfl) (by simp) ?_
  refine AllReadyH.cons (o := _) rfl (fun K hK => ?_) AllReadyH.nil
  go_simp
  refine (ih t htp htk hN (by omega) _ (a + 1) b (d + 1) (by omega) hb (by omega) hok _ hE1).mono ?_; rintro _ wf ⟨rfl, hf3⟩; have MF := ME.below hf3; obtain ⟨mf0, mf1, mf2, qf, ff⟩ := MF.cells; obtain ⟨tf0, tf1, tf2⟩ := (hA1e.below hf3).cells; obtain ⟨uf0, uf1, uf2⟩ := (hD1e.below hf3).cells
  refine hK.out _ _ ⟨⟨mf0, mf1, mf2, tf0, tf1, tf2⟩, uf0, uf1, uf2⟩ (fun hHeld => ?_)
  clear hK K
  try simp only [Act.put, List.setIfInBounds_toArray, List.set_cons_zero, List.set_cons_succ]
  refine wpAnyH_take (i := 21) (oi := _) (v := ?_) rfl (by kernel_rfl) (by kernel_rfl) (by kernel_rfl) (fun _ _ _ h => h) (Or.inl ⟨by rfl, ?_⟩) (by assumption) ?_
  rotate_left
  · intro w hSw
    (try dsimp only at hSw)
    go_simp
    all_goals (with_reducible rfl)
  try simp only [Act.put, List.setIfInBounds_toArray, List.set_cons_zero, List.set_cons_succ]
  refine wpAnyH_take (i := 22) (oi := _) (v := ?_) rfl (by kernel_rfl) (by kernel_rfl) (by kernel_rfl) (fun _ _ _ h => h) (Or.inl ⟨by rfl, ?_⟩) (by assumption) ?_
  rotate_left
  · intro w hSw
    (try dsimp only at hSw)
    go_simp
    all_goals (with_reducible rfl)
  try simp only [Act.put, List.setIfInBounds_toArray, List.set_cons_zero, List.set_cons_succ]
  have hA1f := hA1e.below hf3
  have hD1f := hD1e.below hf3
  have M4 := MF.set (Nat.le_refl _) (97 :: 123 :: k :: (t.sig ++ [125]))
  have hA1g := hA1f.set (hA1f.ne MF.var) (.string (bs (97 :: 123 :: k :: (t.sig ++ [125]))))
  have hD1g := hD1f.set (hD1f.ne MF.var) (.string (bs (97 :: 123 :: k :: (t.sig ++ [125]))))
  refine wpAnyH_ready (rs := [23]) (by kernel_rfl) (by simp) ?_
  refine AllReadyH.cons (o := _) rfl (fun K hK => ?_) AllReadyH.nil
  go_simp
  refine hK.out _ _ ⟨⟨M4.cells.1, M4.cells.2.1, M4.cells.2.2.1, hA1g.cells.1, hA1g.cells.2.1, hA1g.cells.2.2⟩, hD1g.cells⟩ (fun hHeld => ?_)
  clear hK K
  refine wpAnyH_done (by kernel_rfl) ?_ _
  refine NoPanic.normal ?_
  go_wp2_with fail
  exact sig_shut _ (by simp; omega) _ _ w.heap.size _ rfl rfl M4.var M4.bel
end Go.Proofs.YtjbpphomlmlmaaaGreatDoor
