/- One complete type at the head of a signature. -/
import Derived.Test.YtjbpphomlmlmaaaGreatDoorQE1
namespace Go.Proofs.YtjbpphomlmlmaaaGreatDoor
open Go.RowKit
set_option linter.unusedVariables false
set_option linter.unusedSimpArgs false
def VsR (r : List UInt8) (w : World) (e : Ending) (w' : World) : Prop := e = .returned (.tuple #[.nilIface, .string (bs r)]) ∧ Below w.heap.size w w'
/-- What 'validSingle' answers of shorter types. -/
def VsIH (N : Nat) : Prop := ∀ (t : Ty), t.plain → t.sig.length < N → t.sig.length ≤ 255 → ∀ (r : List UInt8), Ascii r → r.length ≤ 1000 → ∀ (p : Nat) (a b d : Int), 0 ≤ a → 0 ≤ b → 0 ≤ d → t.ok (32 - a) (32 - b) (32 - d) → ∀ (w : World), Depth w p a b d →
  Calls Tryz.prog 116 #[.string (bs (t.sig ++ r)), .pointer (some ⟨p, 0, none⟩)] w (VsR r w)
set_option maxRecDepth 100000 in
set_option maxHeartbeats 6400000 in
theorem vs_one (c : UInt8) (hc : c ∈ basicL ∨ c = 118) (r : List UInt8) (p : Nat) (a b d : Int) (ha : a ≤ 32) (hb : b ≤ 32) (hd : d ≤ 32) (w : World) (h : Depth w p a b d) : Calls Tryz.prog 116 #[.string (bs (c :: r)), .pointer (some ⟨p, 0, none⟩)] w (VsR r w) := by
  simp only [basicL, List.mem_cons, List.mem_nil_iff, or_false] at hc
  have hx := bs_ext1 c r
  have hq : (1 : Int) ≤ (r.length : Int) + 1 := by omega
  rcases hc with (rfl | rfl | rfl | rfl | rfl | rfl | rfl | rfl | rfl | rfl | rfl | rfl | rfl) | rfl
  all_goals
    go_enter Tryz.func116, Tryz.ntmps116
    go_wp2_with (go_at_call 107; refine (depthValid_calls p a b d ha hb hd _ h).mono ?_; rintro _ _ ⟨rfl, rfl⟩)
    go_region
    go_wp2_with fail
    go_ret2
    exact ⟨rfl, (Below.refl _ _).drew⟩
set_option maxRecDepth 100000 in
set_option maxHeartbeats 6400000 in
theorem vs_arr (N : Nat) (ih : VsIH N) (t : Ty) (htp : t.plain) (hN : t.sig.length < N) (h255 : t.sig.length ≤ 255) (r : List UInt8) (hA : Ascii r) (hr : r.length ≤ 1000) (p : Nat) (a b d : Int) (ha0 : 0 ≤ a) (hb0 : 0 ≤ b) (hd0 : 0 ≤ d) (ha : a ≤ 32) (hb : b ≤ 32) (hd : d ≤ 32) (hok : t.ok (32 - (a + 1)) (32 - b) (32 - d)) (w : World) (h : Depth w p a b d) :
    Calls Tryz.prog 116 #[.string (bs (97 :: (t.sig ++ r))), .pointer (some ⟨p, 0, none⟩)] w (VsR r w) := by
  have hx := bs_ext1 97 (t.sig ++ r)
  simp only [List.length_append] at hx
  obtain ⟨c, q, hcq, _, _, h123⟩ := Ty.sig_head htp
  have hch : ∀ h : 0 < t.sig.length, ((t.sig[0]'h).toNat == (123 : Int)) = false := by
    intro h
    have : t.sig[0]'h = c := by simp [hcq]
    rw [this]
    simp
    exact fun hc => h123 (u8_of_int (n := 123) hc)
  have hpos : 0 < t.sig.length := by rw [hcq]; simp
  have hq : (1 : Int) ≤ (t.sig.length : Int) + (r.length : Int) + 1 := by omega
  have hgt : (1 : Int) < (t.sig.length : Int) + (r.length : Int) + 1 := by omega
  clear hcq
  have hdr : Depth w.drew p a b d := h
  obtain ⟨p0, p1, p2⟩ := hdr.cells
  go_enter Tryz.func116, Tryz.ntmps116
  go_wp2_with (go_at_call 107; refine (depthValid_calls p a b d ha hb hd _ h).mono ?_; rintro _ _ ⟨rfl, rfl⟩)
  all_goals first
    | (exfalso; omega)
    | skip
  go_region_held3 (fun w' => w'.cell? ⟨p, 0, none⟩ = some (.int .i64 a) ∧ w'.cell? ⟨p, 1, none⟩ = some (.int .i64 b) ∧ w'.cell? ⟨p, 2, none⟩ = some (.int .i64 d))
    (first | exact ⟨p0, p1, p2⟩ | exact ⟨m0, m1, m2⟩ | exact ⟨n0, n1, n2⟩)
    (first
      | (go_at_call 113; refine (enterArray_calls a b d (by omega) _).mono ?_; rintro _ w2 ⟨pe, rfl, hE1, hE2⟩; have h2 := hdr.below hE2; obtain ⟨m0, m1, m2⟩ := h2.cells)
      | (go_at_call 116; refine (ih t htp hN h255 r hA hr _ (a + 1) b d (by omega) hb0 hd0 hok _ hE1).mono ?_; rintro _ w3 ⟨rfl, hb3⟩; obtain ⟨n0, n1, n2⟩ := (h2.below hb3).cells))
  go_wp2_with fail
  go_ret2
  exact ⟨rfl, ((Below.refl _ _).drew.trans hE2).trans (hb3.mono hE2.size)⟩
set_option maxRecDepth 100000 in
set_option maxHeartbeats 6400000 in
theorem vs_str (N : Nat) (ih : VsIH N) (ts : List Ty) (hne : ts ≠ []) (htp : Ty.plains ts) (hN : (Ty.sigs ts).length < N) (h255 : (Ty.sigs ts).length + 2 ≤ 255) (r : List UInt8) (hA : Ascii r) (hr : r.length ≤ 1000) (p : Nat) (a b d : Int) (ha0 : 0 ≤ a) (hb0 : 0 ≤ b) (hd0 : 0 ≤ d) (ha : a ≤ 32) (hb : b ≤ 32) (hd : d ≤ 32) (hok : Ty.oks ts (32 - a) (32 - (b + 1)) (32 - d)) (w : World) (h : Depth w p a b d) :
    Calls Tryz.prog 116 #[.string (bs (40 :: (Ty.sigs ts ++ 41 :: r))), .pointer (some ⟨p, 0, none⟩)] w (VsR r w) := by
  have hbal := bal_rounds ts htp
  have hFM := fun w => findMatching_calls 40 41 (by decide) (40 :: (Ty.sigs ts ++ 41 :: r)) (.cons (by decide) (.append (ascii_tys ts htp) (.cons (by decide) hA))) ((Ty.sigs ts).length + 1) (by simp) (by simp; omega) (fun j hj => hbal.inside _ j (by omega)) (hbal.close (by decide) r) w
  have hx1 : (bs (40 :: (Ty.sigs ts ++ 41 :: r))).extract ((Ty.sigs ts).length + 1 + 1) ((Ty.sigs ts).length + (r.length + 1) + 1) = bs r := by
    have := bs_from (40 :: (Ty.sigs ts ++ 41 :: r)) ((Ty.sigs ts).length + 1 + 1)
    rw [show (40 :: (Ty.sigs ts ++ 41 :: r)).length = (Ty.sigs ts).length + (r.length + 1) + 1 by simp] at this
    rw [this]; congr 1; simp
  have hx2 : (bs (40 :: (Ty.sigs ts ++ 41 :: r))).extract 1 ((Ty.sigs ts).length + 1) = bs (Ty.sigs ts) := by
    apply ba_ext
    simp only [ByteArray.data_extract, Array.toList_extract, List.extract_eq_take_drop, bs_data]
    simp
  have hm1 : (((Ty.sigs ts).length : Int) + 1 == -1) = false := by simp; omega
  go_enter Tryz.func116, Tryz.ntmps116
  go_wp2_with (first | (go_at_call 107; refine (depthValid_calls p a b d ha hb hd _ h).mono ?_; rintro _ w0 ⟨rfl, rfl⟩) | (go_at_call 144; refine (hFM _).mono ?_; rintro _ w1 ⟨rfl, hb1⟩))
  have HX1 := Lib.hid hx1
  clear hx1
  go_loopw [0, 4] (fun s e wr => ∃ (us vs : List Ty), us ++ vs = ts ∧ s = .string (bs (Ty.sigs vs)) ∧ e = .nilIface ∧ Below w0.heap.size w0 wr) (fun s _ _ => match s with | .string b => b.size | _ => 0)
  case atStart => exact ⟨[], ts, rfl, rfl, rfl, hb1⟩
  case round =>
    obtain ⟨us, vs, hts, rfl, rfl, hbr⟩ := hrel
    have hdr : Depth wr p a b d := h.below hbr
    obtain ⟨p0, p1, p2⟩ := hdr.cells
    cases vs with
    | nil =>
      simp only [Ty.sigs]
      go_wp2_with fail
      go_ret2
      exact ⟨congrArg (fun b => Ending.returned (.tuple #[.nilIface, .string b])) HX1.out, hbr⟩
    | cons t vs =>
      have htm : t ∈ ts := by rw [← hts]; simp
      have htp1 := Ty.plains_mem htp _ htm
      have hok1 := oks_mem hok _ htm
      obtain ⟨c, q, hcq, _⟩ := Ty.sig_head htp1
      have hpos : 0 < t.sig.length := by rw [hcq]; simp
      clear hcq
      have hnn : (t.sig ++ Ty.sigs vs).isEmpty = false := by
        cases hq : t.sig with
        | nil => rw [hq] at hpos; simp at hpos
        | cons x y => rfl
      have hL : (Ty.sigs us).length + (t.sig.length + (Ty.sigs vs).length) = (Ty.sigs ts).length := by rw [← hts, Ty.sigs_append]; simp [Ty.sigs]
      have hAv : Ascii (Ty.sigs vs) := fun c hc => ascii_tys ts htp c (by rw [← hts, Ty.sigs_append]; simp [Ty.sigs, hc])
      have hv1 : t.sig.length < N := by omega
      have hv2 : t.sig.length ≤ 255 := by omega
      have hv3 : (Ty.sigs vs).length ≤ 1000 := by omega
      have HL := Lib.hid hL
      have HTS := Lib.hid hts
      clear hL hts
      simp only [Ty.sigs]
      go_wp2_with (first
        | (go_at_call 112; refine (enterStruct_calls a b d (by omega) _).mono ?_; rintro _ w2 ⟨pe, rfl, hE1, hE2⟩)
        | (go_at_call 116; refine (ih t htp1 hv1 hv2 (Ty.sigs vs) hAv hv3 _ a (b + 1) d ha0 (by omega) hd0 hok1 _ hE1).mono ?_; rintro _ w3 ⟨rfl, hb3⟩))
      go_roundw
      case rel => exact ⟨us ++ [t], vs, by rw [← HTS.out]; simp, rfl, rfl, (hbr.trans (hE2.mono hbr.size)).trans (hb3.mono (by have := hbr.size; have := hE2.size; omega))⟩
      case measure => simp; omega
set_option maxRecDepth 100000 in
set_option maxHeartbeats 6400000 in
theorem vs_dict (N : Nat) (ih : VsIH N) (k : UInt8) (hkb : k ∈ basicL) (t : Ty) (htp : t.plain) (hN : t.sig.length < N) (hN1 : 1 < N) (h255 : t.sig.length + 4 ≤ 255) (r : List UInt8) (hA : Ascii r) (hr : r.length ≤ 1000) (p : Nat) (a b d : Int) (ha0 : 0 ≤ a) (hb0 : 0 ≤ b) (hd0 : 0 ≤ d) (ha : a ≤ 31) (hb : b ≤ 32) (hd : d ≤ 31) (hok : t.ok (32 - (a + 1)) (32 - b) (32 - (d + 1))) (w : World) (h : Depth w p a b d) :
    Calls Tryz.prog 116 #[.string (bs (97 :: 123 :: k :: (t.sig ++ 125 :: r))), .pointer (some ⟨p, 0, none⟩)] w (VsR r w) := by
  have hk := basic_ne hkb
  have hbal : Bal 123 125 (k :: t.sig) := Bal.cons hk.2.2.2.2.1 hk.2.2.2.2.2 (bal_curly t htp)
  have hA1 : Ascii (123 :: ((k :: t.sig) ++ 125 :: r)) := Ascii.cons (by decide) (Ascii.append (Ascii.cons (ascii_basic hkb) (ascii_ty t htp)) (Ascii.cons (by decide) hA))
  have hin : ∀ j, j < t.sig.length + 2 → 0 < bal 123 125 ((123 :: ((k :: t.sig) ++ 125 :: r)).take (j + 1)) := fun j hj => Bal.inside (l := k :: t.sig) hbal (125 :: r) j (by simp; omega)
  have hcl : bal 123 125 ((123 :: ((k :: t.sig) ++ 125 :: r)).take (t.sig.length + 2 + 1)) = 0 := Bal.close (l := k :: t.sig) (by decide) hbal r
  have hFM : ∀ w, Calls Tryz.prog 144 #[.string (bs (123 :: k :: (t.sig ++ 125 :: r))), .int .i32 123, .int .i32 125] w fun e w' => e = .returned (.int .i64 (t.sig.length + 2 : Nat)) ∧ Below w.heap.size w w' := fun w =>
    findMatching_calls 123 125 (by decide) (123 :: ((k :: t.sig) ++ 125 :: r)) hA1 (t.sig.length + 2) (by simp) (by simp; omega) hin hcl w
  clear hA1 hin hcl
  have hx0 := bs_ext1 97 (123 :: k :: (t.sig ++ 125 :: r))
  have hx1 : (bs (97 :: 123 :: k :: (t.sig ++ 125 :: r))).extract (t.sig.length + 2 + 1 + 1) (t.sig.length + (r.length + 1) + 1 + 1 + 1) = bs r := by
    have := bs_from (97 :: 123 :: k :: (t.sig ++ 125 :: r)) (t.sig.length + 2 + 1 + 1)
    rw [show (97 :: 123 :: k :: (t.sig ++ 125 :: r)).length = t.sig.length + (r.length + 1) + 1 + 1 + 1 by simp] at this
    rw [this]; congr 1; simp
  have hx2 : (bs (97 :: 123 :: k :: (t.sig ++ 125 :: r))).extract 2 (t.sig.length + 2 + 1) = bs (k :: t.sig) := by
    apply ba_ext
    simp only [ByteArray.data_extract, Array.toList_extract, List.extract_eq_take_drop, bs_data]
    simp
  have hx3 : (bs (k :: t.sig)).extract 0 1 = bs [k] := by
    apply ba_ext
    simp only [ByteArray.data_extract, Array.toList_extract, List.extract_eq_take_drop, bs_data]
    simp
  have hx4 := bs_ext1 k t.sig
  simp only [List.length_cons, List.length_append] at hx0
  have hq1 : (1 : Int) ≤ (t.sig.length : Int) + 1 := by omega
  have hm1 : ((t.sig.length : Int) + 2 == -1) = false := by simp; omega
  have hkok : (Ty.basic k).ok (32 - (a + 1)) (32 - b) (32 - (d + 1)) := ⟨hkb, by omega, by omega, by omega⟩
  have ihk : ∀ (q : Nat) (w : World), Depth w q (a + 1) b (d + 1) → Calls Tryz.prog 116 #[.string (bs [k]), .pointer (some ⟨q, 0, none⟩)] w (VsR [] w) := fun q w hq => ih (.basic k) hkb hN1 (by simp [Ty.sig]) [] .nil (by simp) q (a + 1) b (d + 1) (by omega) hb0 (by omega) hkok w hq
  have iht : ∀ (q : Nat) (w : World), Depth w q (a + 1) b (d + 1) → Calls Tryz.prog 116 #[.string (bs t.sig), .pointer (some ⟨q, 0, none⟩)] w (VsR [] w) := fun q w hq => by
    have := ih t htp hN (by omega) [] .nil (by simp) q (a + 1) b (d + 1) (by omega) hb0 (by omega) hok w hq
    rwa [List.append_nil] at this
  clear ih hbal
  go_enter Tryz.func116, Tryz.ntmps116
  go_wp2_with (first | (go_at_call 107; refine (depthValid_calls p a b d (by omega) hb (by omega) _ h).mono ?_; rintro _ w0 ⟨rfl, rfl⟩) | (go_at_call 144; refine (hFM _).mono ?_; rintro _ w1 ⟨rfl, hb1⟩))
  all_goals first
    | (exfalso; omega)
    | skip
  have xD0 : Depth w1 p a b d := h.below hb1
  have xD : Depth w1.drew p a b d := xD0
  obtain ⟨xp0, xp1, xp2⟩ := xD.cells
  refine wp_region_held_drew (S := fun w' => w'.cell? ⟨p, 0, none⟩ = some (.int .i64 a) ∧ w'.cell? ⟨p, 1, none⟩ = some (.int .i64 b) ∧ w'.cell? ⟨p, 2, none⟩ = some (.int .i64 d)) (by kernel_rfl) ⟨xp0, xp1, xp2⟩ (fun hHeld => ?_)
  refine wpAnyH_take (i := 0) (oi := _) (v := ?_) rfl (by kernel_rfl) (by kernel_rfl) (by kernel_rfl) (fun _ _ _ h => h) (Or.inl ⟨by rfl, ?_⟩) (by assumption) ?_
  rotate_left
  · intro w hSw
    (try dsimp only at hSw)
    go_simp
    all_goals (with_reducible rfl)
  try simp only [Act.put, List.setIfInBounds_toArray, List.set_cons_zero, List.set_cons_succ]
  refine wpAnyH_take (i := 1) (oi := _) (v := ?_) rfl (by kernel_rfl) (by kernel_rfl) (by kernel_rfl) (fun _ _ _ h => h) (Or.inl ⟨by rfl, ?_⟩) (by assumption) ?_
  rotate_left
  · intro w hSw
    (try dsimp only at hSw)
    go_simp
    all_goals (with_reducible rfl)
  try simp only [Act.put, List.setIfInBounds_toArray, List.set_cons_zero, List.set_cons_succ]
  refine wpAnyH_take (i := 2) (oi := _) (v := ?_) rfl (by kernel_rfl) (by kernel_rfl) (by kernel_rfl) (fun _ _ _ h => h) (Or.inl ⟨by rfl, ?_⟩) (by assumption) ?_
  rotate_left
  · intro w hSw
    (try dsimp only at hSw)
    go_simp
    all_goals (with_reducible rfl)
  try simp only [Act.put, List.setIfInBounds_toArray, List.set_cons_zero, List.set_cons_succ]
  refine wpAnyH_take (i := 3) (oi := _) (v := ?_) rfl (by kernel_rfl) (by kernel_rfl) (by kernel_rfl) (fun _ _ _ h => h) (Or.inl ⟨by rfl, ?_⟩) (by assumption) ?_
  rotate_left
  · intro w hSw
    (try dsimp only at hSw)
    go_simp
    all_goals (with_reducible rfl)
  try simp only [Act.put, List.setIfInBounds_toArray, List.set_cons_zero, List.set_cons_succ]
  refine wpAnyH_take (i := 4) (oi := _) (v := ?_) rfl (by kernel_rfl) (by kernel_rfl) (by kernel_rfl) (fun _ _ _ h => h) (Or.inl ⟨by rfl, ?_⟩) (by assumption) ?_
  rotate_left
  · intro w hSw
    (try dsimp only at hSw)
    go_simp
    all_goals (with_reducible rfl)
  try simp only [Act.put, List.setIfInBounds_toArray, List.set_cons_zero, List.set_cons_succ]
  refine wpAnyH_ready (rs := [5]) (by kernel_rfl) (by simp) ?_
  refine AllReadyH.cons (o := _) rfl (fun K hK => ?_) AllReadyH.nil
  go_simp
  refine (enterArray_calls a b d (by omega) _).mono ?_; rintro _ xwa ⟨xpa, rfl, xA1, xA2⟩; have xDA := xD.below xA2; obtain ⟨xa0, xa1, xa2⟩ := xDA.cells; obtain ⟨xra0, xra1, xra2⟩ := xA1.cells
  refine hK.out _ _ ⟨xa0, xa1, xa2⟩ (fun hHeld => ?_)
  clear hK K
  try simp only [Act.put, List.setIfInBounds_toArray, List.set_cons_zero, List.set_cons_succ]
  refine wpAnyH_more (S2 := fun w' => (w'.cell? ⟨p, 0, none⟩ = some (.int .i64 a) ∧ w'.cell? ⟨p, 1, none⟩ = some (.int .i64 b) ∧ w'.cell? ⟨p, 2, none⟩ = some (.int .i64 d)) ∧ w'.cell? ⟨xpa, 0, none⟩ = some (.int .i64 (a + 1)) ∧ w'.cell? ⟨xpa, 1, none⟩ = some (.int .i64 b) ∧ w'.cell? ⟨xpa, 2, none⟩ = some (.int .i64 d)) (fun w hq => hq.1) _ _ _ _ ?_
  have hHeld2 := And.intro hHeld (And.intro xra0 (And.intro xra1 xra2))
  refine wpAnyH_take (i := 6) (oi := _) (v := ?_) rfl (by kernel_rfl) (by kernel_rfl) (by kernel_rfl) (fun _ _ _ h => h) (Or.inl ⟨by rfl, ?_⟩) (by assumption) ?_
  rotate_left
  · intro w hSw
    (try dsimp only at hSw)
    go_simp
    all_goals (with_reducible rfl)
  try simp only [Act.put, List.setIfInBounds_toArray, List.set_cons_zero, List.set_cons_succ]
  refine wpAnyH_take (i := 7) (oi := _) (v := ?_) rfl (by kernel_rfl) (by kernel_rfl) (by kernel_rfl) (fun _ _ _ h => h) (Or.inl ⟨by rfl, ?_⟩) (by assumption) ?_
  rotate_left
  · intro w hSw
    (try dsimp only at hSw)
    go_simp
    all_goals (with_reducible rfl)
  try simp only [Act.put, List.setIfInBounds_toArray, List.set_cons_zero, List.set_cons_succ]
  refine wpAnyH_ready (rs := [8]) (by kernel_rfl) (by simp) ?_
  refine AllReadyH.cons (o := _) rfl (fun K hK => ?_) AllReadyH.nil
  go_simp
  refine (enterDict_calls (a + 1) b d (by omega) _).mono ?_; rintro _ xwb ⟨xpb, rfl, xB1, xB2⟩; have xDB := xDA.below xB2; have xAB := xA1.below xB2; obtain ⟨xb0, xb1, xb2⟩ := xDB.cells; obtain ⟨xrb0, xrb1, xrb2⟩ := xAB.cells
  refine hK.out _ _ ⟨⟨xb0, xb1, xb2⟩, xrb0, xrb1, xrb2⟩ (fun hHeld => ?_)
  clear hK K
  try simp only [Act.put, List.setIfInBounds_toArray, List.set_cons_zero, List.set_cons_succ]
  refine wpAnyH_ready (rs := [9]) (by kernel_rfl) (by simp) ?_
  refine AllReadyH.cons (o := _) rfl (fun K hK => ?_) AllReadyH.nil
  go_simp
  refine (ihk _ _ xB1).mono ?_; rintro _ xwc ⟨rfl, xC2⟩; have xDC := xDB.below xC2; have xAC := xAB.below xC2; obtain ⟨xc0, xc1, xc2⟩ := xDC.cells; obtain ⟨xrc0, xrc1, xrc2⟩ := xAC.cells
  refine hK.out _ _ ⟨⟨xc0, xc1, xc2⟩, xrc0, xrc1, xrc2⟩ (fun hHeld => ?_)
  clear hK K
  try simp only [Act.put, List.setIfInBounds_toArray, List.set_cons_zero, List.set_cons_succ]
  refine wpAnyH_take (i := 10) (oi := _) (v := ?_) rfl (by kernel_rfl) (by kernel_rfl) (by kernel_rfl) (fun _ _ _ h => h) (Or.inl ⟨by rfl, ?_⟩) (by assumption) ?_
  rotate_left
  · intro w hSw
    (try dsimp only at hSw)
    go_simp
    all_goals (with_reducible rfl)
  try simp only [Act.put, List.setIfInBounds_toArray, List.set_cons_zero, List.set_cons_succ]
  refine wpAnyH_take (i := 11) (oi := _) (v := ?_) rfl (by kernel_rfl) (by kernel_rfl) (by kernel_rfl) (fun _ _ _ h => h) (Or.inl ⟨by rfl, ?_⟩) (by assumption) ?_
  rotate_left
  · intro w hSw
    (try dsimp only at hSw)
    go_simp
    all_goals (with_reducible rfl)
  try simp only [Act.put, List.setIfInBounds_toArray, List.set_cons_zero, List.set_cons_succ]
  refine wpAnyH_take (i := 12) (oi := _) (v := ?_) rfl (by kernel_rfl) (by kernel_rfl) (by kernel_rfl) (fun _ _ _ h => h) (Or.inl ⟨by rfl, ?_⟩) (by assumption) ?_
  rotate_left
  · intro w hSw
    (try dsimp only at hSw)
    go_simp
    all_goals (with_reducible rfl)
  try simp only [Act.put, List.setIfInBounds_toArray, List.set_cons_zero, List.set_cons_succ]
  refine wpAnyH_take (i := 13) (oi := _) (v := ?_) rfl (by kernel_rfl) (by kernel_rfl) (by kernel_rfl) (fun _ _ _ h => h) (Or.inl ⟨by rfl, ?_⟩) (by assumption) ?_
  rotate_left
  · intro w hSw
    (try dsimp only at hSw)
    go_simp
    all_goals (with_reducible rfl)
  try simp only [Act.put, List.setIfInBounds_toArray, List.set_cons_zero, List.set_cons_succ]
  refine wpAnyH_done (by kernel_rfl) ?_ _
  clear hHeld2
  go_wp2_with fail
  have yD : Depth xwc.drew p a b d := xDC
  obtain ⟨yp0, yp1, yp2⟩ := yD.cells
  refine wp_region_held_drew (S := fun w' => w'.cell? ⟨p, 0, none⟩ = some (.int .i64 a) ∧ w'.cell? ⟨p, 1, none⟩ = some (.int .i64 b) ∧ w'.cell? ⟨p, 2, none⟩ = some (.int .i64 d)) (by kernel_rfl) ⟨yp0, yp1, yp2⟩ (fun hHeld => ?_)
  refine wpAnyH_take (i := 0) (oi := _) (v := ?_) rfl (by kernel_rfl) (by kernel_rfl) (by kernel_rfl) (fun _ _ _ h => h) (Or.inl ⟨by rfl, ?_⟩) (by assumption) ?_
  rotate_left
  · intro w hSw
    (try dsimp only at hSw)
    go_simp
    all_goals (with_reducible rfl)
  try simp only [Act.put, List.setIfInBounds_toArray, List.set_cons_zero, List.set_cons_succ]
  refine wpAnyH_take (i := 1) (oi := _) (v := ?_) rfl (by kernel_rfl) (by kernel_rfl) (by kernel_rfl) (fun _ _ _ h => h) (Or.inl ⟨by rfl, ?_⟩) (by assumption) ?_
  rotate_left
  · intro w hSw
    (try dsimp only at hSw)
    go_simp
    all_goals (with_reducible rfl)
  try simp only [Act.put, List.setIfInBounds_toArray, List.set_cons_zero, List.set_cons_succ]
  refine wpAnyH_take (i := 2) (oi := _) (v := ?_) rfl (by kernel_rfl) (by kernel_rfl) (by kernel_rfl) (fun _ _ _ h => h) (Or.inl ⟨by rfl, ?_⟩) (by assumption) ?_
  rotate_left
  · intro w hSw
    (try dsimp only at hSw)
    go_simp
    all_goals (with_reducible rfl)
  try simp only [Act.put, List.setIfInBounds_toArray, List.set_cons_zero, List.set_cons_succ]
  refine wpAnyH_take (i := 3) (oi := _) (v := ?_) rfl (by kernel_rfl) (by kernel_rfl) (by kernel_rfl) (fun _ _ _ h => h) (Or.inl ⟨by rfl, ?_⟩) (by assumption) ?_
  rotate_left
  · intro w hSw
    (try dsimp only at hSw)
    go_simp
    all_goals (with_reducible rfl)
  try simp only [Act.put, List.setIfInBounds_toArray, List.set_cons_zero, List.set_cons_succ]
  refine wpAnyH_take (i := 4) (oi := _) (v := ?_) rfl (by kernel_rfl) (by kernel_rfl) (by kernel_rfl) (fun _ _ _ h => h) (Or.inl ⟨by rfl, ?_⟩) (by assumption) ?_
  rotate_left
  · intro w hSw
    (try dsimp only at hSw)
    go_simp
    all_goals (with_reducible rfl)
  try simp only [Act.put, List.setIfInBounds_toArray, List.set_cons_zero, List.set_cons_succ]
  refine wpAnyH_ready (rs := [5]) (by kernel_rfl) (by simp) ?_
  refine AllReadyH.cons (o := _) rfl (fun K hK => ?_) AllReadyH.nil
  go_simp
  refine (enterArray_calls a b d (by omega) _).mono ?_; rintro _ ywa ⟨ypa, rfl, yA1, yA2⟩; have yDA := yD.below yA2; obtain ⟨ya0, ya1, ya2⟩ := yDA.cells; obtain ⟨yra0, yra1, yra2⟩ := yA1.cells
  refine hK.out _ _ ⟨ya0, ya1, ya2⟩ (fun hHeld => ?_)
  clear hK K
  try simp only [Act.put, List.setIfInBounds_toArray, List.set_cons_zero, List.set_cons_succ]
  refine wpAnyH_more (S2 := fun w' => (w'.cell? ⟨p, 0, none⟩ = some (.int .i64 a) ∧ w'.cell? ⟨p, 1, none⟩ = some (.int .i64 b) ∧ w'.cell? ⟨p, 2, none⟩ = some (.int .i64 d)) ∧ w'.cell? ⟨ypa, 0, none⟩ = some (.int .i64 (a + 1)) ∧ w'.cell? ⟨ypa, 1, none⟩ = some (.int .i64 b) ∧ w'.cell? ⟨ypa, 2, none⟩ = some (.int .i64 d)) (fun w hq => hq.1) _ _ _ _ ?_
  have hHeld2 := And.intro hHeld (And.intro yra0 (And.intro yra1 yra2))
  refine wpAnyH_take (i := 6) (oi := _) (v := ?_) rfl (by kernel_rfl) (by kernel_rfl) (by kernel_rfl) (fun _ _ _ h => h) (Or.inl ⟨by rfl, ?_⟩) (by assumption) ?_
  rotate_left
  · intro w hSw
    (try dsimp only at hSw)
    go_simp
    all_goals (with_reducible rfl)
  try simp only [Act.put, List.setIfInBounds_toArray, List.set_cons_zero, List.set_cons_succ]
  refine wpAnyH_take (i := 7) (oi := _) (v := ?_) rfl (by kernel_rfl) (by kernel_rfl) (by kernel_rfl) (fun _ _ _ h => h) (Or.inl ⟨by rfl, ?_⟩) (by assumption) ?_
  rotate_left
  · intro w hSw
    (try dsimp only at hSw)
    go_simp
    all_goals (with_reducible rfl)
  try simp only [Act.put, List.setIfInBounds_toArray, List.set_cons_zero, List.set_cons_succ]
  refine wpAnyH_ready (rs := [8]) (by kernel_rfl) (by simp) ?_
  refine AllReadyH.cons (o := _) rfl (fun K hK => ?_) AllReadyH.nil
  go_simp
  refine (enterDict_calls (a + 1) b d (by omega) _).mono ?_; rintro _ ywb ⟨ypb, rfl, yB1, yB2⟩; have yDB := yDA.below yB2; have yAB := yA1.below yB2; obtain ⟨yb0, yb1, yb2⟩ := yDB.cells; obtain ⟨yrb0, yrb1, yrb2⟩ := yAB.cells
  refine hK.out _ _ ⟨⟨yb0, yb1, yb2⟩, yrb0, yrb1, yrb2⟩ (fun hHeld => ?_)
  clear hK K
  try simp only [Act.put, List.setIfInBounds_toArray, List.set_cons_zero, List.set_cons_succ]
  refine wpAnyH_ready (rs := [9]) (by kernel_rfl) (by simp) ?_
  refine AllReadyH.cons (o := _) rfl (fun K hK => ?_) AllReadyH.nil
  go_simp
  refine (iht _ _ yB1).mono ?_; rintro _ ywc ⟨rfl, yC2⟩; have yDC := yDB.below yC2; have yAC := yAB.below yC2; obtain ⟨yc0, yc1, yc2⟩ := yDC.cells; obtain ⟨yrc0, yrc1, yrc2⟩ := yAC.cells
  refine hK.out _ _ ⟨⟨yc0, yc1, yc2⟩, yrc0, yrc1, yrc2⟩ (fun hHeld => ?_)
  clear hK K
  try simp only [Act.put, List.setIfInBounds_toArray, List.set_cons_zero, List.set_cons_succ]
  refine wpAnyH_take (i := 10) (oi := _) (v := ?_) rfl (by kernel_rfl) (by kernel_rfl) (by kernel_rfl) (fun _ _ _ h => h) (Or.inl ⟨by rfl, ?_⟩) (by assumption) ?_
  rotate_left
  · intro w hSw
    (try dsimp only at hSw)
    go_simp
    all_goals (with_reducible rfl)
  try simp only [Act.put, List.setIfInBounds_toArray, List.set_cons_zero, List.set_cons_succ]
  refine wpAnyH_take (i := 11) (oi := _) (v := ?_) rfl (by kernel_rfl) (by kernel_rfl) (by kernel_rfl) (fun _ _ _ h => h) (Or.inl ⟨by rfl, ?_⟩) (by assumption) ?_
  rotate_left
  · intro w hSw
    (try dsimp only at hSw)
    go_simp
    all_goals (with_reducible rfl)
  try simp only [Act.put, List.setIfInBounds_toArray, List.set_cons_zero, List.set_cons_succ]
  refine wpAnyH_take (i := 12) (oi := _) (v := ?_) rfl (by kernel_rfl) (by kernel_rfl) (by kernel_rfl) (fun _ _ _ h => h) (Or.inl ⟨by rfl, ?_⟩) (by assumption) ?_
  rotate_left
  · intro w hSw
    (try dsimp only at hSw)
    go_simp
    all_goals (with_reducible rfl)
  try simp only [Act.put, List.setIfInBounds_toArray, List.set_cons_zero, List.set_cons_succ]
  refine wpAnyH_take (i := 13) (oi := _) (v := ?_) rfl (by kernel_rfl) (by kernel_rfl) (by kernel_rfl) (fun _ _ _ h => h) (Or.inl ⟨by rfl, ?_⟩) (by assumption) ?_
  rotate_left
  · intro w hSw
    (try dsimp only at hSw)
    go_simp
    all_goals (with_reducible rfl)
  try simp only [Act.put, List.setIfInBounds_toArray, List.set_cons_zero, List.set_cons_succ]
  refine wpAnyH_take (i := 14) (oi := _) (v := ?_) rfl (by kernel_rfl) (by kernel_rfl) (by kernel_rfl) (fun _ _ _ h => h) (Or.inl ⟨by rfl, ?_⟩) (by assumption) ?_
  rotate_left
  · intro w hSw
    (try dsimp only at hSw)
    go_simp
    all_goals (with_reducible rfl)
  try simp only [Act.put, List.setIfInBounds_toArray, List.set_cons_zero, List.set_cons_succ]
  refine wpAnyH_done (by kernel_rfl) ?_ _
  go_wp2_with fail
  go_ret2
  have c1 := hb1.drew
  have c2 := below_then c1 c1.size xA2
  have c3 := below_then c2 c2.size xB2
  have c4 := (below_then c3 c3.size xC2).drew
  have c5 := below_then c4 c4.size yA2
  have c6 := below_then c5 c5.size yB2
  exact ⟨rfl, below_then c6 c6.size yC2⟩
theorem vs_calls (N : Nat) : VsIH N := by
  induction N with
  | zero => intro t _ h; omega
  | succ N ih =>
    intro t htp hN h255 r hA hr p a b d ha hb hd hok w h
    cases t with
    | basic c =>
      simp only [Ty.ok] at hok
      exact vs_one c (.inl hok.1) r p a b d (by omega) (by omega) (by omega) w h
    | var =>
      simp only [Ty.ok] at hok
      exact vs_one 118 (.inr rfl) r p a b d (by omega) (by omega) (by omega) w h
    | arr t =>
      simp only [Ty.ok] at hok
      simp only [Ty.sig, List.length_cons] at hN h255
      exact vs_arr N ih t htp (by omega) (by omega) r hA hr p a b d ha hb hd (by omega) (by omega) (by omega) (by have := hok.2.2.2; rwa [show 32 - a - 1 = 32 - (a + 1) by omega] at this) w h
    | dict k t =>
      simp only [Ty.ok] at hok
      simp only [Ty.sig, List.length_cons, List.length_append, List.length_nil] at hN h255
      have h5 := hok.2.2.2.2
      have h6 := Ty.ok_nonneg h5
      rw [show 32 - a - 1 = 32 - (a + 1) by omega, show 32 - d - 1 = 32 - (d + 1) by omega] at h5
      have := vs_dict N ih k hok.1 t htp.2 (by omega) (by omega) (by omega) r hA hr p a b d ha hb hd (by omega) (by omega) (by omega) h5 w h
      simpa [Ty.sig] using this
    | str ts =>
      simp only [Ty.ok] at hok
      simp only [Ty.sig, List.length_cons, List.length_append, List.length_nil] at hN h255
      have := vs_str N ih ts hok.1 htp (by omega) (by omega) r hA hr p a b d ha hb hd (by omega) (by omega) (by omega) (by have := hok.2.2.2.2; rwa [show 32 - b - 1 = 32 - (b + 1) by omega] at this) w h
      simpa [Ty.sig] using this
end Go.Proofs.YtjbpphomlmlmaaaGreatDoor
