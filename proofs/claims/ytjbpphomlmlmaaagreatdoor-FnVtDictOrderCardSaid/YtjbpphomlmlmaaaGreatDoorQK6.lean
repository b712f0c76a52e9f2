/- The bytes of a float, appended. -/
import Derived.Test.YtjbpphomlmlmaaaGreatDoorQF1
import Derived.Test.YtjbpphomlmlmaaaGreatDoorQK2
namespace Go.Proofs.YtjbpphomlmlmaaaGreatDoor
open Go.RowKit Go.Sort Go.Lib
set_option linter.unusedVariables false
set_option linter.unusedSimpArgs false
theorem fl_own_keep {w w' : World} {B : Nat} {v : Value} {n : Nat} {xs : List Value} (h : w.ownsRow B 5 1 v n xs) (hk : ∀ k, v.ownBlock = some k → w'.heap[k]? = w.heap[k]?) : w'.ownsRow B 5 1 v n xs := by
  refine ⟨h.1, ?_⟩
  rcases h.2 with h0 | ⟨g, cap, cur, rfl, hb, hg, rest⟩
  · exact .inl h0
  · exact .inr ⟨g, cap, cur, rfl, hb, (hk g rfl).trans hg, rest⟩
theorem fl_own_lt {w : World} {B : Nat} {v : Value} {n : Nat} {xs : List Value} (h : w.ownsRow B 5 1 v n xs) : ∀ k, v.ownBlock = some k → k < w.heap.size := by
  intro k hk
  rcases h.2 with ⟨rfl, _⟩ | ⟨g, cap, cur, rfl, hb, hg, rest⟩
  · simp [Value.ownBlock] at hk
  · simp [Value.ownBlock] at hk
    subst hk
    exact (Array.getElem?_eq_some_iff.1 hg).1
theorem zero_holds {w : World} {D : Nat} (h : w.heap[D]? = some (.cells (Array.replicate 32 (.int .u8 0)) 189 (0, 0))) : Holds encB w D 0 (Array.replicate 32 0) := by
  intro j hj
  rw [Array.size_replicate] at hj
  rw [Nat.zero_add, cell_of_row _ _ _ _ _ _ h, Array.getElem?_replicate, if_pos hj, getElem!_pos _ j (by simpa using hj)]
  simp [encB]
  exact frozen_of_row w D j _ _ h
def FtoaOk (b : Nat) : Prop := ∃ zs : List Int, (zs ≠ [] ∧ zs.length ≤ 64) ∧ ∀ (W0 w : World) (v : Value), 9 < W0.heap.size → Tab10 W0 → Lib.TabIs Tryz.prog W0 "internal/strconv.uint64pow10" .u64 Lib.pow10Tab → w.ownsRow W0.heap.size 5 1 v 0 [] → Below W0.heap.size W0 w →
    Calls Tryz.prog 97 #[v, .float .f64 b, .int .u8 103, .int .i64 (-1)] w fun e w' => ∃ v', e = .returned v' ∧ w'.ownsRow W0.heap.size 5 1 v' zs.length (zs.map (Value.int .u8)) ∧ Below W0.heap.size W0 w'
set_option maxRecDepth 100000 in
set_option maxHeartbeats 6400000 in
theorem ftoa_norm (b ex mant : Nat) (neg : Bool) (hb64 : b < 18446744073709551616) (hneg : ((b : Int) / 9223372036854775808 != 0) = neg)
    (hE : bits .and .i64 ((b / 4503599627370496 : Nat) : Int) 2047 = (ex : Int)) (hM : bits .and .u64 (b : Int) 4503599627370495 = (mant : Int)) (he0 : 0 < ex) (he1 : ex < 2047) (hm : mant < 4503599627370496) : FtoaOk b := by
  obtain ⟨mm, hmd⟩ : ∃ mm, mm = mant + 4503599627370496 := ⟨_, rfl⟩
  obtain ⟨s, m, hs1, hs0, hbl, hmm, hm0, hm1, hsh⟩ := short_of mm ((ex : Int) + -1023) (by omega) (by omega) (by omega) (by omega) (by omega)
  obtain ⟨d, q, hd0, hd1, hq0, hq1, hcS⟩ := hsh
  have hnd := nDigits_le d hd1
  have htr1 := trimL_pos (decDigits d) (decDigits_head d hd0) (nDigits d) (by
    rcases Nat.eq_zero_or_pos (nDigits d) with hz | hz
    · have := lt_pow_nDigits d; rw [hz] at this; omega
    · exact hz)
  have htr2 := trimL_le (decDigits d) (nDigits d)
  obtain ⟨zs, hz, hfm⟩ := fmt_all neg (decDigits d) (trimL (decDigits d) (nDigits d)) ((nDigits d : Nat) + q) htr1 (by rw [decDigits_length]; exact htr2) (by rw [decDigits_length]; exact hnd) (by omega) (by omega)
  refine ⟨zs, hz, fun W0 w v h9 hT hP hO hB => ?_⟩
  have HF := Lib.hid hfm
  clear hfm hz
  have hOr : bits .or .u64 (mant : Int) 4503599627370496 = (mm : Int) := by rw [hmd]; exact or_top mant hm
  have hmmb : mm < 9007199254740992 := by omega
  have hmm1 : 0 < mm := by omega
  clear hmd
  go_enter Tryz.func97, Tryz.ntmps97
  go_wp2_with fail
  have hE' : bits .and .i64 ((b : Int) / 4503599627370496) 2047 = (ex : Int) := hE
  have hx0 : ((ex : Int) == 2047) = false := by rw [beq_eq_false_iff_ne]; omega
  have hx1 : ((ex : Int) == 0) = false := by rw [beq_eq_false_iff_ne]; omega
  have hx2 : ((mm : Int) == 0) = false := by rw [beq_eq_false_iff_ne]; omega
  go_region
  have hL : ∀ w, Calls Tryz.prog 66 #[.int .u64 (mm : Int)] w fun e w' => e = .returned (.int .i64 ((64 : Int) - s)) ∧ w' = w := fun w => by
    have h := Tryz.bits_Len64 (mm : Int) w (by omega) (by omega)
    rw [Int.toNat_natCast, hbl, show (((64 - s : Nat)) : Int) = (64 : Int) - s by omega] at h
    exact h
  have hss : (64 : Int) - (64 - (s : Int)) = s := by omega
  have hshl : IntKind.u64.wrap ((mm : Int) * 2 ^ s) = (m : Int) := by
    rw [IntKind.wrap_u64, hmm, Int.natCast_mul, Int.natCast_pow]
    have h2 : (m : Int) = (mm : Int) * 2 ^ s := by rw [hmm, Int.natCast_mul, Int.natCast_pow]; rfl
    show (mm : Int) * 2 ^ s % 18446744073709551616 = (mm : Int) * 2 ^ s
    rw [← h2]; omega
  have HB := Lib.hid hbl
  have HM := Lib.hid hmm
  clear hbl hmm
  go_wp2_with (go_at_call 66; refine (hL _).mono ?_; rintro _ _ ⟨rfl, rfl⟩)
  have hB1 : Below W0.heap.size W0 (w.alloc (.cells (Array.replicate 32 (.int .u8 0)) 189)).drew := (hB.alloc hB.size _).drew
  have hO1 : (w.alloc (.cells (Array.replicate 32 (.int .u8 0)) 189)).drew.ownsRow W0.heap.size 5 1 v 0 [] := hO.alloc _
  have hc1 := hcS _ (hT.below hB1)
  refine hc1.mono ?_
  rintro _ w2 ⟨rfl, hb2⟩
  obtain ⟨D, hD⟩ : ∃ D, D = w.heap.size := ⟨_, rfl⟩
  have hrow0 : w2.heap[D]? = some (.cells (Array.replicate 32 (.int .u8 0)) 189 (0, 0)) := by
    rw [hD]; exact (hb2.block w.heap.size (by show w.heap.size < (w.alloc _).heap.size; simp)).trans (heap_alloc_new w _)
  have hDW : W0.heap.size ≤ D := by rw [hD]; exact hB.size
  have hB2 := hB1.trans (hb2.mono hB1.size)
  have hvD : ∀ k, v.ownBlock = some k → k < D := fun k hk => by rw [hD]; exact fl_own_lt hO k hk
  have hO2 : w2.ownsRow W0.heap.size 5 1 v 0 [] := fl_own_keep hO1 fun k hk => hb2.block k (Nat.lt_of_lt_of_le (fl_own_lt hO k hk) (by show w.heap.size ≤ (w.alloc _).heap.size; simp))
  have hP2 : Lib.TabIs Tryz.prog w2.drew "internal/strconv.uint64pow10" .u64 Lib.pow10Tab := tabIs_below gPow hP hB2.drew
  have hH2 : Holds encB w2.drew D 0 (Array.replicate 32 0) := zero_holds hrow0
  clear hc1 hcS hb2 hB1 hO1 hO hB
  rw [← hD]
  clear hD
  have hal : Tryz.prog.arrayLen 189 = 32 := by simp [Program.arrayLen, Tryz.underlying189]
  have hsl : ∀ W, (Instr.sliceAt 189 (.pointer (some ⟨D, 0, none⟩)) none none none).run Tryz.prog W = .ok (.slice (some ⟨D, 0, none⟩) 32 32) W := fun W => by
    rw [run_sliceAt_array_all W 189 ⟨D, 0, none⟩ (by simp [Program.arrayLen, Program.elem, Tryz.underlying189]), hal]
    go_simp
  clear hal
  go_wp2_with fail
  have hlt2 : D < w2.heap.size := (Array.getElem?_eq_some_iff.1 hrow0).1
  refine wp_region_noPanic ?_
  refine wp_region_held_drew (S := fun _ => True) (by kernel_rfl) trivial (fun hHeld => ?_)
  refine wpAnyH_take (i := 0) (oi := _) (v := ?_) rfl (by kernel_rfl) (by kernel_rfl) (by kernel_rfl) (fun _ _ _ h => h) (Or.inl ⟨by rfl, ?_⟩) (by assumption) ?_
  rotate_left
  · intro w hSw
    (try dsimp only at hSw)
    go_simp
    all_goals (with_reducible rfl)
  try simp only [Act.put, List.setIfInBounds_toArray, List.set_cons_zero, List.set_cons_succ]
  refine wpAnyH_take (i := 1) (oi := _) (v := ?_) rfl (by kernel_rfl) (by kernel_rfl) (by kernel_rfl) (fun _ _ _ h => h) (Or.inl ⟨by rfl, ?_⟩) (by assumption) ?_
  rotate_left
  · intro w hSw
    (try dsimp only at hSw)
    go_simp
    all_goals (with_reducible rfl)
  try simp only [Act.put, List.setIfInBounds_toArray, List.set_cons_zero, List.set_cons_succ]
  refine wpAnyH_take (i := 2) (oi := _) (v := ?_) rfl (by kernel_rfl) (by kernel_rfl) (by kernel_rfl) (fun _ _ _ h => h) (Or.inl ⟨by rfl, ?_⟩) (by assumption) ?_
  rotate_left
  · intro w hSw
    (try dsimp only at hSw)
    go_simp
    all_goals (with_reducible rfl)
  try simp only [Act.put, List.setIfInBounds_toArray, List.set_cons_zero, List.set_cons_succ]
  refine wpAnyH_take (i := 3) (oi := _) (v := ?_) rfl (by kernel_rfl) (by kernel_rfl) (by kernel_rfl) (fun _ _ _ h => h) (Or.inl ⟨by rfl, ?_⟩) (by assumption) ?_
  rotate_left
  · intro w hSw
    (try dsimp only at hSw)
    go_simp
    all_goals (with_reducible rfl)
  try simp only [Act.put, List.setIfInBounds_toArray, List.set_cons_zero, List.set_cons_succ]
  refine wpAnyH_ready (rs := [4]) (by kernel_rfl) (by simp) ?_
  refine AllReadyH.cons (o := _) rfl (fun K hK => ?_) AllReadyH.nil
  go_simp
  refine (Tryz.internal_strconv_numDigits d hd0 hd1 _ hP2).mono ?_; rintro _ _ ⟨rfl, rfl⟩
  refine hK.out _ _ trivial (fun hHeld => ?_)
  clear hK K
  try simp only [Act.put, List.setIfInBounds_toArray, List.set_cons_zero, List.set_cons_succ]
  refine wpAnyH_ready (rs := [5]) (by kernel_rfl) (by simp) ?_
  refine AllReadyH.cons (o := _) rfl (fun K hK => ?_) AllReadyH.nil
  go_simp
  refine (setDigits_calls D d q _ hd0 hd1 (by omega) (by omega) hH2).mono ?_; rintro _ w3 ⟨rfl, hrow, hb3⟩
  refine hK.out _ _ trivial (fun hHeld => ?_)
  clear hK K
  try simp only [Act.put, List.setIfInBounds_toArray, List.set_cons_zero, List.set_cons_succ]
  refine wpAnyH_take (i := 6) (oi := _) (v := ?_) rfl (by kernel_rfl) (by kernel_rfl) (by kernel_rfl) (fun _ _ _ h => h) (Or.inl ⟨by rfl, ?_⟩) (by assumption) ?_
  rotate_left
  · intro w hSw
    (try dsimp only at hSw)
    go_simp
    all_goals (with_reducible rfl)
  try simp only [Act.put, List.setIfInBounds_toArray, List.set_cons_zero, List.set_cons_succ]
  refine wpAnyH_take (i := 7) (oi := _) (v := ?_) rfl (by kernel_rfl) (by kernel_rfl) (by kernel_rfl) (fun _ _ _ h => h) (Or.inl ⟨by rfl, ?_⟩) (by assumption) ?_
  rotate_left
  · intro w hSw
    (try dsimp only at hSw)
    go_simp
    all_goals (with_reducible rfl)
  try simp only [Act.put, List.setIfInBounds_toArray, List.set_cons_zero, List.set_cons_succ]
  refine wpAnyH_take (i := 8) (oi := _) (v := ?_) rfl (by kernel_rfl) (by kernel_rfl) (by kernel_rfl) (fun _ _ _ h => h) (Or.inl ⟨by rfl, ?_⟩) (by assumption) ?_
  rotate_left
  · intro w hSw
    (try dsimp only at hSw)
    go_simp
    all_goals (with_reducible rfl)
  try simp only [Act.put, List.setIfInBounds_toArray, List.set_cons_zero, List.set_cons_succ]
  refine wpAnyH_take (i := 9) (oi := _) (v := ?_) rfl (by kernel_rfl) (by kernel_rfl) (by kernel_rfl) (fun _ _ _ h => h) (Or.inl ⟨by rfl, ?_⟩) (by assumption) ?_
  rotate_left
  · intro w hSw
    (try dsimp only at hSw)
    go_simp
    all_goals (with_reducible rfl)
  try simp only [Act.put, List.setIfInBounds_toArray, List.set_cons_zero, List.set_cons_succ]
  refine wpAnyH_take (i := 10) (oi := _) (v := ?_) rfl (by kernel_rfl) (by kernel_rfl) (by kernel_rfl) (fun _ _ _ h => h) (Or.inl ⟨by rfl, ?_⟩) (by assumption) ?_
  rotate_left
  · intro w hSw
    (try dsimp only at hSw)
    go_simp
    all_goals (with_reducible rfl)
  try simp only [Act.put, List.setIfInBounds_toArray, List.set_cons_zero, List.set_cons_succ]
  refine wpAnyH_done (by kernel_rfl) ?_ _
  refine NoPanic.normal ?_
  go_wp2_with fail
  have hO3 : w3.ownsRow W0.heap.size 5 1 v 0 [] := fl_own_keep hO2 fun k hk => hb3.block k (hvD k hk)
  refine (HF.out D W0 w3 v ⟨hO3, hB2.drew.trans (hb3.mono hDW), Nat.lt_of_lt_of_le hlt2 hb3.size, fun hc => Nat.lt_irrefl _ (hvD _ hc), hrow⟩).mono ?_
  rintro _ w4 ⟨v', rfl, hG⟩
  go_wp2_with fail
  go_ret
  exact ⟨v', rfl, hG.own, hG.bel⟩
set_option maxRecDepth 100000 in
set_option maxHeartbeats 6400000 in
theorem ftoa_den (b mant : Nat) (neg : Bool) (hb64 : b < 18446744073709551616) (hneg : ((b : Int) / 9223372036854775808 != 0) = neg)
    (hE : bits .and .i64 ((b / 4503599627370496 : Nat) : Int) 2047 = (0 : Int)) (hM : bits .and .u64 (b : Int) 4503599627370495 = (mant : Int)) (hm0' : 0 < mant) (hm : mant < 4503599627370496) : FtoaOk b := by
  obtain ⟨mm, hmd⟩ : ∃ mm, mm = mant := ⟨_, rfl⟩
  obtain ⟨s, m, hs1, hs0, hbl, hmm, hm0, hm1, hsh⟩ := short_of mm (-1022) (by omega) (by omega) (by omega) (by omega) (by omega)
  obtain ⟨d, q, hd0, hd1, hq0, hq1, hcS⟩ := hsh
  have hnd := nDigits_le d hd1
  have htr1 := trimL_pos (decDigits d) (decDigits_head d hd0) (nDigits d) (by
    rcases Nat.eq_zero_or_pos (nDigits d) with hz | hz
    · have := lt_pow_nDigits d; rw [hz] at this; omega
    · exact hz)
  have htr2 := trimL_le (decDigits d) (nDigits d)
  obtain ⟨zs, hz, hfm⟩ := fmt_all neg (decDigits d) (trimL (decDigits d) (nDigits d)) ((nDigits d : Nat) + q) htr1 (by rw [decDigits_length]; exact htr2) (by rw [decDigits_length]; exact hnd) (by omega) (by omega)
  refine ⟨zs, hz, fun W0 w v h9 hT hP hO hB => ?_⟩
  have HF := Lib.hid hfm
  clear hfm hz
  have hmmb : mm < 9007199254740992 := by omega
  have hmm1 : 0 < mm := by omega
  rw [← hmd] at hM
  clear hmd
  go_enter Tryz.func97, Tryz.ntmps97
  go_wp2_with fail
  have hE' : bits .and .i64 ((b : Int) / 4503599627370496) 2047 = (0 : Int) := hE
  have hx2 : ((mm : Int) == 0) = false := by rw [beq_eq_false_iff_ne]; omega
  go_region
  have hL : ∀ w, Calls Tryz.prog 66 #[.int .u64 (mm : Int)] w fun e w' => e = .returned (.int .i64 ((64 : Int) - s)) ∧ w' = w := fun w => by
    have h := Tryz.bits_Len64 (mm : Int) w (by omega) (by omega)
    rw [Int.toNat_natCast, hbl, show (((64 - s : Nat)) : Int) = (64 : Int) - s by omega] at h
    exact h
  have hss : (64 : Int) - (64 - (s : Int)) = s := by omega
  have hshl : IntKind.u64.wrap ((mm : Int) * 2 ^ s) = (m : Int) := by
    rw [IntKind.wrap_u64, hmm, Int.natCast_mul, Int.natCast_pow]
    have h2 : (m : Int) = (mm : Int) * 2 ^ s := by rw [hmm, Int.natCast_mul, Int.natCast_pow]; rfl
    show (mm : Int) * 2 ^ s % 18446744073709551616 = (mm : Int) * 2 ^ s
    rw [← h2]; omega
  have HB := Lib.hid hbl
  have HM := Lib.hid hmm
  clear hbl hmm
  go_wp2_with (go_at_call 66; refine (hL _).mono ?_; rintro _ _ ⟨rfl, rfl⟩)
  have hB1 : Below W0.heap.size W0 (w.alloc (.cells (Array.replicate 32 (.int .u8 0)) 189)).drew := (hB.alloc hB.size _).drew
  have hO1 : (w.alloc (.cells (Array.replicate 32 (.int .u8 0)) 189)).drew.ownsRow W0.heap.size 5 1 v 0 [] := hO.alloc _
  have hc1 := hcS _ (hT.below hB1)
  refine hc1.mono ?_
  rintro _ w2 ⟨rfl, hb2⟩
  obtain ⟨D, hD⟩ : ∃ D, D = w.heap.size := ⟨_, rfl⟩
  have hrow0 : w2.heap[D]? = some (.cells (Array.replicate 32 (.int .u8 0)) 189 (0, 0)) := by
    rw [hD]; exact (hb2.block w.heap.size (by show w.heap.size < (w.alloc _).heap.size; simp)).trans (heap_alloc_new w _)
  have hDW : W0.heap.size ≤ D := by rw [hD]; exact hB.size
  have hB2 := hB1.trans (hb2.mono hB1.size)
  have hvD : ∀ k, v.ownBlock = some k → k < D := fun k hk => by rw [hD]; exact fl_own_lt hO k hk
  have hO2 : w2.ownsRow W0.heap.size 5 1 v 0 [] := fl_own_keep hO1 fun k hk => hb2.block k (Nat.lt_of_lt_of_le (fl_own_lt hO k hk) (by show w.heap.size ≤ (w.alloc _).heap.size; simp))
  have hP2 : Lib.TabIs Tryz.prog w2.drew "internal/strconv.uint64pow10" .u64 Lib.pow10Tab := tabIs_below gPow hP hB2.drew
  have hH2 : Holds encB w2.drew D 0 (Array.replicate 32 0) := zero_holds hrow0
  clear hc1 hcS hb2 hB1 hO1 hO hB
  rw [← hD]
  clear hD
  have hal : Tryz.prog.arrayLen 189 = 32 := by simp [Program.arrayLen, Tryz.underlying189]
  have hsl : ∀ W, (Instr.sliceAt 189 (.pointer (some ⟨D, 0, none⟩)) none none none).run Tryz.prog W = .ok (.slice (some ⟨D, 0, none⟩) 32 32) W := fun W => by
    rw [run_sliceAt_array_all W 189 ⟨D, 0, none⟩ (by simp [Program.arrayLen, Program.elem, Tryz.underlying189]), hal]
    go_simp
  clear hal
  go_wp2_with fail
  have hlt2 : D < w2.heap.size := (Array.getElem?_eq_some_iff.1 hrow0).1
  refine wp_region_noPanic ?_
  refine wp_region_held_drew (S := fun _ => True) (by kernel_rfl) trivial (fun hHeld => ?_)
  refine wpAnyH_take (i := 0) (oi := _) (v := ?_) rfl (by kernel_rfl) (by kernel_rfl) (by kernel_rfl) (fun _ _ _ h => h) (Or.inl ⟨by rfl, ?_⟩) (by assumption) ?_
  rotate_left
  · intro w hSw
    (try dsimp only at hSw)
    go_simp
    all_goals (with_reducible rfl)
  try simp only [Act.put, List.setIfInBounds_toArray, List.set_cons_zero, List.set_cons_succ]
  refine wpAnyH_take (i := 1) (oi := _) (v := ?_) rfl (by kernel_rfl) (by kernel_rfl) (by kernel_rfl) (fun _ _ _ h => h) (Or.inl ⟨by rfl, ?_⟩) (by assumption) ?_
  rotate_left
  · intro w hSw
    (try dsimp only at hSw)
    go_simp
    all_goals (with_reducible rfl)
  try simp only [Act.put, List.setIfInBounds_toArray, List.set_cons_zero, List.set_cons_succ]
  refine wpAnyH_take (i := 2) (oi := _) (v := ?_) rfl (by kernel_rfl) (by kernel_rfl) (by kernel_rfl) (fun _ _ _ h => h) (Or.inl ⟨by rfl, ?_⟩) (by assumption) ?_
  rotate_left
  · intro w hSw
    (try dsimp only at hSw)
    go_simp
    all_goals (with_reducible rfl)
  try simp only [Act.put, List.setIfInBounds_toArray, List.set_cons_zero, List.set_cons_succ]
  refine wpAnyH_take (i := 3) (oi := _) (v := ?_) rfl (by kernel_rfl) (by kernel_rfl) (by kernel_rfl) (fun _ _ _ h => h) (Or.inl ⟨by rfl, ?_⟩) (by assumption) ?_
  rotate_left
  · intro w hSw
    (try dsimp only at hSw)
    go_simp
    all_goals (with_reducible rfl)
  try simp only [Act.put, List.setIfInBounds_toArray, List.set_cons_zero, List.set_cons_succ]
  refine wpAnyH_ready (rs := [4]) (by kernel_rfl) (by simp) ?_
  refine AllReadyH.cons (o := _) rfl (fun K hK => ?_) AllReadyH.nil
  go_simp
  refine (Tryz.internal_strconv_numDigits d hd0 hd1 _ hP2).mono ?_; rintro _ _ ⟨rfl, rfl⟩
  refine hK.out _ _ trivial (fun hHeld => ?_)
  clear hK K
  try simp only [Act.put, List.setIfInBounds_toArray, List.set_cons_zero, List.set_cons_succ]
  refine wpAnyH_ready (rs := [5]) (by kernel_rfl) (by simp) ?_
  refine AllReadyH.cons (o := _) rfl (fun K hK => ?_) AllReadyH.nil
  go_simp
  refine (setDigits_calls D d q _ hd0 hd1 (by omega) (by omega) hH2).mono ?_; rintro _ w3 ⟨rfl, hrow, hb3⟩
  refine hK.out _ _ trivial (fun hHeld => ?_)
  clear hK K
  try simp only [Act.put, List.setIfInBounds_toArray, List.set_cons_zero, List.set_cons_succ]
  refine wpAnyH_take (i := 6) (oi := _) (v := ?_) rfl (by kernel_rfl) (by kernel_rfl) (by kernel_rfl) (fun _ _ _ h => h) (Or.inl ⟨by rfl, ?_⟩) (by assumption) ?_
  rotate_left
  · intro w hSw
    (try dsimp only at hSw)
    go_simp
    all_goals (with_reducible rfl)
  try simp only [Act.put, List.setIfInBounds_toArray, List.set_cons_zero, List.set_cons_succ]
  refine wpAnyH_take (i := 7) (oi := _) (v := ?_) rfl (by kernel_rfl) (by kernel_rfl) (by kernel_rfl) (fun _ _ _ h => h) (Or.inl ⟨by rfl, ?_⟩) (by assumption) ?_
  rotate_left
  · intro w hSw
    (try dsimp only at hSw)
    go_simp
    all_goals (with_reducible rfl)
  try simp only [Act.put, List.setIfInBounds_toArray, List.set_cons_zero, List.set_cons_succ]
  refine wpAnyH_take (i := 8) (oi := _) (v := ?_) rfl (by kernel_rfl) (by kernel_rfl) (by kernel_rfl) (fun _ _ _ h => h) (Or.inl ⟨by rfl, ?_⟩) (by assumption) ?_
  rotate_left
  · intro w hSw
    (try dsimp only at hSw)
    go_simp
    all_goals (with_reducible rfl)
  try simp only [Act.put, List.setIfInBounds_toArray, List.set_cons_zero, List.set_cons_succ]
  refine wpAnyH_take (i := 9) (oi := _) (v := ?_) rfl (by kernel_rfl) (by kernel_rfl) (by kernel_rfl) (fun _ _ _ h => h) (Or.inl ⟨by rfl, ?_⟩) (by assumption) ?_
  rotate_left
  · intro w hSw
    (try dsimp only at hSw)
    go_simp
    all_goals (with_reducible rfl)
  try simp only [Act.put, List.setIfInBounds_toArray, List.set_cons_zero, List.set_cons_succ]
  refine wpAnyH_take (i := 10) (oi := _) (v := ?_) rfl (by kernel_rfl) (by kernel_rfl) (by kernel_rfl) (fun _ _ _ h => h) (Or.inl ⟨by rfl, ?_⟩) (by assumption) ?_
  rotate_left
  · intro w hSw
    (try dsimp only at hSw)
    go_simp
    all_goals (with_reducible rfl)
  try simp only [Act.put, List.setIfInBounds_toArray, List.set_cons_zero, List.set_cons_succ]
  refine wpAnyH_done (by kernel_rfl) ?_ _
  refine NoPanic.normal ?_
  go_wp2_with fail
  have hO3 : w3.ownsRow W0.heap.size 5 1 v 0 [] := fl_own_keep hO2 fun k hk => hb3.block k (hvD k hk)
  refine (HF.out D W0 w3 v ⟨hO3, hB2.drew.trans (hb3.mono hDW), Nat.lt_of_lt_of_le hlt2 hb3.size, fun hc => Nat.lt_irrefl _ (hvD _ hc), hrow⟩).mono ?_
  rintro _ w4 ⟨v', rfl, hG⟩
  go_wp2_with fail
  go_ret
  exact ⟨v', rfl, hG.own, hG.bel⟩
theorem fl_own_text {B : Nat} {w : World} {v : Value} {zs : List Int} (h : w.ownsRow B 5 1 v zs.length (zs.map (Value.int .u8))) : (convert 46 9 v).run Tryz.prog w = .ok (.string (strOfNums zs)) w := by
  rcases h.2 with ⟨rfl, h0⟩ | ⟨g, cap, cur, rfl, hb, hg, hn, hc, hs, ht⟩
  · obtain rfl := List.eq_nil_of_length_eq_zero h0
    exact run_convert_bytes_nil (P := Tryz.prog) w 46 5 Tryz.underlying46 Tryz.underlying5 0 0 9 Tryz.underlying9
  · refine run_convert_bytes_arg (P := Tryz.prog) w 46 5 Tryz.underlying46 Tryz.underlying5 g 0 zs.length cap zs rfl (fun i hi => ?_) 9 Tryz.underlying9
    have hz : (zs.map (Value.int IntKind.u8))[i]? = some (.int .u8 (zs.getD i 0)) := by
      rw [List.getElem?_map, List.getD, List.getElem?_eq_getElem hi]; rfl
    rw [Nat.zero_add, cell_of_row w g i cur 5 (0, 0) hg]
    rw [← ht] at hz
    rw [List.getElem?_take] at hz
    split at hz
    · simpa using hz
    · cases hz
set_option maxRecDepth 100000 in
set_option maxHeartbeats 6400000 in
theorem ftoa_zero (b : Nat) (neg : Bool) (hb64 : b < 18446744073709551616) (hneg : ((b : Int) / 9223372036854775808 != 0) = neg)
    (hE : bits .and .i64 ((b / 4503599627370496 : Nat) : Int) 2047 = (0 : Int)) (hM : bits .and .u64 (b : Int) 4503599627370495 = (0 : Int)) : FtoaOk b := by
  obtain ⟨zs, hz, hfm⟩ := fmt_zero neg
  refine ⟨zs, hz, fun W0 w v h9 hT hP hO hB => ?_⟩
  have hE' : bits .and .i64 ((b : Int) / 4503599627370496) 2047 = (0 : Int) := hE
  have h9w : 9 < w.heap.size := Nat.lt_of_lt_of_le h9 hB.size
  have hO1 : w.drew.ownsRow W0.heap.size 5 1 v 0 [] := hO
  have hfar : v.ownBlock ≠ some 9 := fun hc => by
    rcases hO.2 with ⟨rfl, _⟩ | ⟨g, cap, cur, rfl, hb, _⟩
    · simp [Value.ownBlock] at hc
    · simp [Value.ownBlock] at hc; omega
  have hc := hfm 9 W0 w.drew v ⟨hO1, hB.drew, h9w, hfar, fun j hj => by simp at hj⟩
  go_enter Tryz.func97, Tryz.ntmps97
  go_wp2_with fail
  go_region
  go_wp2_with fail
  refine hc.mono ?_
  rintro _ w4 ⟨v', rfl, hG⟩
  go_wp2_with fail
  go_ret
  exact ⟨v', rfl, hG.own, hG.bel⟩
theorem ftoa_ok (b : Nat) (hb : b < 18446744073709551616) (hf : finB b = true) : FtoaOk b := by
  have hex := fin_ex b hf
  have hE : bits .and .i64 ((b / 4503599627370496 : Nat) : Int) 2047 = ((b / 4503599627370496 % 2048 : Nat) : Int) := and_mask_i (b / 4503599627370496) 11 (by omega) (by omega)
  have hM : bits .and .u64 (b : Int) 4503599627370495 = ((b % 4503599627370496 : Nat) : Int) := and_mask b 52 hb (by omega)
  generalize b / 4503599627370496 % 2048 = ex at *
  have hm : b % 4503599627370496 < 4503599627370496 := Nat.mod_lt _ (by omega)
  generalize b % 4503599627370496 = mant at *
  rcases Nat.eq_zero_or_pos ex with rfl | he
  · rcases Nat.eq_zero_or_pos mant with rfl | h0
    · exact ftoa_zero b _ hb rfl hE hM
    · exact ftoa_den b mant _ hb rfl hE hM h0 hm
  · exact ftoa_norm b ex mant _ hb rfl hE hM he hex hm
end Go.Proofs.YtjbpphomlmlmaaaGreatDoor

/- The text of a float. -/
namespace Go.Proofs.YtjbpphomlmlmaaaGreatDoor
open Go.RowKit Go.Sort Go.Lib
set_option linter.unusedVariables false
set_option maxRecDepth 100000 in
set_option maxHeartbeats 1600000 in
theorem ff_in {b : Nat} (h : FtoaOk b) : ∃ l : List UInt8, (l ≠ [] ∧ l.length ≤ 64) ∧ ∀ w, Tab10 w → Lib.TabIs Tryz.prog w "internal/strconv.uint64pow10" .u64 Lib.pow10Tab →
    Calls Tryz.prog 54 #[.float .f64 b, .int .u8 103, .int .i64 (-1), .int .i64 64] w fun e w' => e = .returned (.string ⟨l.toArray⟩) ∧ Below w.heap.size w w' := by
  obtain ⟨zs, ⟨hz0, hz1⟩, hF⟩ := h
  refine ⟨(strOfNums zs).data.toList, ⟨?_, ?_⟩, fun w hT hP => ?_⟩
  · rw [strOfNums_data]; simpa using hz0
  · rw [strOfNums_data]; simpa using hz1
  · have hm : max (3 : Int) 24 = 24 := by decide
    obtain ⟨i0, hi, hq0, hq1, hq2⟩ := info_parts info5
    obtain ⟨wm, hmk, hown, hgr⟩ := run_make_own (P := Tryz.prog) w w.heap.size 46 5 i0 (.int .u8 0) 1 Tryz.underlying46 hi hq0 hq1 .i64 .i64 24 (by rw [hq2]; omega) (by decide) (Nat.le_refl _)
    have hmk' : (Instr.makeSlice 46 (.int .i64 0) (.int .i64 24)).run Tryz.prog w = .ok (.slice (some ⟨w.heap.size, 0, none⟩) 0 24) wm := hmk
    have hbm : Below w.heap.size w wm := (Below.refl _ _).grown hgr (Nat.le_refl _) (by intro k hk; cases hk)
    have h9 : 9 < w.heap.size := World.block_lt_of_cell? w _ (hT 0 (by decide)).1
    clear hmk
    go_enter Tryz.func54, Tryz.ntmps54
    go_wp2_with fail
    refine (hF w wm _ h9 hT hP hown hbm).mono ?_
    rintro _ w2 ⟨v', rfl, hO2, hB2⟩
    have hcv := fl_own_text hO2
    go_wp2_with fail
    go_ret
    exact ⟨rfl, hB2⟩
theorem ff_calls {b : Nat} (h : FtoaOk b) : ∃ l : List UInt8, (l ≠ [] ∧ l.length ≤ 64) ∧ ∀ w, Tab10 w → Lib.TabIs Tryz.prog w "internal/strconv.uint64pow10" .u64 Lib.pow10Tab →
    Calls Tryz.prog 34 #[.float .f64 b, .int .u8 103, .int .i64 (-1), .int .i64 64] w fun e w' => e = .returned (.string ⟨l.toArray⟩) ∧ Below w.heap.size w w' := by
  obtain ⟨l, hl, hc⟩ := ff_in h
  refine ⟨l, hl, fun w hT hP => ?_⟩
  go_enter Tryz.func34, Tryz.ntmps34
  go_wp2_with fail
  refine (hc _ hT hP).mono ?_
  rintro _ w1 ⟨rfl, hb⟩
  go_wp2_with fail
  go_ret
  exact ⟨rfl, hb⟩
end Go.Proofs.YtjbpphomlmlmaaaGreatDoor
