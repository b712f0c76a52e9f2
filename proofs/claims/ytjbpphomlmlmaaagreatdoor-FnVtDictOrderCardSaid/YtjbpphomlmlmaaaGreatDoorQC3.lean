/- The shortest digits of a float: some, and always the same. -/
import Derived.Test.YtjbpphomlmlmaaaGreatDoorQC2
namespace Go.Proofs.YtjbpphomlmlmaaaGreatDoor
open Go.RowKit
set_option linter.unusedVariables false
def ShortOk (m : Nat) (e : Int) : Prop := ∃ (d : Nat) (q : Int), 1 ≤ d ∧ d < 18446744073709551616 ∧ -400 ≤ q ∧ q ≤ 400 ∧ ∀ w, Tab10 w →
  Calls Tryz.prog 139 #[.int .u64 m, .int .i64 e] w fun r w' => r = .returned (.tuple #[.int .u64 d, .int .i64 q]) ∧ Below w.heap.size w w'
theorem Tab10.below {w w' : World} (h : Tab10 w) (hb : Below w.heap.size w w') : Tab10 w' := fun i hi => ⟨cell_keep hb.block (h i hi).1, cell_keep hb.block (h i hi).2⟩
theorem and_one_i64 (a : Nat) (ha : a < 9223372036854775808) : ∃ k : Nat, bits .and .i64 (a : Int) 1 = (k : Int) ∧ k ≤ 1 := by
  have hx : a &&& 1 ≤ 1 := by rw [Nat.and_one_is_mod]; omega
  have h1 : (BitVec.ofInt 64 (a : Int)).toNat = a := by
    rw [BitVec.ofInt_natCast, BitVec.toNat_ofNat]; exact Nat.mod_eq_of_lt (by omega)
  have h2 : (BitVec.ofInt 64 ((1 : Nat) : Int)).toNat = 1 := by
    rw [BitVec.ofInt_natCast, BitVec.toNat_ofNat]
  refine ⟨a &&& 1, ?_, hx⟩
  show IntKind.i64.wrap ((BitVec.ofInt 64 (a : Int) &&& BitVec.ofInt 64 ((1 : Nat) : Int)).toNat : Int) = _
  rw [BitVec.toNat_and, h1, h2]
  generalize a &&& 1 = k at *
  rcases (by omega : k = 0 ∨ k = 1) with rfl | rfl <;> rfl
set_option maxRecDepth 100000 in
set_option maxHeartbeats 6400000 in
theorem short_b (m : Nat) (e : Int) (hm0 : 9223372036854775808 ≤ m) (hm1 : m ≤ 18446744073709549568) (he0 : -1085 ≤ e) (he1 : e ≤ 960) (hne : m ≠ 9223372036854775808) : ShortOk m e := by
  have hg : decide (e ≥ -1085) = true := by simp; omega
  have hg2 : ((m : Int) == 9223372036854775808) = false := by simp; omega
  obtain ⟨p, hp⟩ : ∃ p : Int, -((e + 11) * 78913 / 262144) = p := ⟨_, rfl⟩
  have hok := shifts_b e he0 he1
  rw [hp] at hok
  simp only [shiftOk, Bool.and_eq_true, decide_eq_true_eq] at hok
  obtain ⟨mn, hmn⟩ : ∃ mn : Nat, (m : Int) - 1024 = mn := ⟨m - 1024, by omega⟩
  obtain ⟨mx, hmx⟩ : ∃ mx : Nat, (m : Int) + 1024 = mx := ⟨m + 1024, by omega⟩
  obtain ⟨od, hod, hod1⟩ := and_one_i64 (m / 2048) (by omega)
  have hod' : bits .and .i64 ((m : Int) / 2048) 1 = (od : Int) := hod
  clear hod

  have hlp := hok
  obtain ⟨i, hi⟩ : ∃ i : Nat, p = (i : Int) - 348 := ⟨(p + 348).toNat, by omega⟩
  have hi696 : i < 696 := by omega
  obtain ⟨s, hs⟩ : ∃ s : Nat, -(e + p * 108853 / 32768 + 3) = (s : Int) := ⟨(-(e + p * 108853 / 32768 + 3)).toNat, by omega⟩
  have hs0 : 2 ≤ s := by omega
  have hs1 : s ≤ 60 := by omega
  have hp0 : -292 ≤ p := by omega
  have hp1 : p ≤ 324 := by omega
  obtain ⟨q0, q1, q2⟩ := p10_ok i hi696
  obtain ⟨un, hun, un0, un1, _⟩ := uscaleP_ok mn _ _ s (by omega) (by omega) q0 q1 q2 hs0 hs1
  obtain ⟨ux, hux, ux0, ux1, _⟩ := uscaleP_ok mx _ _ s (by omega) (by omega) q0 q1 q2 hs0 hs1
  obtain ⟨um, hum, um0, um1, um2⟩ := uscaleP_ok m _ _ s (by omega) (by omega) q0 q1 q2 hs0 hs1
  have um3 := um2 hm0
  clear um2
  have KN := Lib.hid fun (B : Nat) (w : World) (h : SclAt w B (p10 i).1 (p10 i).2 s) => hun ▸ uscale_calls mn (p10 i).1 (p10 i).2 s (by omega) q1 q2 (by omega) B w h.cells.1.1 h.cells.1.2.1 h.cells.1.2.2
  have KX := Lib.hid fun (B : Nat) (w : World) (h : SclAt w B (p10 i).1 (p10 i).2 s) => hux ▸ uscale_calls mx (p10 i).1 (p10 i).2 s (by omega) q1 q2 (by omega) B w h.cells.1.1 h.cells.1.2.1 h.cells.1.2.2
  have KM := Lib.hid fun (B : Nat) (w : World) (h : SclAt w B (p10 i).1 (p10 i).2 s) => hum ▸ uscale_calls m (p10 i).1 (p10 i).2 s (by omega) q1 q2 (by omega) B w h.cells.1.1 h.cells.1.2.1 h.cells.1.2.2
  have HI := Lib.hid hi
  have HS := Lib.hid hs
  clear hi hs hun hux hum hok hlp
  by_cases h1 : ((un : Int) + od + 3) / 4 ≤ ((ux : Int) + -od) / 4 / 10 * 10
  · refine ⟨(ux - od) / 4 / 10, -(p - 1), by omega, by omega, by omega, by omega, ?_⟩
    intro w hT
    have hT9 : 9 < w.heap.size := by
      have := (hT 0 (by decide)).1
      exact World.block_lt_of_cell? w _ this
    have hb0 : Below w.heap.size w (w.alloc (.cells #[.int .u64 0, .int .u64 0, .int .i64 0] 217)) := (Below.refl _ _).alloc (Nat.le_refl _) _
    have hT0 := hT.below hb0
    have hS0 : SclAt (w.alloc (.cells #[.int .u64 0, .int .u64 0, .int .i64 0] 217)) w.heap.size 0 0 0 := heap_alloc_new w _
    go_enter Tryz.func139, Tryz.ntmps139
    go_wp2_with (first
      | (go_at_call 124; refine (log10Pow2_calls _ (by omega) (by omega) _).mono ?_; rintro e w1 ⟨rfl, rfl⟩)
      | (go_at_call 154; refine (skewed_calls _ (by omega) (by omega) _).mono ?_; rintro e w1 ⟨rfl, rfl⟩)
      | (go_at_call 156; refine (log2Pow10_calls _ (by omega) (by omega) _).mono ?_; rintro e w1 ⟨rfl, rfl⟩)
      | (go_at_call 155; refine (prescale_calls _ _ _ i _ _ _ _ _ hi696 HI.out (by omega) (by omega) (by omega) (by omega) hT0 hS0 (by omega)).mono ?_; rintro e w2 ⟨rfl, hS, hb2⟩; rw [HS.out] at hS)
      | (go_at_call_of 157 (Value.int IntKind.u64 (mn : Int)); refine (KN.out _ _ ?_).mono ?_; exact hS; rintro e w3 ⟨rfl, n1, rfl⟩)
      | (go_at_call_of 157 (Value.int IntKind.u64 (mx : Int)); refine (KX.out _ _ ?_).mono ?_; exact hS; rintro e w3 ⟨rfl, n2, rfl⟩)
      | (go_at_call_of 157 (Value.int IntKind.u64 (m : Int)); refine (KM.out _ _ ?_).mono ?_; exact hS; rintro e w3 ⟨rfl, n3, rfl⟩)
      | (go_at_call 158; refine (nudge_calls _ _ (by omega) (by omega) (by omega) (by omega) _).mono ?_; rintro e w1 ⟨rfl, rfl⟩)
      | (go_at_call 159; refine (ceil_calls _ (by omega) (by omega) _).mono ?_; rintro e w1 ⟨rfl, rfl⟩)
      | (go_at_call 160; refine (floor_calls _ (by omega) (by omega) _).mono ?_; rintro e w1 ⟨rfl, rfl⟩)
      | (go_at_call 161; refine (round_calls um (by omega) _).mono ?_; rintro e w1 ⟨rfl, rfl⟩))
    go_ret2
    have hd : ((ux : Int) + -od) / 4 / 10 = (((ux - od) / 4 / 10 : Nat) : Int) := by omega
    refine ⟨?_, ?_⟩
    · show Ending.returned (Value.tuple #[Value.int .u64 (((ux : Int) + -od) / 4 / 10), Value.int .i64 (-(p - 1))]) = _
      rw [hd]
    · have hb3 := hb0.trans hb2
      exact below_drewN hb3 _
  by_cases h2 : ((un : Int) + od + 3) / 4 < ((ux : Int) + -od) / 4
  · refine ⟨(um + 1 + um / 4 % 2) / 4, -p, by omega, by omega, by omega, by omega, ?_⟩
    intro w hT
    have hT9 : 9 < w.heap.size := by
      have := (hT 0 (by decide)).1
      exact World.block_lt_of_cell? w _ this
    have hb0 : Below w.heap.size w (w.alloc (.cells #[.int .u64 0, .int .u64 0, .int .i64 0] 217)) := (Below.refl _ _).alloc (Nat.le_refl _) _
    have hT0 := hT.below hb0
    have hS0 : SclAt (w.alloc (.cells #[.int .u64 0, .int .u64 0, .int .i64 0] 217)) w.heap.size 0 0 0 := heap_alloc_new w _
    go_enter Tryz.func139, Tryz.ntmps139
    go_wp2_with (first
      | (go_at_call 124; refine (log10Pow2_calls _ (by omega) (by omega) _).mono ?_; rintro e w1 ⟨rfl, rfl⟩)
      | (go_at_call 154; refine (skewed_calls _ (by omega) (by omega) _).mono ?_; rintro e w1 ⟨rfl, rfl⟩)
      | (go_at_call 156; refine (log2Pow10_calls _ (by omega) (by omega) _).mono ?_; rintro e w1 ⟨rfl, rfl⟩)
      | (go_at_call 155; refine (prescale_calls _ _ _ i _ _ _ _ _ hi696 HI.out (by omega) (by omega) (by omega) (by omega) hT0 hS0 (by omega)).mono ?_; rintro e w2 ⟨rfl, hS, hb2⟩; rw [HS.out] at hS)
      | (go_at_call_of 157 (Value.int IntKind.u64 (mn : Int)); refine (KN.out _ _ ?_).mono ?_; exact hS; rintro e w3 ⟨rfl, n1, rfl⟩)
      | (go_at_call_of 157 (Value.int IntKind.u64 (mx : Int)); refine (KX.out _ _ ?_).mono ?_; exact hS; rintro e w3 ⟨rfl, n2, rfl⟩)
      | (go_at_call_of 157 (Value.int IntKind.u64 (m : Int)); refine (KM.out _ _ ?_).mono ?_; exact hS; rintro e w3 ⟨rfl, n3, rfl⟩)
      | (go_at_call 158; refine (nudge_calls _ _ (by omega) (by omega) (by omega) (by omega) _).mono ?_; rintro e w1 ⟨rfl, rfl⟩)
      | (go_at_call 159; refine (ceil_calls _ (by omega) (by omega) _).mono ?_; rintro e w1 ⟨rfl, rfl⟩)
      | (go_at_call 160; refine (floor_calls _ (by omega) (by omega) _).mono ?_; rintro e w1 ⟨rfl, rfl⟩)
      | (go_at_call 161; refine (round_calls um (by omega) _).mono ?_; rintro e w1 ⟨rfl, rfl⟩))
    go_ret2
    refine ⟨rfl, ?_⟩
    have hb3 := hb0.trans hb2
    exact below_drewN hb3 _
  · refine ⟨(un + od + 3) / 4, -p, by omega, by omega, by omega, by omega, ?_⟩
    intro w hT
    have hT9 : 9 < w.heap.size := by
      have := (hT 0 (by decide)).1
      exact World.block_lt_of_cell? w _ this
    have hb0 : Below w.heap.size w (w.alloc (.cells #[.int .u64 0, .int .u64 0, .int .i64 0] 217)) := (Below.refl _ _).alloc (Nat.le_refl _) _
    have hT0 := hT.below hb0
    have hS0 : SclAt (w.alloc (.cells #[.int .u64 0, .int .u64 0, .int .i64 0] 217)) w.heap.size 0 0 0 := heap_alloc_new w _
    go_enter Tryz.func139, Tryz.ntmps139
    go_wp2_with (first
      | (go_at_call 124; refine (log10Pow2_calls _ (by omega) (by omega) _).mono ?_; rintro e w1 ⟨rfl, rfl⟩)
      | (go_at_call 154; refine (skewed_calls _ (by omega) (by omega) _).mono ?_; rintro e w1 ⟨rfl, rfl⟩)
      | (go_at_call 156; refine (log2Pow10_calls _ (by omega) (by omega) _).mono ?_; rintro e w1 ⟨rfl, rfl⟩)
      | (go_at_call 155; refine (prescale_calls _ _ _ i _ _ _ _ _ hi696 HI.out (by omega) (by omega) (by omega) (by omega) hT0 hS0 (by omega)).mono ?_; rintro e w2 ⟨rfl, hS, hb2⟩; rw [HS.out] at hS)
      | (go_at_call_of 157 (Value.int IntKind.u64 (mn : Int)); refine (KN.out _ _ ?_).mono ?_; exact hS; rintro e w3 ⟨rfl, n1, rfl⟩)
      | (go_at_call_of 157 (Value.int IntKind.u64 (mx : Int)); refine (KX.out _ _ ?_).mono ?_; exact hS; rintro e w3 ⟨rfl, n2, rfl⟩)
      | (go_at_call_of 157 (Value.int IntKind.u64 (m : Int)); refine (KM.out _ _ ?_).mono ?_; exact hS; rintro e w3 ⟨rfl, n3, rfl⟩)
      | (go_at_call 158; refine (nudge_calls _ _ (by omega) (by omega) (by omega) (by omega) _).mono ?_; rintro e w1 ⟨rfl, rfl⟩)
      | (go_at_call 159; refine (ceil_calls _ (by omega) (by omega) _).mono ?_; rintro e w1 ⟨rfl, rfl⟩)
      | (go_at_call 160; refine (floor_calls _ (by omega) (by omega) _).mono ?_; rintro e w1 ⟨rfl, rfl⟩)
      | (go_at_call 161; refine (round_calls um (by omega) _).mono ?_; rintro e w1 ⟨rfl, rfl⟩))
    go_ret2
    have hd : ((un : Int) + od + 3) / 4 = (((un + od + 3) / 4 : Nat) : Int) := by omega
    refine ⟨?_, ?_⟩
    · show Ending.returned (Value.tuple #[Value.int .u64 (((un : Int) + od + 3) / 4), Value.int .i64 (-p)]) = _
      rw [hd]
    · have hb3 := hb0.trans hb2
      exact below_drewN hb3 _
set_option maxRecDepth 100000 in
set_option maxHeartbeats 6400000 in
theorem short_x (m : Nat) (e : Int) (hm0 : 9223372036854775808 ≤ m) (hm1 : m ≤ 18446744073709549568) (he : e = -1085) (hne : m = 9223372036854775808) : ShortOk m e := by
  subst he
  have hg2 : ((m : Int) == 9223372036854775808) = true := by simp [hne]
  clear hne
  obtain ⟨p, hp⟩ : ∃ p : Int, (324 : Int) = p := ⟨_, rfl⟩
  have hok := shifts_b (-1085) (by omega) (by omega)
  rw [show -((-1085 + 11) * 78913 / 262144) = (324 : Int) by decide, hp] at hok
  simp only [shiftOk, Bool.and_eq_true, decide_eq_true_eq] at hok
  obtain ⟨mn, hmn⟩ : ∃ mn : Nat, (m : Int) - 1024 = mn := ⟨m - 1024, by omega⟩
  obtain ⟨mx, hmx⟩ : ∃ mx : Nat, (m : Int) + 1024 = mx := ⟨m + 1024, by omega⟩
  obtain ⟨od, hod, hod1⟩ := and_one_i64 (m / 2048) (by omega)
  have hod' : bits .and .i64 ((m : Int) / 2048) 1 = (od : Int) := hod
  clear hod

  have hlp := hok
  obtain ⟨i, hi⟩ : ∃ i : Nat, p = (i : Int) - 348 := ⟨(p + 348).toNat, by omega⟩
  have hi696 : i < 696 := by omega
  obtain ⟨s, hs⟩ : ∃ s : Nat, -(-1085 + p * 108853 / 32768 + 3) = (s : Int) := ⟨(-(-1085 + p * 108853 / 32768 + 3)).toNat, by omega⟩
  have hs0 : 2 ≤ s := by omega
  have hs1 : s ≤ 60 := by omega
  have hp0 : -292 ≤ p := by omega
  have hp1 : p ≤ 324 := by omega
  obtain ⟨q0, q1, q2⟩ := p10_ok i hi696
  obtain ⟨un, hun, un0, un1, _⟩ := uscaleP_ok mn _ _ s (by omega) (by omega) q0 q1 q2 hs0 hs1
  obtain ⟨ux, hux, ux0, ux1, _⟩ := uscaleP_ok mx _ _ s (by omega) (by omega) q0 q1 q2 hs0 hs1
  obtain ⟨um, hum, um0, um1, um2⟩ := uscaleP_ok m _ _ s (by omega) (by omega) q0 q1 q2 hs0 hs1
  have um3 := um2 hm0
  clear um2
  have KN := Lib.hid fun (B : Nat) (w : World) (h : SclAt w B (p10 i).1 (p10 i).2 s) => hun ▸ uscale_calls mn (p10 i).1 (p10 i).2 s (by omega) q1 q2 (by omega) B w h.cells.1.1 h.cells.1.2.1 h.cells.1.2.2
  have KX := Lib.hid fun (B : Nat) (w : World) (h : SclAt w B (p10 i).1 (p10 i).2 s) => hux ▸ uscale_calls mx (p10 i).1 (p10 i).2 s (by omega) q1 q2 (by omega) B w h.cells.1.1 h.cells.1.2.1 h.cells.1.2.2
  have KM := Lib.hid fun (B : Nat) (w : World) (h : SclAt w B (p10 i).1 (p10 i).2 s) => hum ▸ uscale_calls m (p10 i).1 (p10 i).2 s (by omega) q1 q2 (by omega) B w h.cells.1.1 h.cells.1.2.1 h.cells.1.2.2
  have HI := Lib.hid hi
  have HS := Lib.hid hs
  clear hi hs hun hux hum hok hlp
  by_cases h1 : ((un : Int) + od + 3) / 4 ≤ ((ux : Int) + -od) / 4 / 10 * 10
  · refine ⟨(ux - od) / 4 / 10, -(p - 1), by omega, by omega, by omega, by omega, ?_⟩
    intro w hT
    have hT9 : 9 < w.heap.size := by
      have := (hT 0 (by decide)).1
      exact World.block_lt_of_cell? w _ this
    have hb0 : Below w.heap.size w (w.alloc (.cells #[.int .u64 0, .int .u64 0, .int .i64 0] 217)) := (Below.refl _ _).alloc (Nat.le_refl _) _
    have hT0 := hT.below hb0
    have hS0 : SclAt (w.alloc (.cells #[.int .u64 0, .int .u64 0, .int .i64 0] 217)) w.heap.size 0 0 0 := heap_alloc_new w _
    go_enter Tryz.func139, Tryz.ntmps139
    go_wp2_with (first
      | (go_at_call 124; refine (log10Pow2_calls _ (by omega) (by omega) _).mono ?_; rintro e w1 ⟨rfl, rfl⟩)
      | (go_at_call 154; refine (skewed_calls _ (by omega) (by omega) _).mono ?_; rintro e w1 ⟨rfl, rfl⟩)
      | (go_at_call 156; refine (log2Pow10_calls _ (by omega) (by omega) _).mono ?_; rintro e w1 ⟨rfl, rfl⟩)
      | (go_at_call 155; refine (prescale_calls _ _ _ i _ _ _ _ _ hi696 HI.out (by omega) (by omega) (by omega) (by omega) hT0 hS0 (by omega)).mono ?_; rintro e w2 ⟨rfl, hS, hb2⟩; rw [HS.out] at hS)
      | (go_at_call_of 157 (Value.int IntKind.u64 (mn : Int)); refine (KN.out _ _ ?_).mono ?_; exact hS; rintro e w3 ⟨rfl, n1, rfl⟩)
      | (go_at_call_of 157 (Value.int IntKind.u64 (mx : Int)); refine (KX.out _ _ ?_).mono ?_; exact hS; rintro e w3 ⟨rfl, n2, rfl⟩)
      | (go_at_call_of 157 (Value.int IntKind.u64 (m : Int)); refine (KM.out _ _ ?_).mono ?_; exact hS; rintro e w3 ⟨rfl, n3, rfl⟩)
      | (go_at_call 158; refine (nudge_calls _ _ (by omega) (by omega) (by omega) (by omega) _).mono ?_; rintro e w1 ⟨rfl, rfl⟩)
      | (go_at_call 159; refine (ceil_calls _ (by omega) (by omega) _).mono ?_; rintro e w1 ⟨rfl, rfl⟩)
      | (go_at_call 160; refine (floor_calls _ (by omega) (by omega) _).mono ?_; rintro e w1 ⟨rfl, rfl⟩)
      | (go_at_call 161; refine (round_calls um (by omega) _).mono ?_; rintro e w1 ⟨rfl, rfl⟩))
    go_ret2
    have hd : ((ux : Int) + -od) / 4 / 10 = (((ux - od) / 4 / 10 : Nat) : Int) := by omega
    refine ⟨?_, ?_⟩
    · show Ending.returned (Value.tuple #[Value.int .u64 (((ux : Int) + -od) / 4 / 10), Value.int .i64 (-(p - 1))]) = _
      rw [hd]
    · have hb3 := hb0.trans hb2
      exact below_drewN hb3 _
  by_cases h2 : ((un : Int) + od + 3) / 4 < ((ux : Int) + -od) / 4
  · refine ⟨(um + 1 + um / 4 % 2) / 4, -p, by omega, by omega, by omega, by omega, ?_⟩
    intro w hT
    have hT9 : 9 < w.heap.size := by
      have := (hT 0 (by decide)).1
      exact World.block_lt_of_cell? w _ this
    have hb0 : Below w.heap.size w (w.alloc (.cells #[.int .u64 0, .int .u64 0, .int .i64 0] 217)) := (Below.refl _ _).alloc (Nat.le_refl _) _
    have hT0 := hT.below hb0
    have hS0 : SclAt (w.alloc (.cells #[.int .u64 0, .int .u64 0, .int .i64 0] 217)) w.heap.size 0 0 0 := heap_alloc_new w _
    go_enter Tryz.func139, Tryz.ntmps139
    go_wp2_with (first
      | (go_at_call 124; refine (log10Pow2_calls _ (by omega) (by omega) _).mono ?_; rintro e w1 ⟨rfl, rfl⟩)
      | (go_at_call 154; refine (skewed_calls _ (by omega) (by omega) _).mono ?_; rintro e w1 ⟨rfl, rfl⟩)
      | (go_at_call 156; refine (log2Pow10_calls _ (by omega) (by omega) _).mono ?_; rintro e w1 ⟨rfl, rfl⟩)
      | (go_at_call 155; refine (prescale_calls _ _ _ i _ _ _ _ _ hi696 HI.out (by omega) (by omega) (by omega) (by omega) hT0 hS0 (by omega)).mono ?_; rintro e w2 ⟨rfl, hS, hb2⟩; rw [HS.out] at hS)
      | (go_at_call_of 157 (Value.int IntKind.u64 (mn : Int)); refine (KN.out _ _ ?_).mono ?_; exact hS; rintro e w3 ⟨rfl, n1, rfl⟩)
      | (go_at_call_of 157 (Value.int IntKind.u64 (mx : Int)); refine (KX.out _ _ ?_).mono ?_; exact hS; rintro e w3 ⟨rfl, n2, rfl⟩)
      | (go_at_call_of 157 (Value.int IntKind.u64 (m : Int)); refine (KM.out _ _ ?_).mono ?_; exact hS; rintro e w3 ⟨rfl, n3, rfl⟩)
      | (go_at_call 158; refine (nudge_calls _ _ (by omega) (by omega) (by omega) (by omega) _).mono ?_; rintro e w1 ⟨rfl, rfl⟩)
      | (go_at_call 159; refine (ceil_calls _ (by omega) (by omega) _).mono ?_; rintro e w1 ⟨rfl, rfl⟩)
      | (go_at_call 160; refine (floor_calls _ (by omega) (by omega) _).mono ?_; rintro e w1 ⟨rfl, rfl⟩)
      | (go_at_call 161; refine (round_calls um (by omega) _).mono ?_; rintro e w1 ⟨rfl, rfl⟩))
    go_ret2
    refine ⟨rfl, ?_⟩
    have hb3 := hb0.trans hb2
    exact below_drewN hb3 _
  · refine ⟨(un + od + 3) / 4, -p, by omega, by omega, by omega, by omega, ?_⟩
    intro w hT
    have hT9 : 9 < w.heap.size := by
      have := (hT 0 (by decide)).1
      exact World.block_lt_of_cell? w _ this
    have hb0 : Below w.heap.size w (w.alloc (.cells #[.int .u64 0, .int .u64 0, .int .i64 0] 217)) := (Below.refl _ _).alloc (Nat.le_refl _) _
    have hT0 := hT.below hb0
    have hS0 : SclAt (w.alloc (.cells #[.int .u64 0, .int .u64 0, .int .i64 0] 217)) w.heap.size 0 0 0 := heap_alloc_new w _
    go_enter Tryz.func139, Tryz.ntmps139
    go_wp2_with (first
      | (go_at_call 124; refine (log10Pow2_calls _ (by omega) (by omega) _).mono ?_; rintro e w1 ⟨rfl, rfl⟩)
      | (go_at_call 154; refine (skewed_calls _ (by omega) (by omega) _).mono ?_; rintro e w1 ⟨rfl, rfl⟩)
      | (go_at_call 156; refine (log2Pow10_calls _ (by omega) (by omega) _).mono ?_; rintro e w1 ⟨rfl, rfl⟩)
      | (go_at_call 155; refine (prescale_calls _ _ _ i _ _ _ _ _ hi696 HI.out (by omega) (by omega) (by omega) (by omega) hT0 hS0 (by omega)).mono ?_; rintro e w2 ⟨rfl, hS, hb2⟩; rw [HS.out] at hS)
      | (go_at_call_of 157 (Value.int IntKind.u64 (mn : Int)); refine (KN.out _ _ ?_).mono ?_; exact hS; rintro e w3 ⟨rfl, n1, rfl⟩)
      | (go_at_call_of 157 (Value.int IntKind.u64 (mx : Int)); refine (KX.out _ _ ?_).mono ?_; exact hS; rintro e w3 ⟨rfl, n2, rfl⟩)
      | (go_at_call_of 157 (Value.int IntKind.u64 (m : Int)); refine (KM.out _ _ ?_).mono ?_; exact hS; rintro e w3 ⟨rfl, n3, rfl⟩)
      | (go_at_call 158; refine (nudge_calls _ _ (by omega) (by omega) (by omega) (by omega) _).mono ?_; rintro e w1 ⟨rfl, rfl⟩)
      | (go_at_call 159; refine (ceil_calls _ (by omega) (by omega) _).mono ?_; rintro e w1 ⟨rfl, rfl⟩)
      | (go_at_call 160; refine (floor_calls _ (by omega) (by omega) _).mono ?_; rintro e w1 ⟨rfl, rfl⟩)
      | (go_at_call 161; refine (round_calls um (by omega) _).mono ?_; rintro e w1 ⟨rfl, rfl⟩))
    go_ret2
    have hd : ((un : Int) + od + 3) / 4 = (((un + od + 3) / 4 : Nat) : Int) := by omega
    refine ⟨?_, ?_⟩
    · show Ending.returned (Value.tuple #[Value.int .u64 (((un : Int) + od + 3) / 4), Value.int .i64 (-p)]) = _
      rw [hd]
    · have hb3 := hb0.trans hb2
      exact below_drewN hb3 _
set_option maxRecDepth 100000 in
set_option maxHeartbeats 6400000 in
theorem short_a (m : Nat) (e : Int) (hm0 : 9223372036854775808 ≤ m) (hm1 : m ≤ 18446744073709549568) (he0 : -1085 < e) (he1 : e ≤ 960) (hme : m = 9223372036854775808) : ShortOk m e := by
  have hg : decide (e > -1085) = true := by simp; omega
  have hg2 : ((m : Int) == 9223372036854775808) = true := by simp [hme]
  clear hme
  obtain ⟨p, hp⟩ : ∃ p : Int, -(((e + 11) * 631305 - 261663) / 2097152) = p := ⟨_, rfl⟩
  have hok := shifts_a e (by omega) he1
  rw [hp] at hok
  simp only [shiftOk, Bool.and_eq_true, decide_eq_true_eq] at hok
  obtain ⟨mn, hmn⟩ : ∃ mn : Nat, (m : Int) - 512 = mn := ⟨m - 512, by omega⟩
  obtain ⟨mx, hmx⟩ : ∃ mx : Nat, (m : Int) + 1024 = mx := ⟨m + 1024, by omega⟩
  obtain ⟨od, hod, hod1⟩ := and_one_i64 (m / 2048) (by omega)
  have hod' : bits .and .i64 ((m : Int) / 2048) 1 = (od : Int) := hod
  clear hod

  have hlp := hok
  obtain ⟨i, hi⟩ : ∃ i : Nat, p = (i : Int) - 348 := ⟨(p + 348).toNat, by omega⟩
  have hi696 : i < 696 := by omega
  obtain ⟨s, hs⟩ : ∃ s : Nat, -(e + p * 108853 / 32768 + 3) = (s : Int) := ⟨(-(e + p * 108853 / 32768 + 3)).toNat, by omega⟩
  have hs0 : 2 ≤ s := by omega
  have hs1 : s ≤ 60 := by omega
  have hp0 : -292 ≤ p := by omega
  have hp1 : p ≤ 324 := by omega
  obtain ⟨q0, q1, q2⟩ := p10_ok i hi696
  obtain ⟨un, hun, un0, un1, _⟩ := uscaleP_ok mn _ _ s (by omega) (by omega) q0 q1 q2 hs0 hs1
  obtain ⟨ux, hux, ux0, ux1, _⟩ := uscaleP_ok mx _ _ s (by omega) (by omega) q0 q1 q2 hs0 hs1
  obtain ⟨um, hum, um0, um1, um2⟩ := uscaleP_ok m _ _ s (by omega) (by omega) q0 q1 q2 hs0 hs1
  have um3 := um2 hm0
  clear um2
  have KN := Lib.hid fun (B : Nat) (w : World) (h : SclAt w B (p10 i).1 (p10 i).2 s) => hun ▸ uscale_calls mn (p10 i).1 (p10 i).2 s (by omega) q1 q2 (by omega) B w h.cells.1.1 h.cells.1.2.1 h.cells.1.2.2
  have KX := Lib.hid fun (B : Nat) (w : World) (h : SclAt w B (p10 i).1 (p10 i).2 s) => hux ▸ uscale_calls mx (p10 i).1 (p10 i).2 s (by omega) q1 q2 (by omega) B w h.cells.1.1 h.cells.1.2.1 h.cells.1.2.2
  have KM := Lib.hid fun (B : Nat) (w : World) (h : SclAt w B (p10 i).1 (p10 i).2 s) => hum ▸ uscale_calls m (p10 i).1 (p10 i).2 s (by omega) q1 q2 (by omega) B w h.cells.1.1 h.cells.1.2.1 h.cells.1.2.2
  have HI := Lib.hid hi
  have HS := Lib.hid hs
  clear hi hs hun hux hum hok hlp
  by_cases h1 : ((un : Int) + od + 3) / 4 ≤ ((ux : Int) + -od) / 4 / 10 * 10
  · refine ⟨(ux - od) / 4 / 10, -(p - 1), by omega, by omega, by omega, by omega, ?_⟩
    intro w hT
    have hT9 : 9 < w.heap.size := by
      have := (hT 0 (by decide)).1
      exact World.block_lt_of_cell? w _ this
    have hb0 : Below w.heap.size w (w.alloc (.cells #[.int .u64 0, .int .u64 0, .int .i64 0] 217)) := (Below.refl _ _).alloc (Nat.le_refl _) _
    have hT0 := hT.below hb0
    have hS0 : SclAt (w.alloc (.cells #[.int .u64 0, .int .u64 0, .int .i64 0] 217)) w.heap.size 0 0 0 := heap_alloc_new w _
    go_enter Tryz.func139, Tryz.ntmps139
    go_wp2_with (first
      | (go_at_call 124; refine (log10Pow2_calls _ (by omega) (by omega) _).mono ?_; rintro e w1 ⟨rfl, rfl⟩)
      | (go_at_call 154; refine (skewed_calls _ (by omega) (by omega) _).mono ?_; rintro e w1 ⟨rfl, rfl⟩)
      | (go_at_call 156; refine (log2Pow10_calls _ (by omega) (by omega) _).mono ?_; rintro e w1 ⟨rfl, rfl⟩)
      | (go_at_call 155; refine (prescale_calls _ _ _ i _ _ _ _ _ hi696 HI.out (by omega) (by omega) (by omega) (by omega) hT0 hS0 (by omega)).mono ?_; rintro e w2 ⟨rfl, hS, hb2⟩; rw [HS.out] at hS)
      | (go_at_call_of 157 (Value.int IntKind.u64 (mn : Int)); refine (KN.out _ _ ?_).mono ?_; exact hS; rintro e w3 ⟨rfl, n1, rfl⟩)
      | (go_at_call_of 157 (Value.int IntKind.u64 (mx : Int)); refine (KX.out _ _ ?_).mono ?_; exact hS; rintro e w3 ⟨rfl, n2, rfl⟩)
      | (go_at_call_of 157 (Value.int IntKind.u64 (m : Int)); refine (KM.out _ _ ?_).mono ?_; exact hS; rintro e w3 ⟨rfl, n3, rfl⟩)
      | (go_at_call 158; refine (nudge_calls _ _ (by omega) (by omega) (by omega) (by omega) _).mono ?_; rintro e w1 ⟨rfl, rfl⟩)
      | (go_at_call 159; refine (ceil_calls _ (by omega) (by omega) _).mono ?_; rintro e w1 ⟨rfl, rfl⟩)
      | (go_at_call 160; refine (floor_calls _ (by omega) (by omega) _).mono ?_; rintro e w1 ⟨rfl, rfl⟩)
      | (go_at_call 161; refine (round_calls um (by omega) _).mono ?_; rintro e w1 ⟨rfl, rfl⟩))
    go_ret2
    have hd : ((ux : Int) + -od) / 4 / 10 = (((ux - od) / 4 / 10 : Nat) : Int) := by omega
    refine ⟨?_, ?_⟩
    · show Ending.returned (Value.tuple #[Value.int .u64 (((ux : Int) + -od) / 4 / 10), Value.int .i64 (-(p - 1))]) = _
      rw [hd]
    · have hb3 := hb0.trans hb2
      exact below_drewN hb3 _
  by_cases h2 : ((un : Int) + od + 3) / 4 < ((ux : Int) + -od) / 4
  · refine ⟨(um + 1 + um / 4 % 2) / 4, -p, by omega, by omega, by omega, by omega, ?_⟩
    intro w hT
    have hT9 : 9 < w.heap.size := by
      have := (hT 0 (by decide)).1
      exact World.block_lt_of_cell? w _ this
    have hb0 : Below w.heap.size w (w.alloc (.cells #[.int .u64 0, .int .u64 0, .int .i64 0] 217)) := (Below.refl _ _).alloc (Nat.le_refl _) _
    have hT0 := hT.below hb0
    have hS0 : SclAt (w.alloc (.cells #[.int .u64 0, .int .u64 0, .int .i64 0] 217)) w.heap.size 0 0 0 := heap_alloc_new w _
    go_enter Tryz.func139, Tryz.ntmps139
    go_wp2_with (first
      | (go_at_call 124; refine (log10Pow2_calls _ (by omega) (by omega) _).mono ?_; rintro e w1 ⟨rfl, rfl⟩)
      | (go_at_call 154; refine (skewed_calls _ (by omega) (by omega) _).mono ?_; rintro e w1 ⟨rfl, rfl⟩)
      | (go_at_call 156; refine (log2Pow10_calls _ (by omega) (by omega) _).mono ?_; rintro e w1 ⟨rfl, rfl⟩)
      | (go_at_call 155; refine (prescale_calls _ _ _ i _ _ _ _ _ hi696 HI.out (by omega) (by omega) (by omega) (by omega) hT0 hS0 (by omega)).mono ?_; rintro e w2 ⟨rfl, hS, hb2⟩; rw [HS.out] at hS)
      | (go_at_call_of 157 (Value.int IntKind.u64 (mn : Int)); refine (KN.out _ _ ?_).mono ?_; exact hS; rintro e w3 ⟨rfl, n1, rfl⟩)
      | (go_at_call_of 157 (Value.int IntKind.u64 (mx : Int)); refine (KX.out _ _ ?_).mono ?_; exact hS; rintro e w3 ⟨rfl, n2, rfl⟩)
      | (go_at_call_of 157 (Value.int IntKind.u64 (m : Int)); refine (KM.out _ _ ?_).mono ?_; exact hS; rintro e w3 ⟨rfl, n3, rfl⟩)
      | (go_at_call 158; refine (nudge_calls _ _ (by omega) (by omega) (by omega) (by omega) _).mono ?_; rintro e w1 ⟨rfl, rfl⟩)
      | (go_at_call 159; refine (ceil_calls _ (by omega) (by omega) _).mono ?_; rintro e w1 ⟨rfl, rfl⟩)
      | (go_at_call 160; refine (floor_calls _ (by omega) (by omega) _).mono ?_; rintro e w1 ⟨rfl, rfl⟩)
      | (go_at_call 161; refine (round_calls um (by omega) _).mono ?_; rintro e w1 ⟨rfl, rfl⟩))
    go_ret2
    refine ⟨rfl, ?_⟩
    have hb3 := hb0.trans hb2
    exact below_drewN hb3 _
  · refine ⟨(un + od + 3) / 4, -p, by omega, by omega, by omega, by omega, ?_⟩
    intro w hT
    have hT9 : 9 < w.heap.size := by
      have := (hT 0 (by decide)).1
      exact World.block_lt_of_cell? w _ this
    have hb0 : Below w.heap.size w (w.alloc (.cells #[.int .u64 0, .int .u64 0, .int .i64 0] 217)) := (Below.refl _ _).alloc (Nat.le_refl _) _
    have hT0 := hT.below hb0
    have hS0 : SclAt (w.alloc (.cells #[.int .u64 0, .int .u64 0, .int .i64 0] 217)) w.heap.size 0 0 0 := heap_alloc_new w _
    go_enter Tryz.func139, Tryz.ntmps139
    go_wp2_with (first
      | (go_at_call 124; refine (log10Pow2_calls _ (by omega) (by omega) _).mono ?_; rintro e w1 ⟨rfl, rfl⟩)
      | (go_at_call 154; refine (skewed_calls _ (by omega) (by omega) _).mono ?_; rintro e w1 ⟨rfl, rfl⟩)
      | (go_at_call 156; refine (log2Pow10_calls _ (by omega) (by omega) _).mono ?_; rintro e w1 ⟨rfl, rfl⟩)
      | (go_at_call 155; refine (prescale_calls _ _ _ i _ _ _ _ _ hi696 HI.out (by omega) (by omega) (by omega) (by omega) hT0 hS0 (by omega)).mono ?_; rintro e w2 ⟨rfl, hS, hb2⟩; rw [HS.out] at hS)
      | (go_at_call_of 157 (Value.int IntKind.u64 (mn : Int)); refine (KN.out _ _ ?_).mono ?_; exact hS; rintro e w3 ⟨rfl, n1, rfl⟩)
      | (go_at_call_of 157 (Value.int IntKind.u64 (mx : Int)); refine (KX.out _ _ ?_).mono ?_; exact hS; rintro e w3 ⟨rfl, n2, rfl⟩)
      | (go_at_call_of 157 (Value.int IntKind.u64 (m : Int)); refine (KM.out _ _ ?_).mono ?_; exact hS; rintro e w3 ⟨rfl, n3, rfl⟩)
      | (go_at_call 158; refine (nudge_calls _ _ (by omega) (by omega) (by omega) (by omega) _).mono ?_; rintro e w1 ⟨rfl, rfl⟩)
      | (go_at_call 159; refine (ceil_calls _ (by omega) (by omega) _).mono ?_; rintro e w1 ⟨rfl, rfl⟩)
      | (go_at_call 160; refine (floor_calls _ (by omega) (by omega) _).mono ?_; rintro e w1 ⟨rfl, rfl⟩)
      | (go_at_call 161; refine (round_calls um (by omega) _).mono ?_; rintro e w1 ⟨rfl, rfl⟩))
    go_ret2
    have hd : ((un : Int) + od + 3) / 4 = (((un + od + 3) / 4 : Nat) : Int) := by omega
    refine ⟨?_, ?_⟩
    · show Ending.returned (Value.tuple #[Value.int .u64 (((un : Int) + od + 3) / 4), Value.int .i64 (-p)]) = _
      rw [hd]
    · have hb3 := hb0.trans hb2
      exact below_drewN hb3 _
set_option maxRecDepth 100000 in
set_option maxHeartbeats 6400000 in
theorem short_c (m : Nat) (e : Int) (hm0 : 9223372036854775808 ≤ m) (hm1 : m ≤ 18446744073709549568) (he0 : -1137 ≤ e) (he1 : e < -1085) (hmz : (m : Int) + 2 ^ ((11 + (-1085 - e)).toNat - 1) < 18446744073709551616) (hne : m ≠ 9223372036854775808) : ShortOk m e := by
  have hg : decide (e > -1085) = false := by simp; omega
  have hg2 : decide (e ≥ -1085) = false := by simp; omega
  have hp : -((e + (11 + (-1085 - e))) * 78913 / 262144) = (324 : Int) := by
    rw [show e + (11 + (-1085 - e)) = -1074 by omega]; decide
  obtain ⟨p, hp324⟩ : ∃ p : Int, (324 : Int) = p := ⟨_, rfl⟩
  rw [hp324] at hp
  have hok := shifts_c e he0 he1
  rw [hp324] at hok
  clear hp324
  simp only [shiftOk, Bool.and_eq_true, decide_eq_true_eq] at hok
  obtain ⟨r, hr⟩ : ∃ r : Nat, (2 : Int) ^ ((11 + (-1085 - e)).toNat - 1) = r := ⟨2 ^ ((11 + (-1085 - e)).toNat - 1), by simp⟩
  have hr1 : 2048 ≤ r ∧ r ≤ 4611686018427387904 := by
    have h1 : (2 : Int) ^ ((11 + (-1085 - e)).toNat - 1) = ((2 ^ ((11 + (-1085 - e)).toNat - 1) : Nat) : Int) := by simp
    rw [h1] at hr
    have h2 : 2 ^ ((11 + (-1085 - e)).toNat - 1) = r := Int.ofNat_inj.1 hr
    rw [← h2]
    have h3 : 2 ^ 11 ≤ 2 ^ ((11 + (-1085 - e)).toNat - 1) := Nat.pow_le_pow_right (by decide) (by omega)
    have h4 : 2 ^ ((11 + (-1085 - e)).toNat - 1) ≤ 2 ^ 62 := Nat.pow_le_pow_right (by decide) (by omega)
    exact ⟨h3, h4⟩
  rw [hr] at hmz
  obtain ⟨t, ht⟩ : ∃ t : Nat, (m : Int) / 2 ^ (11 + (-1085 - e)).toNat = t := ⟨m / 2 ^ (11 + (-1085 - e)).toNat, by simp⟩
  have ht1 : t < 9223372036854775808 := by
    have h1 : (m : Int) / 2 ^ (11 + (-1085 - e)).toNat = ((m / 2 ^ (11 + (-1085 - e)).toNat : Nat) : Int) := by simp
    rw [h1] at ht
    have h2 := Int.ofNat_inj.1 ht
    rw [← h2, Nat.div_lt_iff_lt_mul (Nat.pow_pos (by decide))]
    have h3 : 2 ^ 1 ≤ 2 ^ (11 + (-1085 - e)).toNat := Nat.pow_le_pow_right (by decide) (by omega)
    calc m < 9223372036854775808 * 2 ^ 1 := by omega
      _ ≤ _ := Nat.mul_le_mul (Nat.le_refl _) h3
  obtain ⟨mn, hmn⟩ : ∃ mn : Nat, (m : Int) - (r : Int) = mn := ⟨m - r, by omega⟩
  obtain ⟨mx, hmx⟩ : ∃ mx : Nat, (m : Int) + (r : Int) = mx := ⟨m + r, by omega⟩
  have hmx3 : mx < 18446744073709551616 := by omega
  have hmn3 : 2 ≤ mn := by omega
  clear hmz
  obtain ⟨od, hod, hod1⟩ := and_one_i64 t ht1
  have h63 : ((m : Int) == 9223372036854775808) = false := by simp; omega
  clear hne

  have hlp := hok
  obtain ⟨i, hi⟩ : ∃ i : Nat, p = (i : Int) - 348 := ⟨(p + 348).toNat, by omega⟩
  have hi696 : i < 696 := by omega
  obtain ⟨s, hs⟩ : ∃ s : Nat, -(e + p * 108853 / 32768 + 3) = (s : Int) := ⟨(-(e + p * 108853 / 32768 + 3)).toNat, by omega⟩
  have hs0 : 2 ≤ s := by omega
  have hs1 : s ≤ 60 := by omega
  have hp0 : -292 ≤ p := by omega
  have hp1 : p ≤ 324 := by omega
  obtain ⟨q0, q1, q2⟩ := p10_ok i hi696
  obtain ⟨un, hun, un0, un1, _⟩ := uscaleP_ok mn _ _ s (by omega) (by omega) q0 q1 q2 hs0 hs1
  obtain ⟨ux, hux, ux0, ux1, _⟩ := uscaleP_ok mx _ _ s (by omega) (by omega) q0 q1 q2 hs0 hs1
  obtain ⟨um, hum, um0, um1, um2⟩ := uscaleP_ok m _ _ s (by omega) (by omega) q0 q1 q2 hs0 hs1
  have um3 := um2 hm0
  clear um2
  have KN := Lib.hid fun (B : Nat) (w : World) (h : SclAt w B (p10 i).1 (p10 i).2 s) => hun ▸ uscale_calls mn (p10 i).1 (p10 i).2 s (by omega) q1 q2 (by omega) B w h.cells.1.1 h.cells.1.2.1 h.cells.1.2.2
  have KX := Lib.hid fun (B : Nat) (w : World) (h : SclAt w B (p10 i).1 (p10 i).2 s) => hux ▸ uscale_calls mx (p10 i).1 (p10 i).2 s (by omega) q1 q2 (by omega) B w h.cells.1.1 h.cells.1.2.1 h.cells.1.2.2
  have KM := Lib.hid fun (B : Nat) (w : World) (h : SclAt w B (p10 i).1 (p10 i).2 s) => hum ▸ uscale_calls m (p10 i).1 (p10 i).2 s (by omega) q1 q2 (by omega) B w h.cells.1.1 h.cells.1.2.1 h.cells.1.2.2
  have HI := Lib.hid hi
  have HS := Lib.hid hs
  clear hi hs hun hux hum hok hlp
  by_cases h1 : ((un : Int) + od + 3) / 4 ≤ ((ux : Int) + -od) / 4 / 10 * 10
  · refine ⟨(ux - od) / 4 / 10, -(p - 1), by omega, by omega, by omega, by omega, ?_⟩
    intro w hT
    have hT9 : 9 < w.heap.size := by
      have := (hT 0 (by decide)).1
      exact World.block_lt_of_cell? w _ this
    have hb0 : Below w.heap.size w (w.alloc (.cells #[.int .u64 0, .int .u64 0, .int .i64 0] 217)) := (Below.refl _ _).alloc (Nat.le_refl _) _
    have hT0 := hT.below hb0
    have hS0 : SclAt (w.alloc (.cells #[.int .u64 0, .int .u64 0, .int .i64 0] 217)) w.heap.size 0 0 0 := heap_alloc_new w _
    go_enter Tryz.func139, Tryz.ntmps139
    go_wp2_with (first
      | (go_at_call 124; refine (log10Pow2_calls _ (by omega) (by omega) _).mono ?_; rintro e w1 ⟨rfl, rfl⟩)
      | (go_at_call 154; refine (skewed_calls _ (by omega) (by omega) _).mono ?_; rintro e w1 ⟨rfl, rfl⟩)
      | (go_at_call 156; refine (log2Pow10_calls _ (by omega) (by omega) _).mono ?_; rintro e w1 ⟨rfl, rfl⟩)
      | (go_at_call 155; refine (prescale_calls _ _ _ i _ _ _ _ _ hi696 HI.out (by omega) (by omega) (by omega) (by omega) hT0 hS0 (by omega)).mono ?_; rintro e w2 ⟨rfl, hS, hb2⟩; rw [HS.out] at hS)
      | (go_at_call_of 157 (Value.int IntKind.u64 (mn : Int)); refine (KN.out _ _ ?_).mono ?_; exact hS; rintro e w3 ⟨rfl, n1, rfl⟩)
      | (go_at_call_of 157 (Value.int IntKind.u64 (mx : Int)); refine (KX.out _ _ ?_).mono ?_; exact hS; rintro e w3 ⟨rfl, n2, rfl⟩)
      | (go_at_call_of 157 (Value.int IntKind.u64 (m : Int)); refine (KM.out _ _ ?_).mono ?_; exact hS; rintro e w3 ⟨rfl, n3, rfl⟩)
      | (go_at_call 158; refine (nudge_calls _ _ (by omega) (by omega) (by omega) (by omega) _).mono ?_; rintro e w1 ⟨rfl, rfl⟩)
      | (go_at_call 159; refine (ceil_calls _ (by omega) (by omega) _).mono ?_; rintro e w1 ⟨rfl, rfl⟩)
      | (go_at_call 160; refine (floor_calls _ (by omega) (by omega) _).mono ?_; rintro e w1 ⟨rfl, rfl⟩)
      | (go_at_call 161; refine (round_calls um (by omega) _).mono ?_; rintro e w1 ⟨rfl, rfl⟩))
    go_ret2
    have hd : ((ux : Int) + -od) / 4 / 10 = (((ux - od) / 4 / 10 : Nat) : Int) := by omega
    refine ⟨?_, ?_⟩
    · show Ending.returned (Value.tuple #[Value.int .u64 (((ux : Int) + -od) / 4 / 10), Value.int .i64 (-(p - 1))]) = _
      rw [hd]
    · have hb3 := hb0.trans hb2
      exact below_drewN hb3 _
  by_cases h2 : ((un : Int) + od + 3) / 4 < ((ux : Int) + -od) / 4
  · refine ⟨(um + 1 + um / 4 % 2) / 4, -p, by omega, by omega, by omega, by omega, ?_⟩
    intro w hT
    have hT9 : 9 < w.heap.size := by
      have := (hT 0 (by decide)).1
      exact World.block_lt_of_cell? w _ this
    have hb0 : Below w.heap.size w (w.alloc (.cells #[.int .u64 0, .int .u64 0, .int .i64 0] 217)) := (Below.refl _ _).alloc (Nat.le_refl _) _
    have hT0 := hT.below hb0
    have hS0 : SclAt (w.alloc (.cells #[.int .u64 0, .int .u64 0, .int .i64 0] 217)) w.heap.size 0 0 0 := heap_alloc_new w _
    go_enter Tryz.func139, Tryz.ntmps139
    go_wp2_with (first
      | (go_at_call 124; refine (log10Pow2_calls _ (by omega) (by omega) _).mono ?_; rintro e w1 ⟨rfl, rfl⟩)
      | (go_at_call 154; refine (skewed_calls _ (by omega) (by omega) _).mono ?_; rintro e w1 ⟨rfl, rfl⟩)
      | (go_at_call 156; refine (log2Pow10_calls _ (by omega) (by omega) _).mono ?_; rintro e w1 ⟨rfl, rfl⟩)
      | (go_at_call 155; refine (prescale_calls _ _ _ i _ _ _ _ _ hi696 HI.out (by omega) (by omega) (by omega) (by omega) hT0 hS0 (by omega)).mono ?_; rintro e w2 ⟨rfl, hS, hb2⟩; rw [HS.out] at hS)
      | (go_at_call_of 157 (Value.int IntKind.u64 (mn : Int)); refine (KN.out _ _ ?_).mono ?_; exact hS; rintro e w3 ⟨rfl, n1, rfl⟩)
      | (go_at_call_of 157 (Value.int IntKind.u64 (mx : Int)); refine (KX.out _ _ ?_).mono ?_; exact hS; rintro e w3 ⟨rfl, n2, rfl⟩)
      | (go_at_call_of 157 (Value.int IntKind.u64 (m : Int)); refine (KM.out _ _ ?_).mono ?_; exact hS; rintro e w3 ⟨rfl, n3, rfl⟩)
      | (go_at_call 158; refine (nudge_calls _ _ (by omega) (by omega) (by omega) (by omega) _).mono ?_; rintro e w1 ⟨rfl, rfl⟩)
      | (go_at_call 159; refine (ceil_calls _ (by omega) (by omega) _).mono ?_; rintro e w1 ⟨rfl, rfl⟩)
      | (go_at_call 160; refine (floor_calls _ (by omega) (by omega) _).mono ?_; rintro e w1 ⟨rfl, rfl⟩)
      | (go_at_call 161; refine (round_calls um (by omega) _).mono ?_; rintro e w1 ⟨rfl, rfl⟩))
    go_ret2
    refine ⟨rfl, ?_⟩
    have hb3 := hb0.trans hb2
    exact below_drewN hb3 _
  · refine ⟨(un + od + 3) / 4, -p, by omega, by omega, by omega, by omega, ?_⟩
    intro w hT
    have hT9 : 9 < w.heap.size := by
      have := (hT 0 (by decide)).1
      exact World.block_lt_of_cell? w _ this
    have hb0 : Below w.heap.size w (w.alloc (.cells #[.int .u64 0, .int .u64 0, .int .i64 0] 217)) := (Below.refl _ _).alloc (Nat.le_refl _) _
    have hT0 := hT.below hb0
    have hS0 : SclAt (w.alloc (.cells #[.int .u64 0, .int .u64 0, .int .i64 0] 217)) w.heap.size 0 0 0 := heap_alloc_new w _
    go_enter Tryz.func139, Tryz.ntmps139
    go_wp2_with (first
      | (go_at_call 124; refine (log10Pow2_calls _ (by omega) (by omega) _).mono ?_; rintro e w1 ⟨rfl, rfl⟩)
      | (go_at_call 154; refine (skewed_calls _ (by omega) (by omega) _).mono ?_; rintro e w1 ⟨rfl, rfl⟩)
      | (go_at_call 156; refine (log2Pow10_calls _ (by omega) (by omega) _).mono ?_; rintro e w1 ⟨rfl, rfl⟩)
      | (go_at_call 155; refine (prescale_calls _ _ _ i _ _ _ _ _ hi696 HI.out (by omega) (by omega) (by omega) (by omega) hT0 hS0 (by omega)).mono ?_; rintro e w2 ⟨rfl, hS, hb2⟩; rw [HS.out] at hS)
      | (go_at_call_of 157 (Value.int IntKind.u64 (mn : Int)); refine (KN.out _ _ ?_).mono ?_; exact hS; rintro e w3 ⟨rfl, n1, rfl⟩)
      | (go_at_call_of 157 (Value.int IntKind.u64 (mx : Int)); refine (KX.out _ _ ?_).mono ?_; exact hS; rintro e w3 ⟨rfl, n2, rfl⟩)
      | (go_at_call_of 157 (Value.int IntKind.u64 (m : Int)); refine (KM.out _ _ ?_).mono ?_; exact hS; rintro e w3 ⟨rfl, n3, rfl⟩)
      | (go_at_call 158; refine (nudge_calls _ _ (by omega) (by omega) (by omega) (by omega) _).mono ?_; rintro e w1 ⟨rfl, rfl⟩)
      | (go_at_call 159; refine (ceil_calls _ (by omega) (by omega) _).mono ?_; rintro e w1 ⟨rfl, rfl⟩)
      | (go_at_call 160; refine (floor_calls _ (by omega) (by omega) _).mono ?_; rintro e w1 ⟨rfl, rfl⟩)
      | (go_at_call 161; refine (round_calls um (by omega) _).mono ?_; rintro e w1 ⟨rfl, rfl⟩))
    go_ret2
    have hd : ((un : Int) + od + 3) / 4 = (((un + od + 3) / 4 : Nat) : Int) := by omega
    refine ⟨?_, ?_⟩
    · show Ending.returned (Value.tuple #[Value.int .u64 (((un : Int) + od + 3) / 4), Value.int .i64 (-p)]) = _
      rw [hd]
    · have hb3 := hb0.trans hb2
      exact below_drewN hb3 _
set_option maxRecDepth 100000 in
set_option maxHeartbeats 6400000 in
theorem short_d (m : Nat) (e : Int) (hm0 : 9223372036854775808 ≤ m) (hm1 : m ≤ 18446744073709549568) (he0 : -1137 ≤ e) (he1 : e < -1085) (hmz : (m : Int) + 2 ^ ((11 + (-1085 - e)).toNat - 1) < 18446744073709551616) (hne : m = 9223372036854775808) : ShortOk m e := by
  have hg : decide (e > -1085) = false := by simp; omega
  have hg2 : decide (e ≥ -1085) = false := by simp; omega
  have hp : -((e + (11 + (-1085 - e))) * 78913 / 262144) = (324 : Int) := by
    rw [show e + (11 + (-1085 - e)) = -1074 by omega]; decide
  obtain ⟨p, hp324⟩ : ∃ p : Int, (324 : Int) = p := ⟨_, rfl⟩
  rw [hp324] at hp
  have hok := shifts_c e he0 he1
  rw [hp324] at hok
  clear hp324
  simp only [shiftOk, Bool.and_eq_true, decide_eq_true_eq] at hok
  obtain ⟨r, hr⟩ : ∃ r : Nat, (2 : Int) ^ ((11 + (-1085 - e)).toNat - 1) = r := ⟨2 ^ ((11 + (-1085 - e)).toNat - 1), by simp⟩
  have hr1 : 2048 ≤ r ∧ r ≤ 4611686018427387904 := by
    have h1 : (2 : Int) ^ ((11 + (-1085 - e)).toNat - 1) = ((2 ^ ((11 + (-1085 - e)).toNat - 1) : Nat) : Int) := by simp
    rw [h1] at hr
    have h2 : 2 ^ ((11 + (-1085 - e)).toNat - 1) = r := Int.ofNat_inj.1 hr
    rw [← h2]
    have h3 : 2 ^ 11 ≤ 2 ^ ((11 + (-1085 - e)).toNat - 1) := Nat.pow_le_pow_right (by decide) (by omega)
    have h4 : 2 ^ ((11 + (-1085 - e)).toNat - 1) ≤ 2 ^ 62 := Nat.pow_le_pow_right (by decide) (by omega)
    exact ⟨h3, h4⟩
  rw [hr] at hmz
  obtain ⟨t, ht⟩ : ∃ t : Nat, (m : Int) / 2 ^ (11 + (-1085 - e)).toNat = t := ⟨m / 2 ^ (11 + (-1085 - e)).toNat, by simp⟩
  have ht1 : t < 9223372036854775808 := by
    have h1 : (m : Int) / 2 ^ (11 + (-1085 - e)).toNat = ((m / 2 ^ (11 + (-1085 - e)).toNat : Nat) : Int) := by simp
    rw [h1] at ht
    have h2 := Int.ofNat_inj.1 ht
    rw [← h2, Nat.div_lt_iff_lt_mul (Nat.pow_pos (by decide))]
    have h3 : 2 ^ 1 ≤ 2 ^ (11 + (-1085 - e)).toNat := Nat.pow_le_pow_right (by decide) (by omega)
    calc m < 9223372036854775808 * 2 ^ 1 := by omega
      _ ≤ _ := Nat.mul_le_mul (Nat.le_refl _) h3
  obtain ⟨mn, hmn⟩ : ∃ mn : Nat, (m : Int) - (r : Int) = mn := ⟨m - r, by omega⟩
  obtain ⟨mx, hmx⟩ : ∃ mx : Nat, (m : Int) + (r : Int) = mx := ⟨m + r, by omega⟩
  have hmx3 : mx < 18446744073709551616 := by omega
  have hmn3 : 2 ≤ mn := by omega
  clear hmz
  obtain ⟨od, hod, hod1⟩ := and_one_i64 t ht1
  have h63 : ((m : Int) == 9223372036854775808) = true := by simp [hne]
  clear hne

  have hlp := hok
  obtain ⟨i, hi⟩ : ∃ i : Nat, p = (i : Int) - 348 := ⟨(p + 348).toNat, by omega⟩
  have hi696 : i < 696 := by omega
  obtain ⟨s, hs⟩ : ∃ s : Nat, -(e + p * 108853 / 32768 + 3) = (s : Int) := ⟨(-(e + p * 108853 / 32768 + 3)).toNat, by omega⟩
  have hs0 : 2 ≤ s := by omega
  have hs1 : s ≤ 60 := by omega
  have hp0 : -292 ≤ p := by omega
  have hp1 : p ≤ 324 := by omega
  obtain ⟨q0, q1, q2⟩ := p10_ok i hi696
  obtain ⟨un, hun, un0, un1, _⟩ := uscaleP_ok mn _ _ s (by omega) (by omega) q0 q1 q2 hs0 hs1
  obtain ⟨ux, hux, ux0, ux1, _⟩ := uscaleP_ok mx _ _ s (by omega) (by omega) q0 q1 q2 hs0 hs1
  obtain ⟨um, hum, um0, um1, um2⟩ := uscaleP_ok m _ _ s (by omega) (by omega) q0 q1 q2 hs0 hs1
  have um3 := um2 hm0
  clear um2
  have KN := Lib.hid fun (B : Nat) (w : World) (h : SclAt w B (p10 i).1 (p10 i).2 s) => hun ▸ uscale_calls mn (p10 i).1 (p10 i).2 s (by omega) q1 q2 (by omega) B w h.cells.1.1 h.cells.1.2.1 h.cells.1.2.2
  have KX := Lib.hid fun (B : Nat) (w : World) (h : SclAt w B (p10 i).1 (p10 i).2 s) => hux ▸ uscale_calls mx (p10 i).1 (p10 i).2 s (by omega) q1 q2 (by omega) B w h.cells.1.1 h.cells.1.2.1 h.cells.1.2.2
  have KM := Lib.hid fun (B : Nat) (w : World) (h : SclAt w B (p10 i).1 (p10 i).2 s) => hum ▸ uscale_calls m (p10 i).1 (p10 i).2 s (by omega) q1 q2 (by omega) B w h.cells.1.1 h.cells.1.2.1 h.cells.1.2.2
  have HI := Lib.hid hi
  have HS := Lib.hid hs
  clear hi hs hun hux hum hok hlp
  by_cases h1 : ((un : Int) + od + 3) / 4 ≤ ((ux : Int) + -od) / 4 / 10 * 10
  · refine ⟨(ux - od) / 4 / 10, -(p - 1), by omega, by omega, by omega, by omega, ?_⟩
    intro w hT
    have hT9 : 9 < w.heap.size := by
      have := (hT 0 (by decide)).1
      exact World.block_lt_of_cell? w _ this
    have hb0 : Below w.heap.size w (w.alloc (.cells #[.int .u64 0, .int .u64 0, .int .i64 0] 217)) := (Below.refl _ _).alloc (Nat.le_refl _) _
    have hT0 := hT.below hb0
    have hS0 : SclAt (w.alloc (.cells #[.int .u64 0, .int .u64 0, .int .i64 0] 217)) w.heap.size 0 0 0 := heap_alloc_new w _
    go_enter Tryz.func139, Tryz.ntmps139
    go_wp2_with (first
      | (go_at_call 124; refine (log10Pow2_calls _ (by omega) (by omega) _).mono ?_; rintro e w1 ⟨rfl, rfl⟩)
      | (go_at_call 154; refine (skewed_calls _ (by omega) (by omega) _).mono ?_; rintro e w1 ⟨rfl, rfl⟩)
      | (go_at_call 156; refine (log2Pow10_calls _ (by omega) (by omega) _).mono ?_; rintro e w1 ⟨rfl, rfl⟩)
      | (go_at_call 155; refine (prescale_calls _ _ _ i _ _ _ _ _ hi696 HI.out (by omega) (by omega) (by omega) (by omega) hT0 hS0 (by omega)).mono ?_; rintro e w2 ⟨rfl, hS, hb2⟩; rw [HS.out] at hS)
      | (go_at_call_of 157 (Value.int IntKind.u64 (mn : Int)); refine (KN.out _ _ ?_).mono ?_; exact hS; rintro e w3 ⟨rfl, n1, rfl⟩)
      | (go_at_call_of 157 (Value.int IntKind.u64 (mx : Int)); refine (KX.out _ _ ?_).mono ?_; exact hS; rintro e w3 ⟨rfl, n2, rfl⟩)
      | (go_at_call_of 157 (Value.int IntKind.u64 (m : Int)); refine (KM.out _ _ ?_).mono ?_; exact hS; rintro e w3 ⟨rfl, n3, rfl⟩)
      | (go_at_call 158; refine (nudge_calls _ _ (by omega) (by omega) (by omega) (by omega) _).mono ?_; rintro e w1 ⟨rfl, rfl⟩)
      | (go_at_call 159; refine (ceil_calls _ (by omega) (by omega) _).mono ?_; rintro e w1 ⟨rfl, rfl⟩)
      | (go_at_call 160; refine (floor_calls _ (by omega) (by omega) _).mono ?_; rintro e w1 ⟨rfl, rfl⟩)
      | (go_at_call 161; refine (round_calls um (by omega) _).mono ?_; rintro e w1 ⟨rfl, rfl⟩))
    go_ret2
    have hd : ((ux : Int) + -od) / 4 / 10 = (((ux - od) / 4 / 10 : Nat) : Int) := by omega
    refine ⟨?_, ?_⟩
    · show Ending.returned (Value.tuple #[Value.int .u64 (((ux : Int) + -od) / 4 / 10), Value.int .i64 (-(p - 1))]) = _
      rw [hd]
    · have hb3 := hb0.trans hb2
      exact below_drewN hb3 _
  by_cases h2 : ((un : Int) + od + 3) / 4 < ((ux : Int) + -od) / 4
  · refine ⟨(um + 1 + um / 4 % 2) / 4, -p, by omega, by omega, by omega, by omega, ?_⟩
    intro w hT
    have hT9 : 9 < w.heap.size := by
      have := (hT 0 (by decide)).1
      exact World.block_lt_of_cell? w _ this
    have hb0 : Below w.heap.size w (w.alloc (.cells #[.int .u64 0, .int .u64 0, .int .i64 0] 217)) := (Below.refl _ _).alloc (Nat.le_refl _) _
    have hT0 := hT.below hb0
    have hS0 : SclAt (w.alloc (.cells #[.int .u64 0, .int .u64 0, .int .i64 0] 217)) w.heap.size 0 0 0 := heap_alloc_new w _
    go_enter Tryz.func139, Tryz.ntmps139
    go_wp2_with (first
      | (go_at_call 124; refine (log10Pow2_calls _ (by omega) (by omega) _).mono ?_; rintro e w1 ⟨rfl, rfl⟩)
      | (go_at_call 154; refine (skewed_calls _ (by omega) (by omega) _).mono ?_; rintro e w1 ⟨rfl, rfl⟩)
      | (go_at_call 156; refine (log2Pow10_calls _ (by omega) (by omega) _).mono ?_; rintro e w1 ⟨rfl, rfl⟩)
      | (go_at_call 155; refine (prescale_calls _ _ _ i _ _ _ _ _ hi696 HI.out (by omega) (by omega) (by omega) (by omega) hT0 hS0 (by omega)).mono ?_; rintro e w2 ⟨rfl, hS, hb2⟩; rw [HS.out] at hS)
      | (go_at_call_of 157 (Value.int IntKind.u64 (mn : Int)); refine (KN.out _ _ ?_).mono ?_; exact hS; rintro e w3 ⟨rfl, n1, rfl⟩)
      | (go_at_call_of 157 (Value.int IntKind.u64 (mx : Int)); refine (KX.out _ _ ?_).mono ?_; exact hS; rintro e w3 ⟨rfl, n2, rfl⟩)
      | (go_at_call_of 157 (Value.int IntKind.u64 (m : Int)); refine (KM.out _ _ ?_).mono ?_; exact hS; rintro e w3 ⟨rfl, n3, rfl⟩)
      | (go_at_call 158; refine (nudge_calls _ _ (by omega) (by omega) (by omega) (by omega) _).mono ?_; rintro e w1 ⟨rfl, rfl⟩)
      | (go_at_call 159; refine (ceil_calls _ (by omega) (by omega) _).mono ?_; rintro e w1 ⟨rfl, rfl⟩)
      | (go_at_call 160; refine (floor_calls _ (by omega) (by omega) _).mono ?_; rintro e w1 ⟨rfl, rfl⟩)
      | (go_at_call 161; refine (round_calls um (by omega) _).mono ?_; rintro e w1 ⟨rfl, rfl⟩))
    go_ret2
    refine ⟨rfl, ?_⟩
    have hb3 := hb0.trans hb2
    exact below_drewN hb3 _
  · refine ⟨(un + od + 3) / 4, -p, by omega, by omega, by omega, by omega, ?_⟩
    intro w hT
    have hT9 : 9 < w.heap.size := by
      have := (hT 0 (by decide)).1
      exact World.block_lt_of_cell? w _ this
    have hb0 : Below w.heap.size w (w.alloc (.cells #[.int .u64 0, .int .u64 0, .int .i64 0] 217)) := (Below.refl _ _).alloc (Nat.le_refl _) _
    have hT0 := hT.below hb0
    have hS0 : SclAt (w.alloc (.cells #[.int .u64 0, .int .u64 0, .int .i64 0] 217)) w.heap.size 0 0 0 := heap_alloc_new w _
    go_enter Tryz.func139, Tryz.ntmps139
    go_wp2_with (first
      | (go_at_call 124; refine (log10Pow2_calls _ (by omega) (by omega) _).mono ?_; rintro e w1 ⟨rfl, rfl⟩)
      | (go_at_call 154; refine (skewed_calls _ (by omega) (by omega) _).mono ?_; rintro e w1 ⟨rfl, rfl⟩)
      | (go_at_call 156; refine (log2Pow10_calls _ (by omega) (by omega) _).mono ?_; rintro e w1 ⟨rfl, rfl⟩)
      | (go_at_call 155; refine (prescale_calls _ _ _ i _ _ _ _ _ hi696 HI.out (by omega) (by omega) (by omega) (by omega) hT0 hS0 (by omega)).mono ?_; rintro e w2 ⟨rfl, hS, hb2⟩; rw [HS.out] at hS)
      | (go_at_call_of 157 (Value.int IntKind.u64 (mn : Int)); refine (KN.out _ _ ?_).mono ?_; exact hS; rintro e w3 ⟨rfl, n1, rfl⟩)
      | (go_at_call_of 157 (Value.int IntKind.u64 (mx : Int)); refine (KX.out _ _ ?_).mono ?_; exact hS; rintro e w3 ⟨rfl, n2, rfl⟩)
      | (go_at_call_of 157 (Value.int IntKind.u64 (m : Int)); refine (KM.out _ _ ?_).mono ?_; exact hS; rintro e w3 ⟨rfl, n3, rfl⟩)
      | (go_at_call 158; refine (nudge_calls _ _ (by omega) (by omega) (by omega) (by omega) _).mono ?_; rintro e w1 ⟨rfl, rfl⟩)
      | (go_at_call 159; refine (ceil_calls _ (by omega) (by omega) _).mono ?_; rintro e w1 ⟨rfl, rfl⟩)
      | (go_at_call 160; refine (floor_calls _ (by omega) (by omega) _).mono ?_; rintro e w1 ⟨rfl, rfl⟩)
      | (go_at_call 161; refine (round_calls um (by omega) _).mono ?_; rintro e w1 ⟨rfl, rfl⟩))
    go_ret2
    have hd : ((un : Int) + od + 3) / 4 = (((un + od + 3) / 4 : Nat) : Int) := by omega
    refine ⟨?_, ?_⟩
    · show Ending.returned (Value.tuple #[Value.int .u64 (((un : Int) + od + 3) / 4), Value.int .i64 (-p)]) = _
      rw [hd]
    · have hb3 := hb0.trans hb2
      exact below_drewN hb3 _
/-- Every finite float that is not zero. -/
theorem shortOk (m : Nat) (e : Int) (hm0 : 9223372036854775808 ≤ m) (hm1 : m ≤ 18446744073709549568) (he0 : -1137 ≤ e) (he1 : e ≤ 960) (hmz : e < -1085 → (m : Int) + 2 ^ ((11 + (-1085 - e)).toNat - 1) < 18446744073709551616) : ShortOk m e := by
  by_cases h1 : e < -1085
  · by_cases h2 : m = 9223372036854775808
    · exact short_d m e hm0 hm1 he0 h1 (hmz h1) h2
    · exact short_c m e hm0 hm1 he0 h1 (hmz h1) h2
  · by_cases h2 : m = 9223372036854775808
    · by_cases h3 : e = -1085
      · exact short_x m e hm0 hm1 h3 h2
      · exact short_a m e hm0 hm1 (by omega) he1 h2
    · exact short_b m e hm0 hm1 (by omega) he1 h2
end Go.Proofs.YtjbpphomlmlmaaaGreatDoor
