/- What the reference writes of a value: numbers and texts. -/
import Derived.Test.YtjbpphomlmlmaaaGreatDoorQH
namespace Go.Proofs.YtjbpphomlmlmaaaGreatDoor
open Go.RowKit
set_option linter.unusedVariables false
set_option linter.unusedSimpArgs false
def WrR (F H : Nat → List UInt8) (v : V) (w : World) (e : Ending) (w' : World) : Prop := e = .returned (.tuple #[.string (bs (writ F H v)), .bool (tells v)]) ∧ Below w.heap.size w w'
def WrOk (F H : Nat → List UInt8) (v : V) : Prop := ∀ (S : Nat → Prop) (x : Value) (w : World), Base2 w → Rep S w v x → Calls Tryz.prog 21 #[x] w (WrR F H v w)
set_option maxRecDepth 100000 in
set_option maxHeartbeats 6400000 in
theorem wr_bool (n : Int) (s : ByteArray) (c3 : Value) (hn : n = 0 ∨ n = 1) (w : World) : Calls Tryz.prog 21 #[.agg #[.int .u8 98, .int .u64 n, .string s, c3]] w fun e w' => e = .returned (.tuple #[.string (bs (Lib.formatBool (n != 0))), .bool true]) ∧ Below w.heap.size w w' := by
  rcases hn with rfl | rfl
  · go_enter Tryz.func21, Tryz.ntmps21
    go_wp2_with fail
    go_ret2
    exact ⟨rfl, (Below.refl _ _).alloc (Nat.le_refl _) _⟩
  · go_enter Tryz.func21, Tryz.ntmps21
    go_wp2_with fail
    go_ret2
    exact ⟨rfl, (Below.refl _ _).alloc (Nat.le_refl _) _⟩
set_option maxRecDepth 100000 in
set_option maxHeartbeats 6400000 in
theorem wr_byte (n : Int) (s : ByteArray) (c3 : Value) (l : List UInt8) (hl : l.length ≤ 2) (w : World) (h : ∀ w', Below w.heap.size w w' → Calls Tryz.prog 32 #[.int .u64 n, .int .i64 16] w' fun e w'' => e = .returned (.string ⟨l.toArray⟩) ∧ Below w'.heap.size w' w'') :
    Calls Tryz.prog 21 #[.agg #[.int .u8 121, .int .u64 n, .string s, c3]] w fun e w' => e = .returned (.tuple #[.string (bs (48 :: 120 :: l)), .bool false]) ∧ Below w.heap.size w w' := by
  have hw : ∀ o, Below w.heap.size w (w.alloc o) := fun o => (Below.refl w.heap.size w).alloc (Nat.le_refl _) o
  have h2 := fun o => h _ (hw o)
  clear h
  have hx1 : ¬9223372036854775807 < 2 + l.length := by omega
  go_enter Tryz.func21, Tryz.ntmps21
  go_wp2_with fail
  refine (h2 _).mono ?_
  rintro _ w1 ⟨rfl, hb1⟩
  go_wp2_with fail
  go_ret2
  exact ⟨rfl, (hw _).trans (hb1.mono (hw _).size)⟩
set_option maxRecDepth 100000 in
set_option maxHeartbeats 6400000 in
theorem wr_uint (k n : Int) (hk : k = 113 ∨ k = 117 ∨ k = 116 ∨ k = 104) (s : ByteArray) (c3 : Value) (l : List UInt8) (w : World) (h : ∀ w', Below w.heap.size w w' → Calls Tryz.prog 32 #[.int .u64 n, .int .i64 10] w' fun e w'' => e = .returned (.string ⟨l.toArray⟩) ∧ Below w'.heap.size w' w'') :
    Calls Tryz.prog 21 #[.agg #[.int .u8 k, .int .u64 n, .string s, c3]] w fun e w' => e = .returned (.tuple #[.string (bs l), .bool false]) ∧ Below w.heap.size w w' := by
  have hw : ∀ o, Below w.heap.size w (w.alloc o) := fun o => (Below.refl w.heap.size w).alloc (Nat.le_refl _) o
  have h2 := fun o => h _ (hw o)
  clear h
  rcases hk with rfl | rfl | rfl | rfl
  all_goals
    go_enter Tryz.func21, Tryz.ntmps21
    go_wp2_with fail
    refine (h2 _).mono ?_
    rintro _ w1 ⟨rfl, hb1⟩
    go_wp2_with fail
    go_ret2
    exact ⟨rfl, (hw _).trans (hb1.mono (hw _).size)⟩
set_option maxRecDepth 100000 in
set_option maxHeartbeats 6400000 in
theorem wr_float (n : Int) (s : ByteArray) (c3 : Value) (l : List UInt8) (w : World) (h : ∀ w', Below w.heap.size w w' → Calls Tryz.prog 34 #[.float .f64 n.toNat, .int .u8 103, .int .i64 (-1), .int .i64 64] w' fun e w'' => e = .returned (.string ⟨l.toArray⟩) ∧ Below w'.heap.size w' w'') :
    Calls Tryz.prog 21 #[.agg #[.int .u8 100, .int .u64 n, .string s, c3]] w fun e w' => e = .returned (.tuple #[.string (bs l), .bool false]) ∧ Below w.heap.size w w' := by
  have hw : ∀ o, Below w.heap.size w (w.alloc o) := fun o => (Below.refl w.heap.size w).alloc (Nat.le_refl _) o
  have h2 := fun o => h _ (hw o)
  clear h
  go_enter Tryz.func21, Tryz.ntmps21
  go_wp2_with fail
  refine (h2 _).mono ?_
  rintro _ w1 ⟨rfl, hb1⟩
  go_wp2_with fail
  go_ret2
  exact ⟨rfl, (hw _).trans (hb1.mono (hw _).size)⟩
set_option maxRecDepth 100000 in
set_option maxHeartbeats 6400000 in
theorem wr_int (k n : Int) (hk : k = 110 ∨ k = 105 ∨ k = 120) (a : Int) (ha : IntKind.i64.wrap n = a) (s : ByteArray) (c3 : Value) (l : List UInt8) (w : World) (h : ∀ w', Below w.heap.size w w' → Calls Tryz.prog 33 #[.int .i64 a, .int .i64 10] w' fun e w'' => e = .returned (.string ⟨l.toArray⟩) ∧ Below w'.heap.size w' w'') :
    Calls Tryz.prog 21 #[.agg #[.int .u8 k, .int .u64 n, .string s, c3]] w fun e w' => e = .returned (.tuple #[.string (bs l), .bool (k == 105)]) ∧ Below w.heap.size w w' := by
  have hB0 : Below w.heap.size w (w.alloc (.cells #[.int .u8 k, .int .u64 n, .string s, c3] 25)) := (Below.refl w.heap.size w).alloc (Nat.le_refl _) _
  have hBd := hB0.drew
  have hI := h
  clear h
  have hH0 := heap_alloc_new w (.cells #[.int .u8 k, .int .u64 n, .string s, c3] 25)
  have hS0 : w.heap.size < (w.alloc (.cells #[.int .u8 k, .int .u64 n, .string s, c3] 25)).heap.size := by simp
  obtain ⟨p0, p1, p2, p3⟩ := four_cells hH0
  rcases hk with rfl | rfl | rfl
  all_goals
    go_enter Tryz.func21, Tryz.ntmps21
    go_wp2_with fail
    generalize hbk : w.heap.size = b at p0 p1 p2 p3 hH0 hS0 ⊢
    refine wp_region_noPanic ?_
    refine wp_region_held_drew (S := fun w' => w'.cell? ⟨b, 0, none⟩ = some (.int .u8 _) ∧ w'.cell? ⟨b, 1, none⟩ = some (.int .u64 n) ∧ w'.cell? ⟨b, 2, none⟩ = some (.string s) ∧ w'.cell? ⟨b, 3, none⟩ = some c3) (by kernel_rfl) ⟨p0, p1, p2, p3⟩ (fun hHeld => ?_)
    refine wpAnyH_take (i := 0) (oi := _) (v := ?_) rfl (by kernel_rfl) (by kernel_rfl) (by kernel_rfl) (fun _ _ _ h => h) (Or.inl ⟨by rfl, ?_⟩) (by assumption) ?_
    rotate_left
    · intro w hSw
      (try dsimp only at hSw)
      go_simp
      all_goals (with_reducible rfl)
    try simp only [Act.put, List.getElem_toArray, List.getElem_cons_succ, List.getElem_cons_zero, List.setIfInBounds_toArray, List.set_cons_zero, List.set_cons_succ]
    refine wpAnyH_take (i := 1) (oi := _) (v := ?_) rfl (by kernel_rfl) (by kernel_rfl) (by kernel_rfl) (fun _ _ _ h => h) (Or.inl ⟨by rfl, ?_⟩) (by assumption) ?_
    rotate_left
    · intro w hSw
      (try dsimp only at hSw)
      go_simp
      all_goals (with_reducible rfl)
    try simp only [Act.put, List.getElem_toArray, List.getElem_cons_succ, List.getElem_cons_zero, List.setIfInBounds_toArray, List.set_cons_zero, List.set_cons_succ]
    refine wpAnyH_take (i := 2) (oi := _) (v := ?_) rfl (by kernel_rfl) (by kernel_rfl) (by kernel_rfl) (fun _ _ _ h => h) (Or.inl ⟨by rfl, ?_⟩) (by assumption) ?_
    rotate_left
    · intro w hSw
      (try dsimp only at hSw)
      go_simp
      all_goals (with_reducible rfl)
    try simp only [Act.put, List.getElem_toArray, List.getElem_cons_succ, List.getElem_cons_zero, List.setIfInBounds_toArray, List.set_cons_zero, List.set_cons_succ]
    refine wpAnyH_take (i := 4) (oi := _) (v := ?_) rfl (by kernel_rfl) (by kernel_rfl) (by kernel_rfl) (fun _ _ _ h => h) (Or.inl ⟨by rfl, ?_⟩) (by assumption) ?_
    rotate_left
    · intro w hSw
      (try dsimp only at hSw)
      go_simp
      all_goals (with_reducible rfl)
    try simp only [Act.put, List.getElem_toArray, List.getElem_cons_succ, List.getElem_cons_zero, List.setIfInBounds_toArray, List.set_cons_zero, List.set_cons_succ]
    refine wpAnyH_take (i := 5) (oi := _) (v := ?_) rfl (by kernel_rfl) (by kernel_rfl) (by kernel_rfl) (fun _ _ _ h => h) (Or.inl ⟨by rfl, ?_⟩) (by assumption) ?_
    rotate_left
    · intro w hSw
      (try dsimp only at hSw)
      go_simp
      all_goals (with_reducible rfl)
    try simp only [Act.put, List.getElem_toArray, List.getElem_cons_succ, List.getElem_cons_zero, List.setIfInBounds_toArray, List.set_cons_zero, List.set_cons_succ]
    refine wpAnyH_take (i := 6) (oi := _) (v := ?_) rfl (by kernel_rfl) (by kernel_rfl) (by kernel_rfl) (fun _ _ _ h => h) (Or.inl ⟨by rfl, ?_⟩) (by assumption) ?_
    rotate_left
    · intro w hSw
      (try dsimp only at hSw)
      go_simp
      all_goals (with_reducible rfl)
    try simp only [Act.put, List.getElem_toArray, List.getElem_cons_succ, List.getElem_cons_zero, List.setIfInBounds_toArray, List.set_cons_zero, List.set_cons_succ]
    refine wpAnyH_ready (rs := [3]) (by kernel_rfl) (by simp) ?_
    refine AllReadyH.cons (o := _) rfl (fun K hK => ?_) AllReadyH.nil
    go_simp
    refine (hI _ hBd).mono ?_; rintro _ w2 ⟨rfl, hb2⟩; have hH2 := (hb2.block _ hS0).trans hH0; obtain ⟨q0, q1, q2, q3⟩ := four_cells hH2
    refine hK.out _ _ ⟨q0, q1, q2, q3⟩ (fun hHeld => ?_)
    clear hK K
    try simp only [Act.put, List.getElem_toArray, List.getElem_cons_succ, List.getElem_cons_zero, List.setIfInBounds_toArray, List.set_cons_zero, List.set_cons_succ]
    refine wpAnyH_take (i := 7) (oi := _) (v := ?_) rfl (by kernel_rfl) (by kernel_rfl) (by kernel_rfl) (fun _ _ _ h => h) (Or.inl ⟨by rfl, ?_⟩) (by assumption) ?_
    rotate_left
    · intro w hSw
      (try dsimp only at hSw)
      go_simp
      all_goals (with_reducible rfl)
    try simp only [Act.put, List.getElem_toArray, List.getElem_cons_succ, List.getElem_cons_zero, List.setIfInBounds_toArray, List.set_cons_zero, List.set_cons_succ]
    refine wpAnyH_take (i := 8) (oi := _) (v := ?_) rfl (by kernel_rfl) (by kernel_rfl) (by kernel_rfl) (fun _ _ _ h => h) (Or.inl ⟨by rfl, ?_⟩) (by assumption) ?_
    rotate_left
    · intro w hSw
      (try dsimp only at hSw)
      go_simp
      all_goals (with_reducible rfl)
    try simp only [Act.put, List.getElem_toArray, List.getElem_cons_succ, List.getElem_cons_zero, List.setIfInBounds_toArray, List.set_cons_zero, List.set_cons_succ]
    refine wpAnyH_done (by kernel_rfl) ?_ _
    refine NoPanic.normal ?_
    go_wp2_with fail
    go_ret2
    exact ⟨rfl, hbk ▸ hBd.trans (hb2.mono hBd.size)⟩
set_option maxRecDepth 100000 in
set_option maxHeartbeats 6400000 in
theorem wr_text (k n : Int) (hk : k = 115 ∨ k = 111 ∨ k = 103) (s : ByteArray) (c3 : Value) (l : List UInt8) (w : World) (hq : ∀ w', Below w.heap.size w w' → Calls Tryz.prog 35 #[.string s] w' fun e w'' => e = .returned (.string ⟨l.toArray⟩) ∧ Below w'.heap.size w' w'') :
    Calls Tryz.prog 21 #[.agg #[.int .u8 k, .int .u64 n, .string s, c3]] w fun e w' => e = .returned (.tuple #[.string (bs l), .bool (k == 115)]) ∧ Below w.heap.size w w' := by
  have hB0 : Below w.heap.size w (w.alloc (.cells #[.int .u8 k, .int .u64 n, .string s, c3] 25)) := (Below.refl w.heap.size w).alloc (Nat.le_refl _) _
  have hBd := hB0.drew
  have hH0 := heap_alloc_new w (.cells #[.int .u8 k, .int .u64 n, .string s, c3] 25)
  have hS0 : w.heap.size < (w.alloc (.cells #[.int .u8 k, .int .u64 n, .string s, c3] 25)).heap.size := by simp
  obtain ⟨p0, p1, p2, p3⟩ := four_cells hH0
  rcases hk with rfl | rfl | rfl
  all_goals
    go_enter Tryz.func21, Tryz.ntmps21
    go_wp2_with fail
    generalize hbk : w.heap.size = b at p0 p1 p2 p3 hH0 hS0 ⊢
    refine wp_region_noPanic ?_
    refine wp_region_held_drew (S := fun w' => w'.cell? ⟨b, 0, none⟩ = some (.int .u8 _) ∧ w'.cell? ⟨b, 1, none⟩ = some (.int .u64 n) ∧ w'.cell? ⟨b, 2, none⟩ = some (.string s) ∧ w'.cell? ⟨b, 3, none⟩ = some c3) (by kernel_rfl) ⟨p0, p1, p2, p3⟩ (fun hHeld => ?_)
    refine wpAnyH_take (i := 0) (oi := _) (v := ?_) rfl (by kernel_rfl) (by kernel_rfl) (by kernel_rfl) (fun _ _ _ h => h) (Or.inl ⟨by rfl, ?_⟩) (by assumption) ?_
    rotate_left
    · intro w hSw
      (try dsimp only at hSw)
      go_simp
      all_goals (with_reducible rfl)
    try simp only [Act.put, List.getElem_toArray, List.getElem_cons_succ, List.getElem_cons_zero, List.setIfInBounds_toArray, List.set_cons_zero, List.set_cons_succ]
    refine wpAnyH_take (i := 1) (oi := _) (v := ?_) rfl (by kernel_rfl) (by kernel_rfl) (by kernel_rfl) (fun _ _ _ h => h) (Or.inl ⟨by rfl, ?_⟩) (by assumption) ?_
    rotate_left
    · intro w hSw
      (try dsimp only at hSw)
      go_simp
      all_goals (with_reducible rfl)
    try simp only [Act.put, List.getElem_toArray, List.getElem_cons_succ, List.getElem_cons_zero, List.setIfInBounds_toArray, List.set_cons_zero, List.set_cons_succ]
    refine wpAnyH_take (i := 3) (oi := _) (v := ?_) rfl (by kernel_rfl) (by kernel_rfl) (by kernel_rfl) (fun _ _ _ h => h) (Or.inl ⟨by rfl, ?_⟩) (by assumption) ?_
    rotate_left
    · intro w hSw
      (try dsimp only at hSw)
      go_simp
      all_goals (with_reducible rfl)
    try simp only [Act.put, List.getElem_toArray, List.getElem_cons_succ, List.getElem_cons_zero, List.setIfInBounds_toArray, List.set_cons_zero, List.set_cons_succ]
    refine wpAnyH_take (i := 4) (oi := _) (v := ?_) rfl (by kernel_rfl) (by kernel_rfl) (by kernel_rfl) (fun _ _ _ h => h) (Or.inl ⟨by rfl, ?_⟩) (by assumption) ?_
    rotate_left
    · intro w hSw
      (try dsimp only at hSw)
      go_simp
      all_goals (with_reducible rfl)
    try simp only [Act.put, List.getElem_toArray, List.getElem_cons_succ, List.getElem_cons_zero, List.setIfInBounds_toArray, List.set_cons_zero, List.set_cons_succ]
    refine wpAnyH_take (i := 5) (oi := _) (v := ?_) rfl (by kernel_rfl) (by kernel_rfl) (by kernel_rfl) (fun _ _ _ h => h) (Or.inl ⟨by rfl, ?_⟩) (by assumption) ?_
    rotate_left
    · intro w hSw
      (try dsimp only at hSw)
      go_simp
      all_goals (with_reducible rfl)
    try simp only [Act.put, List.getElem_toArray, List.getElem_cons_succ, List.getElem_cons_zero, List.setIfInBounds_toArray, List.set_cons_zero, List.set_cons_succ]
    refine wpAnyH_ready (rs := [2]) (by kernel_rfl) (by simp) ?_
    refine AllReadyH.cons (o := _) rfl (fun K hK => ?_) AllReadyH.nil
    go_simp
    refine (hq _ hBd).mono ?_; rintro _ w2 ⟨rfl, hb2⟩; have hH2 := (hb2.block _ hS0).trans hH0; obtain ⟨q0, q1, q2, q3⟩ := four_cells hH2
    refine hK.out _ _ ⟨q0, q1, q2, q3⟩ (fun hHeld => ?_)
    clear hK K
    try simp only [Act.put, List.getElem_toArray, List.getElem_cons_succ, List.getElem_cons_zero, List.setIfInBounds_toArray, List.set_cons_zero, List.set_cons_succ]
    refine wpAnyH_take (i := 6) (oi := _) (v := ?_) rfl (by kernel_rfl) (by kernel_rfl) (by kernel_rfl) (fun _ _ _ h => h) (Or.inl ⟨by rfl, ?_⟩) (by assumption) ?_
    rotate_left
    · intro w hSw
      (try dsimp only at hSw)
      go_simp
      all_goals (with_reducible rfl)
    try simp only [Act.put, List.getElem_toArray, List.getElem_cons_succ, List.getElem_cons_zero, List.setIfInBounds_toArray, List.set_cons_zero, List.set_cons_succ]
    refine wpAnyH_take (i := 7) (oi := _) (v := ?_) rfl (by kernel_rfl) (by kernel_rfl) (by kernel_rfl) (fun _ _ _ h => h) (Or.inl ⟨by rfl, ?_⟩) (by assumption) ?_
    rotate_left
    · intro w hSw
      (try dsimp only at hSw)
      go_simp
      all_goals (with_reducible rfl)
    try simp only [Act.put, List.getElem_toArray, List.getElem_cons_succ, List.getElem_cons_zero, List.setIfInBounds_toArray, List.set_cons_zero, List.set_cons_succ]
    refine wpAnyH_done (by kernel_rfl) ?_ _
    refine NoPanic.normal ?_
    go_wp2_with fail
    go_ret2
    exact ⟨rfl, hbk ▸ hBd.trans (hb2.mono hBd.size)⟩
end Go.Proofs.YtjbpphomlmlmaaaGreatDoor

/- What the reference writes of a value: variants and entries. -/
namespace Go.Proofs.YtjbpphomlmlmaaaGreatDoor
open Go.RowKit
set_option linter.unusedVariables false
set_option linter.unusedSimpArgs false
set_option maxRecDepth 100000 in
set_option maxHeartbeats 6400000 in
theorem text_walk (k n : Int) (s : ByteArray) (A : Option Addr) (m cap : Nat) (l sg : List UInt8) (hl : l.length ≤ 10000000) (hsg : sg.length ≤ 255) (tl : Bool) (w : World)
    (h21 : ∀ w', Below w.heap.size w w' → Calls Tryz.prog 21 #[.agg #[.int .u8 k, .int .u64 n, .string s, .slice A m cap]] w' fun e w1 => e = .returned (.tuple #[.string (bs l), .bool tl]) ∧ Below w'.heap.size w' w1)
    (h11 : ∀ w', Below w.heap.size w w' → Calls Tryz.prog 11 #[.agg #[.int .u8 k, .int .u64 n, .string s, .slice A m cap]] w' fun e w1 => e = .returned (.string (bs sg)) ∧ Below w'.heap.size w' w1) :
    Calls Tryz.prog 13 #[.agg #[.int .u8 k, .int .u64 n, .string s, .slice A m cap]] w fun e w' => e = .returned (.string (bs (if tl then l else 64 :: (sg ++ (32 :: l))))) ∧ Below w.heap.size w w' := by
  have hB0 : Below w.heap.size w (w.alloc (.cells #[.int .u8 k, .int .u64 n, .string s, .slice A m cap] 25)) := (Below.refl w.heap.size w).alloc (Nat.le_refl _) _
  have hH0 := heap_alloc_new w (.cells #[.int .u8 k, .int .u64 n, .string s, .slice A m cap] 25)
  have hS0 : w.heap.size < (w.alloc (.cells #[.int .u8 k, .int .u64 n, .string s, .slice A m cap] 25)).heap.size := by simp
  cases tl
  · go_enter Tryz.func13, Tryz.ntmps13
    go_wp2_with fail
    refine (h21 _ hB0).mono ?_
    rintro _ w1 ⟨rfl, hb1⟩
    have hB1 := hB0.trans (hb1.mono hB0.size)
    have hH1 := (hb1.block _ hS0).trans hH0
    clear h21 hb1
    obtain ⟨p0, p1, p2, p3⟩ := four_cells hH1
    go_wp2_with fail
    refine (h11 _ hB1).mono ?_
    rintro _ w2 ⟨rfl, hb2⟩
    go_wp2_with fail
    go_ret
    have hs : ({ data := #[64] } ++ bs sg ++ { data := #[32] } ++ bs l : ByteArray) = bs (64 :: (sg ++ (32 :: l))) := ba_ext (by simp [bs])
    refine ⟨?_, hB1.trans (hb2.mono hB1.size)⟩
    show Ending.returned (.string ({ data := #[64] } ++ bs sg ++ { data := #[32] } ++ bs l)) = _
    rw [hs]; first | done | rfl
  · go_enter Tryz.func13, Tryz.ntmps13
    go_wp2_with fail
    refine (h21 _ hB0).mono ?_
    rintro _ w1 ⟨rfl, hb1⟩
    go_wp2_with fail
    go_ret
    exact ⟨rfl, hB0.trans (hb1.mono hB0.size)⟩
theorem text_calls {F H : Nat → List UInt8} (hF : FH F H) {v : V} {t : Ty} (hW : WrOk F H v) (h : HT v t) (h255 : t.sig.length ≤ 255) (ht : v.txt ≤ 65536) (hc : v.cnt ≤ 1000) (S : Nat → Prop) (x : Value) (w : World) (hw : Base2 w) (hr : Rep S w v x) :
    Calls Tryz.prog 13 #[x] w fun e w' => e = .returned (.string (bs (textOf v (writ F H v)))) ∧ Below w.heap.size w w' := by
  have hsl := sigL_le255 h h255
  have hwl := wl_of hF h ht hc
  have hwt : v.wt < 1000000 := by rw [wt_eq]; omega
  obtain ⟨k, n, s, kids⟩ := v
  have hr0 := hr
  simp only [Rep] at hr
  obtain ⟨A, cap, rfl, _⟩ := hr
  have hkeep : ∀ w', Below w.heap.size w w' → Rep S w' _ _ := fun w' hb => hr0.keep fun b hlt _ => hb.block b hlt
  exact text_walk k n s A kids.length cap _ _ (by omega) hsl _ w (fun w' hb => hW S _ w' (hw.below hb) (hkeep w' hb)) (fun w' hb => sigOf_calls 1000000 _ hwt (Nat.le_refl _) S _ w' (hkeep w' hb))
set_option maxRecDepth 100000 in
set_option maxHeartbeats 6400000 in
theorem wr_var {F H : Nat → List UInt8} (hF : FH F H) (n : Int) (s : ByteArray) (c : V) (t : Ty) (hT : HT c t) (h255 : t.sig.length ≤ 255) (ht : c.txt ≤ 65536) (hc : c.cnt ≤ 1000) (ih : WrOk F H c) : WrOk F H (.mk 118 n s [c]) := by
  intro S x w hw hr
  simp only [Rep] at hr
  obtain ⟨A, cap, rfl, h1, h2, _, _, _, hkids⟩ := hr
  have hb0 : Below w.heap.size w (w.alloc (.cells #[.int .u8 118, .int .u64 n, .string s, .slice A [c].length cap] 25)) := (Below.refl _ _).alloc (Nat.le_refl _) _
  obtain ⟨b, o, A', cap', rfl, _, k0, k1, k2, k3, hv⟩ := (hkids.keep fun b hlt _ => hb0.block b hlt).kid 0 (by simp)
  simp only [List.getElem_cons_zero, Nat.zero_mul, Nat.add_zero] at k0 k1 k2 k3 hv
  have hcall := text_calls hF ih hT h255 ht hc S _ _ (hw.below hb0) hv
  have hlt := textOf_len c (writ F H c) (sigL_le255 hT h255)
  have hwl := wl_of hF hT ht hc
  have hlen : ([c] : List V).length = 1 := rfl
  rw [hlen] at hcall k3 ⊢
  rw [hlen] at k0 k1 k2
  unfold WrR
  rw [writ_var]
  generalize textOf c (writ F H c) = tx at *
  go_enter Tryz.func21, Tryz.ntmps21
  go_wp2_with fail
  refine hcall.mono ?_
  rintro _ w1 ⟨rfl, hb1⟩
  go_wp2_with fail
  go_ret2
  have hs : ({ data := #[60] } ++ bs tx ++ { data := #[62] } : ByteArray) = bs (60 :: (tx ++ [62])) := ba_ext (by simp [bs])
  refine ⟨?_, hb0.trans (hb1.mono hb0.size)⟩
  show Ending.returned (.tuple #[.string ({ data := #[60] } ++ bs tx ++ { data := #[62] }), .bool true]) = _
  rw [hs]; first | done | rfl
set_option maxRecDepth 100000 in
set_option maxHeartbeats 6400000 in
theorem wr_ent {F H : Nat → List UInt8} (n : Int) (s : ByteArray) (a b : V) (hla : (writ F H a).length ≤ 2000000) (hlb : (writ F H b).length ≤ 2000000) (iha : WrOk F H a) (ihb : WrOk F H b) : WrOk F H (.mk 123 n s [a, b]) := by
  intro S x w hw hr
  simp only [Rep] at hr
  obtain ⟨A, cap, rfl, h1, h2, _, _, _, hkids⟩ := hr
  have hb0 : Below w.heap.size w (w.alloc (.cells #[.int .u8 123, .int .u64 n, .string s, .slice A [a, b].length cap] 25)) := (Below.refl _ _).alloc (Nat.le_refl _) _
  have hH0 := heap_alloc_new w (.cells #[.int .u8 123, .int .u64 n, .string s, .slice A [a, b].length cap] 25)
  have hS0 : w.heap.size < (w.alloc (.cells #[.int .u8 123, .int .u64 n, .string s, .slice A [a, b].length cap] 25)).heap.size := by simp
  obtain ⟨g, o, A', cap', rfl, _, k0, k1, k2, k3, hv⟩ := (hkids.keep fun b hlt _ => hb0.block b hlt).kid 0 (by simp)
  simp only [List.getElem_cons_zero, Nat.zero_mul, Nat.add_zero] at k0 k1 k2 k3 hv
  have hcall := iha S _ _ (hw.below hb0) hv
  unfold WrR at *
  rw [ent_text, show tells (.mk 123 n s [a, b]) = (tells a && tells b) by simp [tells, tellsAll]]
  have hlen : ([a, b] : List V).length = 2 := rfl
  rw [hlen] at hcall hH0 hS0 hb0 k0 k1 k2 k3 ⊢
  obtain ⟨ta, hta⟩ : ∃ ta, tells a = ta := ⟨_, rfl⟩
  rw [hta] at hcall ⊢
  clear hta
  go_enter Tryz.func21, Tryz.ntmps21
  go_wp2_with fail
  refine hcall.mono ?_
  rintro _ w1 ⟨rfl, hb1⟩
  have hB1 := hb0.trans (hb1.mono hb0.size)
  have hH1 := (hb1.block _ hS0).trans hH0
  obtain ⟨p0, p1, p2, p3⟩ := four_cells hH1
  clear k0 k1 k2 k3 hv hcall
  obtain ⟨g', o', A'', cap'', hge, _, k0, k1, k2, k3, hv⟩ := (hkids.keep fun b hlt _ => hB1.block b hlt).kid 1 (by simp)
  obtain ⟨rfl, rfl⟩ : g = g' ∧ o = o' := by simpa using hge
  simp only [List.getElem_cons_succ, List.getElem_cons_zero, Nat.one_mul] at k0 k1 k2 k3 hv
  have hcall := ihb S _ _ (hw.below hB1) hv
  clear hge
  cases ta
  all_goals
    go_wp2_with fail
    refine hcall.mono ?_
    rintro _ w2 ⟨rfl, hb2⟩
    go_wp2_with fail
    go_ret2
    have hs : (bs (writ F H a) ++ { data := #[58, 32] } ++ bs (writ F H b) : ByteArray) = bs (writ F H a ++ [58, 32] ++ writ F H b) := ba_ext (by simp [bs])
    refine ⟨?_, hB1.trans (hb2.mono hB1.size)⟩
    rw [← hs]
    rfl
end Go.Proofs.YtjbpphomlmlmaaaGreatDoor

/- What the reference writes of a value: lists, dicts, structs. -/
namespace Go.Proofs.YtjbpphomlmlmaaaGreatDoor
open Go.RowKit
set_option linter.unusedVariables false
set_option linter.unusedSimpArgs false
theorem bs_app (a b : List UInt8) : bs a ++ bs b = bs (a ++ b) := ba_ext (by simp [bs])
theorem strs_at {w : World} {B : Nat} {v : Value} {ss : List (List UInt8)} (h : w.ownsRow B 9 1 v ss.length (ss.map encStr)) (h0 : 0 < ss.length) : ∃ g cap cur, v = .slice (some ⟨g, 0, none⟩) ss.length cap ∧ B ≤ g ∧ w.heap[g]? = some (.cells cur 9 (0, 0)) ∧ cur.toList.take ss.length = ss.map encStr ∧ ss.length ≤ cur.size := by
  rcases h.2 with ⟨_, h1⟩ | ⟨g, cap, cur, rfl, hb, hg, h1, h2, h3, h4⟩
  · omega
  · rw [Nat.mul_one] at h4 h3
    exact ⟨g, cap, cur, rfl, hb, hg, h4, by omega⟩
theorem str_cell {w : World} {g : Nat} {cur : Array Value} {ss : List (List UInt8)} (hg : w.heap[g]? = some (.cells cur 9 (0, 0))) (ht : cur.toList.take ss.length = ss.map encStr) (j : Nat) (hj : j < ss.length) : w.cell? ⟨g, j, none⟩ = some (.string (bs ss[j])) := by
  rw [cell_of_row _ _ _ _ _ _ hg, ← Array.getElem?_toList]
  have h1 : (cur.toList.take ss.length)[j]? = (ss.map encStr)[j]? := by rw [ht]
  rw [List.getElem?_take_of_lt hj, List.getElem?_map, List.getElem?_eq_getElem hj] at h1
  exact h1
set_option maxRecDepth 100000 in
set_option maxHeartbeats 12800000 in
theorem wr_empty (n : Int) (c : UInt8) (r : List UInt8) (A : Option Addr) (cap : Nat) (w : World) :
    Calls Tryz.prog 21 #[.agg #[.int .u8 97, .int .u64 n, .string (bs (c :: r)), .slice A 0 cap]] w fun e w' => e = .returned (.tuple #[.string (bs (if c = 123 then [123, 125] else [91, 93])), .bool false]) ∧ Below w.heap.size w w' := by
  have hb0 : Below w.heap.size w (w.alloc (.cells #[.int .u8 97, .int .u64 n, .string (bs (c :: r)), .slice A 0 cap] 25)) := (Below.refl _ _).alloc (Nat.le_refl _) _
  have hH0 : (w.alloc (.cells #[.int .u8 97, .int .u64 n, .string (bs (c :: r)), .slice A 0 cap] 25)).heap[w.heap.size]? = _ := heap_alloc_new w _
  obtain ⟨p0, p1, p2, p3⟩ := four_cells hH0
  by_cases hc : c = 123
  · subst hc
    rw [if_pos rfl]
    go_enter Tryz.func21, Tryz.ntmps21
    go_wp2_with fail
    go_loopw [8, 9, 113] (fun pv un i wr => pv = .slice none 0 0 ∧ un = .bool false ∧ i = .int .i64 0 ∧ Below w.heap.size w wr ∧ wr.heap[w.heap.size]? = some (.cells #[.int .u8 97, .int .u64 n, .string (bs (123 :: r)), .slice A 0 cap] 25 (0, 0))) (fun _ _ _ _ => 0)
    case atStart => exact ⟨rfl, rfl, rfl, hb0, hH0⟩
    case round =>
      obtain ⟨rfl, rfl, rfl, hb1, hH1⟩ := hrel
      clear hb0 hH0 p0 p1 p2 p3
      obtain ⟨p0, p1, p2, p3⟩ := four_cells hH1
      go_wp2_with fail
      refine (Tryz.sort_Strings_none none 0 _).mono ?_
      rintro _ w1 ⟨rfl, rfl⟩
      go_wp2_with fail
      go_loopw [15, 146] (fun out i wq => out = .string (bs [123]) ∧ i = .int .i64 0 ∧ Below w.heap.size w wq ∧ wq.heap[w.heap.size]? = some (.cells #[.int .u8 97, .int .u64 n, .string (bs (123 :: r)), .slice A 0 cap] 25 (0, 0))) (fun _ _ _ => 0)
      case atStart => exact ⟨rfl, rfl, hb1, hH1⟩
      case round =>
        obtain ⟨rfl, rfl, hb2, hH2⟩ := hrel
        clear p0 p1 p2 p3
        obtain ⟨p0, p1, p2, p3⟩ := four_cells hH2
        go_wp2_with fail
        go_ret2
        exact ⟨rfl, hb2⟩
  · have hcc : ((c.toNat : Int) == 123) = false := by rw [beq_eq_false_iff_ne]; intro hx; exact hc (UInt8.toNat_inj.1 (by show c.toNat = 123; omega))
    rw [if_neg hc]
    go_enter Tryz.func21, Tryz.ntmps21
    go_wp2_with fail
    go_loopw [8, 9, 113] (fun pv un i wr => pv = .slice none 0 0 ∧ un = .bool false ∧ i = .int .i64 0 ∧ Below w.heap.size w wr ∧ wr.heap[w.heap.size]? = some (.cells #[.int .u8 97, .int .u64 n, .string (bs (c :: r)), .slice A 0 cap] 25 (0, 0))) (fun _ _ _ _ => 0)
    case atStart => exact ⟨rfl, rfl, rfl, hb0, hH0⟩
    case round =>
      obtain ⟨rfl, rfl, rfl, hb1, hH1⟩ := hrel
      clear hb0 hH0 p0 p1 p2 p3
      obtain ⟨p0, p1, p2, p3⟩ := four_cells hH1
      go_wp2_with fail
      go_loopw [15, 146] (fun out i wq => out = .string (bs [91]) ∧ i = .int .i64 0 ∧ Below w.heap.size w wq ∧ wq.heap[w.heap.size]? = some (.cells #[.int .u8 97, .int .u64 n, .string (bs (c :: r)), .slice A 0 cap] 25 (0, 0))) (fun _ _ _ => 0)
      case atStart => exact ⟨rfl, rfl, hb1, hH1⟩
      case round =>
        obtain ⟨rfl, rfl, hb2, hH2⟩ := hrel
        clear p0 p1 p2 p3
        obtain ⟨p0, p1, p2, p3⟩ := four_cells hH2
        go_wp2_with fail
        go_ret2
        exact ⟨rfl, hb2⟩
set_option maxRecDepth 100000 in
set_option maxHeartbeats 12800000 in
theorem wr_lst {F H : Nat → List UInt8} (n : Int) (c : UInt8) (r : List UInt8) (hc : c ≠ 123) (kids : List V) (hne : kids ≠ []) (hlen : kids.length ≤ 1000) (hwl : ∀ v ∈ kids, (writ F H v).length ≤ 5000000) (ih : ∀ v ∈ kids, WrOk F H v) : WrOk F H (.mk 97 n (bs (c :: r)) kids) := by
  intro S x w hw hr
  simp only [Rep] at hr
  obtain ⟨A, cap, rfl, h1, h2, _, _, _, hkids⟩ := hr
  have hb0 : Below w.heap.size w (w.alloc (.cells #[.int .u8 97, .int .u64 n, .string (bs (c :: r)), .slice A kids.length cap] 25)) := (Below.refl _ _).alloc (Nat.le_refl _) _
  have hH0 : (w.alloc (.cells #[.int .u8 97, .int .u64 n, .string (bs (c :: r)), .slice A kids.length cap] 25)).heap[w.heap.size]? = _ := heap_alloc_new w _
  obtain ⟨p0, p1, p2, p3⟩ := four_cells hH0
  obtain ⟨i0, hi0, hz0, hz1, hz2⟩ := info_parts info9d
  have hk0 := List.length_pos_iff.2 hne
  have hkg : decide ((kids.length : Int) > 0) = true := by simp; omega
  have hkg2 : decide (0 < kids.length) = true := by simp; omega
  obtain ⟨b, o, rfl⟩ : ∃ b o, A = some ⟨b, o, none⟩ := by
    obtain ⟨b, o, _, _, rfl, _⟩ := hkids.kid 0 hk0
    exact ⟨b, o, rfl⟩
  have HNE := Lib.hid hne
  clear hne
  have hcc : ((c.toNat : Int) == 123) = false := by rw [beq_eq_false_iff_ne]; intro hx; exact hc (UInt8.toNat_inj.1 (by show c.toNat = 123; omega))
  go_enter Tryz.func21, Tryz.ntmps21
  go_wp2_with fail
  go_loopw [8, 9, 113] (fun pv un i wr => ∃ j : Nat, j ≤ kids.length ∧ un = .bool (tellsAll (kids.take j)) ∧ i = .int .i64 j ∧ wr.ownsRow w.heap.size 9 1 pv j (((writs F H kids).take j).map encStr) ∧ Below w.heap.size w wr ∧ wr.heap[w.heap.size]? = some (.cells #[.int .u8 97, .int .u64 n, .string (bs (c :: r)), .slice (some ⟨b, o, none⟩) kids.length cap] 25 (0, 0)) ∧ pv.ownBlock ≠ some w.heap.size) (fun _ _ i _ => kids.length - (intOf i).toNat)
  case atStart => exact ⟨0, Nat.zero_le _, rfl, rfl, World.ownsRow_nil _ _ _ _, hb0, hH0, by simp [Value.ownBlock]⟩
  case round =>
    clear p0 p1 p2 p3
    obtain ⟨j, hj, rfl, rfl, hown, hB, hH, hnb⟩ := hrel
    have hj63 : (j : Int) + 1 ≤ 1001 := by omega
    by_cases hlt : j < kids.length
    · have hltd : decide ((j : Int) < (kids.length : Int)) = true := by simp; omega
      obtain ⟨b', o', A', cap', hbo, _, k0, k1, k2, k3, hv⟩ := (hkids.keep fun b hlt _ => hB.block b hlt).kid j hlt
      obtain ⟨rfl, rfl⟩ : b = b' ∧ o = o' := by simpa using hbo
      clear hbo
      have hBa : Below w.heap.size w (wr.alloc (.cells #[.int .u8 kids[j].k, .int .u64 kids[j].n, .string kids[j].s, .slice A' kids[j].kids.length cap'] 25)) := hB.alloc hB.size _
      have hcall := ih _ (List.getElem_mem hlt) S _ _ (hw.below hBa) (hv.keep fun b hb _ => ((Below.refl _ wr).alloc (Nat.le_refl _) (.cells #[.int .u8 kids[j].k, .int .u64 kids[j].n, .string kids[j].s, .slice A' kids[j].kids.length cap'] 25)).block b hb)
      have hTn := tellsAll_take kids j hlt
      have hWn := writs_at F H kids j hlt
      have HWN := Lib.hid hWn
      clear hWn
      unfold WrR at hcall
      go_wp2_with fail
      refine hcall.mono ?_
      rintro _ w1 ⟨rfl, hb1⟩
      have hB1 := hBa.trans (hb1.mono hBa.size)
      have hown1 := own_keep' hown (fun k hk => (((Below.refl _ wr).alloc (Nat.le_refl _) (.cells #[.int .u8 kids[j].k, .int .u64 kids[j].n, .string kids[j].s, .slice A' kids[j].kids.length cap'] 25)).trans (hb1.mono (by simp))).block k (own_lt hown hk))
      have hH1 := (((Below.refl _ wr).alloc (Nat.le_refl _) (.cells #[.int .u8 kids[j].k, .int .u64 kids[j].n, .string kids[j].s, .slice A' kids[j].kids.length cap'] 25)).trans (hb1.mono (by simp))).block _ (Array.getElem?_eq_some_iff.1 hH).1 |>.trans hH
      clear hcall k0 k1 k2 k3 hv hB hown hH hb1 hBa
      generalize kids[j] = vj at *
      obtain ⟨ta, hta⟩ : ∃ ta, tellsAll (kids.take j) = ta := ⟨_, rfl⟩
      rw [hta]
      rw [hta] at hTn
      have HTN := Lib.hid hTn
      clear hta hTn
      cases ta
      all_goals
        go_wp2_with (at_builtin; refine Hid.out ?_)
        refine Lib.hid ?_
        refine wpList_append_own_at _ rfl _ _ 32 rfl w.heap.size 9 i0 (.string ByteArray.empty) 1 16 Tryz.underlying32 hi0 hz0 hz1 hz2 rfl (by decide) _ _ _ rfl (hown1.alloc _) ⟨_, 0, none⟩ 1 1 [.string (bs (writ F H vj))] rfl rfl (cell_one_new _ _ _) (by simp [Value.oneCell']) (by unfold maxLen; omega) (by omega) (by have := hB1.size; simp; omega) ?_
        intro v1 w2 ho hg _ ha
        have hB2 : Below w.heap.size w w2 := (hB1.alloc hB1.size _).grown hg (by have := hB1.size; simp; omega) (fun k hk => own_base' hown1 hk)
        have hH2 := (hg.block w.heap.size (by have := hB1.size; simp; omega) (fun hc => hnb hc.symm)).trans ((Below.heap_alloc w1 (.cells #[.string (bs (writ F H vj))] 9) _ (Array.getElem?_eq_some_iff.1 hH1).1).trans hH1)
        go_wp2_with fail
        go_roundw
        case rel =>
          refine ⟨j + 1, hlt, by rw [HTN.out]; first | rfl | simp, by go_num, ?_, hB2, hH2, ?_⟩
          · rw [HWN.out, List.map_append]
            exact ho
          · rcases ha with ha | ha
            · rw [ha]; exact hnb
            · rw [ha]; intro hc; have := hB1.size; simp at hc; omega
        case measure => simp [intOf]; omega
    · obtain rfl : kids.length = j := by omega
      have hltd : decide ((kids.length : Int) < (kids.length : Int)) = false := by simp
      have hsl := writs_length F H kids
      rw [List.take_of_length_le (by omega)] at hown
      obtain ⟨p0, p1, p2, p3⟩ := four_cells hH
      have hwr := writ_arr F H n (bs (c :: r)) kids
      have htl : tells (.mk 97 n (bs (c :: r)) kids) = tellsAll kids := by simp [tells, hk0]
      have hsM : ∀ s ∈ writs F H kids, s.length ≤ 5000000 := by
        intro s hs
        rw [writs_eq] at hs
        obtain ⟨v, hv, rfl⟩ := List.mem_map.1 hs
        exact hwl v hv
      rw [← hsl] at hown
      have HWR := Lib.hid hwr
      have HTL := Lib.hid htl
      have HSL := Lib.hid hsl
      clear hwr htl hnb
      obtain ⟨g, capg, cur, rfl, hgB, hgr, htk, hcs⟩ := strs_at hown (by omega)
      have HTK := Lib.hid htk
      clear htk
      have hgq := hgr
      have hHq := hH
      have hBq := hB
      have hwr2 : writ F H (.mk 97 n (bs (c :: r)) kids) = 91 :: (joinT (writs F H kids) ++ [93]) := by rw [HWR.out, if_neg (by simpa using hc)]
      have HWR := Lib.hid hwr2
      clear hwr2
      have htk2 := HTK.out
      have hsM2 := hsM
      rw [hsl]
      generalize writs F H kids = dd at *
      obtain ⟨cur2, hcu⟩ : ∃ c2, c2 = cur := ⟨_, rfl⟩
      rw [← hcu] at hgq htk2
      have hdl : dd.length = kids.length := hsl
      have hjl := joinT_take_len dd 5000000 hsM2
      have HDL := Lib.hid hdl
      have HTK2 := Lib.hid htk2
      clear hsl hcs htk2
      have htk2 := HTK2.out
      have HTKx := Lib.hid htk2
      clear htk2 hcu
      go_wp2_with fail
      go_loopw [15, 146] (fun out i wq => ∃ j : Nat, j ≤ kids.length ∧ i = .int .i64 j ∧ out = .string (bs (91 :: joinT (dd.take j))) ∧ Below w.heap.size w wq ∧ wq.heap[g]? = some (.cells cur2 9 (0, 0)) ∧ wq.heap[w.heap.size]? = some (.cells #[.int .u8 97, .int .u64 n, .string (bs (c :: r)), .slice (some ⟨b, o, none⟩) kids.length cap] 25 (0, 0))) (fun _ i _ => kids.length - (intOf i).toNat)
      case atStart => exact ⟨0, Nat.zero_le _, rfl, rfl, hBq, hgq, hHq⟩
      case round =>
        obtain ⟨j, hj, rfl, rfl, hB2, hg2, hH2⟩ := hrel
        have hj63 : (j : Int) + 1 ≤ 1001 := by omega
        have hjl1 := hjl j
        have hjl2 : j * (5000000 + 2) ≤ 1000 * (5000000 + 2) := Nat.mul_le_mul_right _ (by omega)
        have hjb : (joinT (dd.take j)).length ≤ 6000000000 := by omega
        clear hjl1 hjl2
        obtain ⟨p0, p1, p2, p3⟩ := four_cells hH2
        by_cases hlt : j < kids.length
        · have hltd : decide ((j : Int) < (kids.length : Int)) = true := by simp; omega
          have k0 := str_cell hg2 HTKx.out j (by rw [HDL.out]; exact hlt)
          have hdj := hsM2 _ (List.getElem_mem (show j < dd.length by rw [HDL.out]; exact hlt))
          have hsn : joinT (dd.take (j + 1)) = joinT (dd.take j) ++ ((if j = 0 then [] else [44, 32]) ++ dd[j]'(by rw [HDL.out]; exact hlt)) := by
            rw [List.take_succ_eq_append_getElem (show j < dd.length by rw [HDL.out]; exact hlt), joinT_snoc, List.length_take, Nat.min_eq_left (by have := HDL.out; omega)]
          have HSN := Lib.hid hsn
          clear hsn
          generalize dd[j]'(by rw [HDL.out]; exact hlt) = sj at *
          by_cases h0 : j = 0
          · subst h0
            have hz : (joinT ([] : List (List UInt8))).length = 0 := rfl
            go_wp2_with fail
            go_roundw
            case rel =>
              refine ⟨1, by omega, rfl, ?_, hB2, hg2, hH2⟩
              congr 1
              refine ba_ext ?_
              rw [HSN.out]
              simp [bs]
            case measure => simp [intOf]; omega
          · have hgt : decide ((j : Int) > 0) = true := by simp; omega
            have hgt2 : decide (0 < j) = true := by simp; omega
            have HSN := HSN.out
            rw [if_neg h0] at HSN
            have HSN := Lib.hid HSN
            go_wp2_with fail
            go_roundw
            case rel =>
              refine ⟨j + 1, hlt, by go_num, ?_, hB2, hg2, hH2⟩
              congr 1
              refine ba_ext ?_
              rw [HSN.out]
              simp [bs]
            case measure => simp [intOf]; omega
        · obtain rfl : kids.length = j := by omega
          have hltd : decide ((kids.length : Int) < (kids.length : Int)) = false := by simp
          have htk3 : dd.take kids.length = dd := List.take_of_length_le (by rw [HDL.out]; exact Nat.le_refl _)
          have HTK3 := Lib.hid htk3
          clear htk3
          go_wp2_with fail
          go_ret2
          refine ⟨?_, hB2⟩
          rw [HWR.out, HTL.out]
          have hs : (bs (91 :: joinT (dd.take kids.length)) ++ { data := #[93] } : ByteArray) = bs (91 :: (joinT dd ++ [93])) := ba_ext (by rw [HTK3.out]; simp [bs])
          have hex : ({ data := #[91, 93] } : ByteArray).extract 1 2 = { data := #[93] } := by decide
          show Ending.returned (.tuple #[.string (bs (91 :: joinT (dd.take kids.length)) ++ ({ data := #[91, 93] } : ByteArray).extract 1 2), .bool (tellsAll (kids.take kids.length))]) = _
          rw [hex, ← hs, List.take_length]

set_option maxRecDepth 100000 in
set_option maxHeartbeats 12800000 in
theorem wr_dct {F H : Nat → List UInt8} (n : Int) (r : List UInt8) (kids : List V) (hne : kids ≠ []) (hlen : kids.length ≤ 1000) (hwl : ∀ v ∈ kids, (writ F H v).length ≤ 5000000) (ih : ∀ v ∈ kids, WrOk F H v) : WrOk F H (.mk 97 n (bs (123 :: r)) kids) := by
  intro S x w hw hr
  simp only [Rep] at hr
  obtain ⟨A, cap, rfl, h1, h2, _, _, _, hkids⟩ := hr
  have hb0 : Below w.heap.size w (w.alloc (.cells #[.int .u8 97, .int .u64 n, .string (bs (123 :: r)), .slice A kids.length cap] 25)) := (Below.refl _ _).alloc (Nat.le_refl _) _
  have hH0 : (w.alloc (.cells #[.int .u8 97, .int .u64 n, .string (bs (123 :: r)), .slice A kids.length cap] 25)).heap[w.heap.size]? = _ := heap_alloc_new w _
  obtain ⟨p0, p1, p2, p3⟩ := four_cells hH0
  obtain ⟨i0, hi0, hz0, hz1, hz2⟩ := info_parts info9d
  have hk0 := List.length_pos_iff.2 hne
  have hkg : decide ((kids.length : Int) > 0) = true := by simp; omega
  have hkg2 : decide (0 < kids.length) = true := by simp; omega
  obtain ⟨b, o, rfl⟩ : ∃ b o, A = some ⟨b, o, none⟩ := by
    obtain ⟨b, o, _, _, rfl, _⟩ := hkids.kid 0 hk0
    exact ⟨b, o, rfl⟩
  have HNE := Lib.hid hne
  clear hne
  go_enter Tryz.func21, Tryz.ntmps21
  go_wp2_with fail
  go_loopw [8, 9, 113] (fun pv un i wr => ∃ j : Nat, j ≤ kids.length ∧ un = .bool (tellsAll (kids.take j)) ∧ i = .int .i64 j ∧ wr.ownsRow w.heap.size 9 1 pv j (((writs F H kids).take j).map encStr) ∧ Below w.heap.size w wr ∧ wr.heap[w.heap.size]? = some (.cells #[.int .u8 97, .int .u64 n, .string (bs (123 :: r)), .slice (some ⟨b, o, none⟩) kids.length cap] 25 (0, 0)) ∧ pv.ownBlock ≠ some w.heap.size) (fun _ _ i _ => kids.length - (intOf i).toNat)
  case atStart => exact ⟨0, Nat.zero_le _, rfl, rfl, World.ownsRow_nil _ _ _ _, hb0, hH0, by simp [Value.ownBlock]⟩
  case round =>
    clear p0 p1 p2 p3
    obtain ⟨j, hj, rfl, rfl, hown, hB, hH, hnb⟩ := hrel
    have hj63 : (j : Int) + 1 ≤ 1001 := by omega
    by_cases hlt : j < kids.length
    · have hltd : decide ((j : Int) < (kids.length : Int)) = true := by simp; omega
      obtain ⟨b', o', A', cap', hbo, _, k0, k1, k2, k3, hv⟩ := (hkids.keep fun b hlt _ => hB.block b hlt).kid j hlt
      obtain ⟨rfl, rfl⟩ : b = b' ∧ o = o' := by simpa using hbo
      clear hbo
      have hBa : Below w.heap.size w (wr.alloc (.cells #[.int .u8 kids[j].k, .int .u64 kids[j].n, .string kids[j].s, .slice A' kids[j].kids.length cap'] 25)) := hB.alloc hB.size _
      have hcall := ih _ (List.getElem_mem hlt) S _ _ (hw.below hBa) (hv.keep fun b hb _ => ((Below.refl _ wr).alloc (Nat.le_refl _) (.cells #[.int .u8 kids[j].k, .int .u64 kids[j].n, .string kids[j].s, .slice A' kids[j].kids.length cap'] 25)).block b hb)
      have hTn := tellsAll_take kids j hlt
      have hWn := writs_at F H kids j hlt
      have HWN := Lib.hid hWn
      clear hWn
      unfold WrR at hcall
      go_wp2_with fail
      refine hcall.mono ?_
      rintro _ w1 ⟨rfl, hb1⟩
      have hB1 := hBa.trans (hb1.mono hBa.size)
      have hown1 := own_keep' hown (fun k hk => (((Below.refl _ wr).alloc (Nat.le_refl _) (.cells #[.int .u8 kids[j].k, .int .u64 kids[j].n, .string kids[j].s, .slice A' kids[j].kids.length cap'] 25)).trans (hb1.mono (by simp))).block k (own_lt hown hk))
      have hH1 := (((Below.refl _ wr).alloc (Nat.le_refl _) (.cells #[.int .u8 kids[j].k, .int .u64 kids[j].n, .string kids[j].s, .slice A' kids[j].kids.length cap'] 25)).trans (hb1.mono (by simp))).block _ (Array.getElem?_eq_some_iff.1 hH).1 |>.trans hH
      clear hcall k0 k1 k2 k3 hv hB hown hH hb1 hBa
      generalize kids[j] = vj at *
      obtain ⟨ta, hta⟩ : ∃ ta, tellsAll (kids.take j) = ta := ⟨_, rfl⟩
      rw [hta]
      rw [hta] at hTn
      have HTN := Lib.hid hTn
      clear hta hTn
      cases ta
      all_goals
        go_wp2_with (at_builtin; refine Hid.out ?_)
        refine Lib.hid ?_
        refine wpList_append_own_at _ rfl _ _ 32 rfl w.heap.size 9 i0 (.string ByteArray.empty) 1 16 Tryz.underlying32 hi0 hz0 hz1 hz2 rfl (by decide) _ _ _ rfl (hown1.alloc _) ⟨_, 0, none⟩ 1 1 [.string (bs (writ F H vj))] rfl rfl (cell_one_new _ _ _) (by simp [Value.oneCell']) (by unfold maxLen; omega) (by omega) (by have := hB1.size; simp; omega) ?_
        intro v1 w2 ho hg _ ha
        have hB2 : Below w.heap.size w w2 := (hB1.alloc hB1.size _).grown hg (by have := hB1.size; simp; omega) (fun k hk => own_base' hown1 hk)
        have hH2 := (hg.block w.heap.size (by have := hB1.size; simp; omega) (fun hc => hnb hc.symm)).trans ((Below.heap_alloc w1 (.cells #[.string (bs (writ F H vj))] 9) _ (Array.getElem?_eq_some_iff.1 hH1).1).trans hH1)
        go_wp2_with fail
        go_roundw
        case rel =>
          refine ⟨j + 1, hlt, by rw [HTN.out]; first | rfl | simp, by go_num, ?_, hB2, hH2, ?_⟩
          · rw [HWN.out, List.map_append]
            exact ho
          · rcases ha with ha | ha
            · rw [ha]; exact hnb
            · rw [ha]; intro hc; have := hB1.size; simp at hc; omega
        case measure => simp [intOf]; omega
    · obtain rfl : kids.length = j := by omega
      have hltd : decide ((kids.length : Int) < (kids.length : Int)) = false := by simp
      have hsl := writs_length F H kids
      rw [List.take_of_length_le (by omega)] at hown
      obtain ⟨p0, p1, p2, p3⟩ := four_cells hH
      have hwr := writ_arr F H n (bs (123 :: r)) kids
      have htl : tells (.mk 97 n (bs (123 :: r)) kids) = tellsAll kids := by simp [tells, hk0]
      have hsM : ∀ s ∈ writs F H kids, s.length ≤ 5000000 := by
        intro s hs
        rw [writs_eq] at hs
        obtain ⟨v, hv, rfl⟩ := List.mem_map.1 hs
        exact hwl v hv
      rw [← hsl] at hown
      have HWR := Lib.hid hwr
      have HTL := Lib.hid htl
      have HSL := Lib.hid hsl
      clear hwr htl hnb
      obtain ⟨g, capg, cur, rfl, hgB, hgr, htk, hcs⟩ := strs_at hown (by omega)
      have HTK := Lib.hid htk
      clear htk
      have hrn : g ≠ w.heap.size := by
        intro hc
        rw [hc, hH] at hgr
        simp at hgr
      have hsort := Tryz.sort_Strings g 0 capg (writs F H kids) wr (holds_of_block hgr HTK.out) (Array.getElem?_eq_some_iff.1 hgr).1 (by omega)
      have hwr2 : writ F H (.mk 97 n (bs (123 :: r)) kids) = 123 :: (joinT ((writs F H kids).mergeSort fun x y => decide (x ≤ y)) ++ [125]) := by rw [HWR.out, if_pos (show (bs (123 :: r)).data.toList.head? = some 123 from rfl)]
      have HWR := Lib.hid hwr2
      clear hwr2
      rw [hsl] at hsort ⊢
      go_wp2_with fail
      refine hsort.mono ?_
      rintro _ wq ⟨rfl, n1, os1, hwq⟩
      have hgq : wq.heap[g]? = some (.cells (Sort.putCells encStr 0 ((writs F H kids).mergeSort fun x y => decide (x ≤ y)).toArray cur) 9 (0, 0)) := by rw [hwq]; exact heap_sorted _ hgr
      have hgw : wr.grownBy wq (some g) := by rw [hwq]; exact grownBy_sorted _
      have hBq : Below w.heap.size w wq := hB.grown hgw hB.size (by intro k hk; cases hk; exact hgB)
      have hHq := (hgw.block w.heap.size (Array.getElem?_eq_some_iff.1 hH).1 (fun hc => hrn (by simpa using hc.symm))).trans hH
      have htk2 := take_putCells cur ((writs F H kids).mergeSort fun x y => decide (x ≤ y)) (by rw [List.length_mergeSort]; exact hcs)
      have hsM2 : ∀ s ∈ ((writs F H kids).mergeSort fun x y => decide (x ≤ y)), s.length ≤ 5000000 := fun s hs => hsM s ((List.mergeSort_perm _ _).mem_iff.1 hs)
      have hdl : ((writs F H kids).mergeSort fun x y => decide (x ≤ y)).length = kids.length := by rw [List.length_mergeSort]; exact hsl
      clear hsort hwq hgw hsM HTK hsl hcs hH hB hgr
      generalize ((writs F H kids).mergeSort fun x y => decide (x ≤ y)) = dd at *
      generalize Sort.putCells encStr 0 dd.toArray cur = cur2 at *
      have hjl := joinT_take_len dd 5000000 hsM2
      have HDL := Lib.hid hdl
      have HTKx := Lib.hid htk2
      clear htk2 hdl
      go_wp2_with fail
      go_loopw [15, 146] (fun out i wq => ∃ j : Nat, j ≤ kids.length ∧ i = .int .i64 j ∧ out = .string (bs (123 :: joinT (dd.take j))) ∧ Below w.heap.size w wq ∧ wq.heap[g]? = some (.cells cur2 9 (0, 0)) ∧ wq.heap[w.heap.size]? = some (.cells #[.int .u8 97, .int .u64 n, .string (bs (123 :: r)), .slice (some ⟨b, o, none⟩) kids.length cap] 25 (0, 0))) (fun _ i _ => kids.length - (intOf i).toNat)
      case atStart => exact ⟨0, Nat.zero_le _, rfl, rfl, hBq, hgq, hHq⟩
      case round =>
        obtain ⟨j, hj, rfl, rfl, hB2, hg2, hH2⟩ := hrel
        have hj63 : (j : Int) + 1 ≤ 1001 := by omega
        have hjl1 := hjl j
        have hjl2 : j * (5000000 + 2) ≤ 1000 * (5000000 + 2) := Nat.mul_le_mul_right _ (by omega)
        have hjb : (joinT (dd.take j)).length ≤ 6000000000 := by omega
        clear hjl1 hjl2
        obtain ⟨p0, p1, p2, p3⟩ := four_cells hH2
        by_cases hlt : j < kids.length
        · have hltd : decide ((j : Int) < (kids.length : Int)) = true := by simp; omega
          have k0 := str_cell hg2 HTKx.out j (by rw [HDL.out]; exact hlt)
          have hdj := hsM2 _ (List.getElem_mem (show j < dd.length by rw [HDL.out]; exact hlt))
          have hsn : joinT (dd.take (j + 1)) = joinT (dd.take j) ++ ((if j = 0 then [] else [44, 32]) ++ dd[j]'(by rw [HDL.out]; exact hlt)) := by
            rw [List.take_succ_eq_append_getElem (show j < dd.length by rw [HDL.out]; exact hlt), joinT_snoc, List.length_take, Nat.min_eq_left (by have := HDL.out; omega)]
          have HSN := Lib.hid hsn
          clear hsn
          generalize dd[j]'(by rw [HDL.out]; exact hlt) = sj at *
          by_cases h0 : j = 0
          · subst h0
            have hz : (joinT ([] : List (List UInt8))).length = 0 := rfl
            go_wp2_with fail
            go_roundw
            case rel =>
              refine ⟨1, by omega, rfl, ?_, hB2, hg2, hH2⟩
              congr 1
              refine ba_ext ?_
              rw [HSN.out]
              simp [bs]
            case measure => simp [intOf]; omega
          · have hgt : decide ((j : Int) > 0) = true := by simp; omega
            have hgt2 : decide (0 < j) = true := by simp; omega
            have HSN := HSN.out
            rw [if_neg h0] at HSN
            have HSN := Lib.hid HSN
            go_wp2_with fail
            go_roundw
            case rel =>
              refine ⟨j + 1, hlt, by go_num, ?_, hB2, hg2, hH2⟩
              congr 1
              refine ba_ext ?_
              rw [HSN.out]
              simp [bs]
            case measure => simp [intOf]; omega
        · obtain rfl : kids.length = j := by omega
          have hltd : decide ((kids.length : Int) < (kids.length : Int)) = false := by simp
          have htk3 : dd.take kids.length = dd := List.take_of_length_le (by rw [HDL.out]; exact Nat.le_refl _)
          have HTK3 := Lib.hid htk3
          clear htk3
          go_wp2_with fail
          go_ret2
          refine ⟨?_, hB2⟩
          rw [HWR.out, HTL.out]
          have hs : (bs (123 :: joinT (dd.take kids.length)) ++ { data := #[125] } : ByteArray) = bs (123 :: (joinT dd ++ [125])) := ba_ext (by rw [HTK3.out]; simp [bs])
          rw [← hs]; rfl

set_option maxRecDepth 100000 in
set_option maxHeartbeats 12800000 in
theorem wr_str {F H : Nat → List UInt8} (n : Int) (s0 : ByteArray) (kids : List V) (hne : kids ≠ []) (hlen : kids.length ≤ 1000) (hwl : ∀ v ∈ kids, (writ F H v).length ≤ 5000000) (ih : ∀ v ∈ kids, WrOk F H v) : WrOk F H (.mk 40 n s0 kids) := by
  intro S x w hw hr
  simp only [Rep] at hr
  obtain ⟨A, cap, rfl, h1, h2, _, _, _, hkids⟩ := hr
  have hb0 : Below w.heap.size w (w.alloc (.cells #[.int .u8 40, .int .u64 n, .string s0, .slice A kids.length cap] 25)) := (Below.refl _ _).alloc (Nat.le_refl _) _
  have hH0 : (w.alloc (.cells #[.int .u8 40, .int .u64 n, .string s0, .slice A kids.length cap] 25)).heap[w.heap.size]? = _ := heap_alloc_new w _
  obtain ⟨p0, p1, p2, p3⟩ := four_cells hH0
  obtain ⟨i0, hi0, hz0, hz1, hz2⟩ := info_parts info9d
  have hk0 := List.length_pos_iff.2 hne
  have hkg : decide ((kids.length : Int) > 0) = true := by simp; omega
  have hkg2 : decide (0 < kids.length) = true := by simp; omega
  obtain ⟨b, o, rfl⟩ : ∃ b o, A = some ⟨b, o, none⟩ := by
    obtain ⟨b, o, _, _, rfl, _⟩ := hkids.kid 0 hk0
    exact ⟨b, o, rfl⟩
  have HNE := Lib.hid hne
  clear hne
  go_enter Tryz.func21, Tryz.ntmps21
  go_wp2_with fail
  go_loopw [8, 9, 113] (fun pv un i wr => ∃ j : Nat, j ≤ kids.length ∧ un = .bool (tellsAll (kids.take j)) ∧ i = .int .i64 j ∧ wr.ownsRow w.heap.size 9 1 pv j (((writs F H kids).take j).map encStr) ∧ Below w.heap.size w wr ∧ wr.heap[w.heap.size]? = some (.cells #[.int .u8 40, .int .u64 n, .string s0, .slice (some ⟨b, o, none⟩) kids.length cap] 25 (0, 0)) ∧ pv.ownBlock ≠ some w.heap.size) (fun _ _ i _ => kids.length - (intOf i).toNat)
  case atStart => exact ⟨0, Nat.zero_le _, rfl, rfl, World.ownsRow_nil _ _ _ _, hb0, hH0, by simp [Value.ownBlock]⟩
  case round =>
    clear p0 p1 p2 p3
    obtain ⟨j, hj, rfl, rfl, hown, hB, hH, hnb⟩ := hrel
    have hj63 : (j : Int) + 1 ≤ 1001 := by omega
    by_cases hlt : j < kids.length
    · have hltd : decide ((j : Int) < (kids.length : Int)) = true := by simp; omega
      obtain ⟨b', o', A', cap', hbo, _, k0, k1, k2, k3, hv⟩ := (hkids.keep fun b hlt _ => hB.block b hlt).kid j hlt
      obtain ⟨rfl, rfl⟩ : b = b' ∧ o = o' := by simpa using hbo
      clear hbo
      have hBa : Below w.heap.size w (wr.alloc (.cells #[.int .u8 kids[j].k, .int .u64 kids[j].n, .string kids[j].s, .slice A' kids[j].kids.length cap'] 25)) := hB.alloc hB.size _
      have hcall := ih _ (List.getElem_mem hlt) S _ _ (hw.below hBa) (hv.keep fun b hb _ => ((Below.refl _ wr).alloc (Nat.le_refl _) (.cells #[.int .u8 kids[j].k, .int .u64 kids[j].n, .string kids[j].s, .slice A' kids[j].kids.length cap'] 25)).block b hb)
      have hTn := tellsAll_take kids j hlt
      have hWn := writs_at F H kids j hlt
      have HWN := Lib.hid hWn
      clear hWn
      unfold WrR at hcall
      go_wp2_with fail
      refine hcall.mono ?_
      rintro _ w1 ⟨rfl, hb1⟩
      have hB1 := hBa.trans (hb1.mono hBa.size)
      have hown1 := own_keep' hown (fun k hk => (((Below.refl _ wr).alloc (Nat.le_refl _) (.cells #[.int .u8 kids[j].k, .int .u64 kids[j].n, .string kids[j].s, .slice A' kids[j].kids.length cap'] 25)).trans (hb1.mono (by simp))).block k (own_lt hown hk))
      have hH1 := (((Below.refl _ wr).alloc (Nat.le_refl _) (.cells #[.int .u8 kids[j].k, .int .u64 kids[j].n, .string kids[j].s, .slice A' kids[j].kids.length cap'] 25)).trans (hb1.mono (by simp))).block _ (Array.getElem?_eq_some_iff.1 hH).1 |>.trans hH
      clear hcall k0 k1 k2 k3 hv hB hown hH hb1 hBa
      generalize kids[j] = vj at *
      obtain ⟨ta, hta⟩ : ∃ ta, tellsAll (kids.take j) = ta := ⟨_, rfl⟩
      rw [hta]
      rw [hta] at hTn
      have HTN := Lib.hid hTn
      clear hta hTn
      cases ta
      all_goals
        go_wp2_with (at_builtin; refine Hid.out ?_)
        refine Lib.hid ?_
        refine wpList_append_own_at _ rfl _ _ 32 rfl w.heap.size 9 i0 (.string ByteArray.empty) 1 16 Tryz.underlying32 hi0 hz0 hz1 hz2 rfl (by decide) _ _ _ rfl (hown1.alloc _) ⟨_, 0, none⟩ 1 1 [.string (bs (writ F H vj))] rfl rfl (cell_one_new _ _ _) (by simp [Value.oneCell']) (by unfold maxLen; omega) (by omega) (by have := hB1.size; simp; omega) ?_
        intro v1 w2 ho hg _ ha
        have hB2 : Below w.heap.size w w2 := (hB1.alloc hB1.size _).grown hg (by have := hB1.size; simp; omega) (fun k hk => own_base' hown1 hk)
        have hH2 := (hg.block w.heap.size (by have := hB1.size; simp; omega) (fun hc => hnb hc.symm)).trans ((Below.heap_alloc w1 (.cells #[.string (bs (writ F H vj))] 9) _ (Array.getElem?_eq_some_iff.1 hH1).1).trans hH1)
        go_wp2_with fail
        go_roundw
        case rel =>
          refine ⟨j + 1, hlt, by rw [HTN.out]; first | rfl | simp, by go_num, ?_, hB2, hH2, ?_⟩
          · rw [HWN.out, List.map_append]
            exact ho
          · rcases ha with ha | ha
            · rw [ha]; exact hnb
            · rw [ha]; intro hc; have := hB1.size; simp at hc; omega
        case measure => simp [intOf]; omega
    · obtain rfl : kids.length = j := by omega
      have hltd : decide ((kids.length : Int) < (kids.length : Int)) = false := by simp
      have hsl := writs_length F H kids
      rw [List.take_of_length_le (by omega)] at hown
      obtain ⟨p0, p1, p2, p3⟩ := four_cells hH
      have hwr := writ_str F H n s0 kids
      have htl : tells (.mk 40 n s0 kids) = tellsAll kids := by simp [tells, hk0]
      have hsM : ∀ s ∈ writs F H kids, s.length ≤ 5000000 := by
        intro s hs
        rw [writs_eq] at hs
        obtain ⟨v, hv, rfl⟩ := List.mem_map.1 hs
        exact hwl v hv
      rw [← hsl] at hown
      have HWR := Lib.hid hwr
      have HTL := Lib.hid htl
      have HSL := Lib.hid hsl
      clear hwr htl hnb
      obtain ⟨g, capg, cur, rfl, hgB, hgr, htk, hcs⟩ := strs_at hown (by omega)
      have HTK := Lib.hid htk
      clear htk
      have hgq := hgr
      have hHq := hH
      have hBq := hB
      have hwr2 : writ F H (.mk 40 n s0 kids) = 40 :: (fieldsT (writs F H kids) ++ [41]) := HWR.out
      have HWR := Lib.hid hwr2
      clear hwr2
      have htk2 := HTK.out
      have hsM2 := hsM
      rw [hsl]
      generalize writs F H kids = dd at *
      obtain ⟨cur2, hcu⟩ : ∃ c2, c2 = cur := ⟨_, rfl⟩
      rw [← hcu] at hgq htk2
      have hdl : dd.length = kids.length := hsl
      have hjl := fieldsT_take_len dd 5000000 hsM2
      have HDL := Lib.hid hdl
      have HTK2 := Lib.hid htk2
      clear hsl hcs htk2
      have htk2 := HTK2.out
      have HTKx := Lib.hid htk2
      clear htk2 hcu
      go_wp2_with fail
      go_loopw [15, 146] (fun out i wq => ∃ j : Nat, j ≤ kids.length ∧ i = .int .i64 j ∧ out = .string (bs (40 :: fieldsT (dd.take j))) ∧ Below w.heap.size w wq ∧ wq.heap[g]? = some (.cells cur2 9 (0, 0)) ∧ wq.heap[w.heap.size]? = some (.cells #[.int .u8 40, .int .u64 n, .string s0, .slice (some ⟨b, o, none⟩) kids.length cap] 25 (0, 0))) (fun _ i _ => kids.length - (intOf i).toNat)
      case atStart => exact ⟨0, Nat.zero_le _, rfl, rfl, hBq, hgq, hHq⟩
      case round =>
        obtain ⟨j, hj, rfl, rfl, hB2, hg2, hH2⟩ := hrel
        have hj63 : (j : Int) + 1 ≤ 1001 := by omega
        have hjl1 := hjl j
        have hjl2 : j * (5000000 + 2) ≤ 1000 * (5000000 + 2) := Nat.mul_le_mul_right _ (by omega)
        have hjb : (fieldsT (dd.take j)).length ≤ 6000000000 := by omega
        clear hjl1 hjl2
        obtain ⟨p0, p1, p2, p3⟩ := four_cells hH2
        by_cases hlt : j < kids.length
        · have hltd : decide ((j : Int) < (kids.length : Int)) = true := by simp; omega
          have k0 := str_cell hg2 HTKx.out j (by rw [HDL.out]; exact hlt)
          have hdj := hsM2 _ (List.getElem_mem (show j < dd.length by rw [HDL.out]; exact hlt))
          have hsn : fieldsT (dd.take (j + 1)) = fieldsT (dd.take j) ++ ((if j = 0 then [] else [32]) ++ (dd[j]'(by rw [HDL.out]; exact hlt) ++ [44])) := by
            rw [List.take_succ_eq_append_getElem (show j < dd.length by rw [HDL.out]; exact hlt), fieldsT_snoc, List.length_take, Nat.min_eq_left (by have := HDL.out; omega)]
          have HSN := Lib.hid hsn
          clear hsn
          generalize dd[j]'(by rw [HDL.out]; exact hlt) = sj at *
          by_cases h0 : j = 0
          · subst h0
            have hz : (fieldsT ([] : List (List UInt8))).length = 0 := rfl
            go_wp2_with fail
            go_roundw
            case rel =>
              refine ⟨1, by omega, rfl, ?_, hB2, hg2, hH2⟩
              congr 1
              refine ba_ext ?_
              rw [HSN.out]
              simp [bs]
            case measure => simp [intOf]; omega
          · have hgt : decide ((j : Int) > 0) = true := by simp; omega
            have hgt2 : decide (0 < j) = true := by simp; omega
            have HSN := HSN.out
            rw [if_neg h0] at HSN
            have HSN := Lib.hid HSN
            go_wp2_with fail
            go_roundw
            case rel =>
              refine ⟨j + 1, hlt, by go_num, ?_, hB2, hg2, hH2⟩
              congr 1
              refine ba_ext ?_
              rw [HSN.out]
              simp [bs]
            case measure => simp [intOf]; omega
        · obtain rfl : kids.length = j := by omega
          have hltd : decide ((kids.length : Int) < (kids.length : Int)) = false := by simp
          have htk3 : dd.take kids.length = dd := List.take_of_length_le (by rw [HDL.out]; exact Nat.le_refl _)
          have HTK3 := Lib.hid htk3
          clear htk3
          go_wp2_with fail
          go_ret2
          refine ⟨?_, hB2⟩
          rw [HWR.out, HTL.out]
          have hs : (bs (40 :: fieldsT (dd.take kids.length)) ++ { data := #[41] } : ByteArray) = bs (40 :: (fieldsT dd ++ [41])) := ba_ext (by rw [HTK3.out]; simp [bs])
          have hex : ({ data := #[40, 41] } : ByteArray).extract 1 2 = { data := #[41] } := by decide
          show Ending.returned (.tuple #[.string (bs (40 :: fieldsT (dd.take kids.length)) ++ ({ data := #[40, 41] } : ByteArray).extract 1 2), .bool (tellsAll (kids.take kids.length))]) = _
          rw [hex, ← hs, List.take_length]

end Go.Proofs.YtjbpphomlmlmaaaGreatDoor

/- What the reference writes of a value: all kinds. -/
namespace Go.Proofs.YtjbpphomlmlmaaaGreatDoor
open Go.RowKit
set_option linter.unusedVariables false
set_option linter.unusedSimpArgs false
theorem wro_num {F H : Nat → List UInt8} (hF : FH F H) {k n : Int} {s : ByteArray} (hk : k = 121 ∨ k = 98 ∨ k = 110 ∨ k = 113 ∨ k = 105 ∨ k = 117 ∨ k = 120 ∨ k = 116 ∨ k = 100 ∨ k = 104) (hr : inRangeB k n = true ∧ s.size = 0) (h0 : 0 ≤ n) (h1 : n < 18446744073709551616) (hf : k = 100 → finB n.toNat = true) :
    WrOk F H (.mk k n s []) := by
  intro S x w hw hrep
  simp only [Rep] at hrep
  obtain ⟨A, cap, rfl, _⟩ := hrep
  unfold WrR
  rw [writ_num F H hk]
  have hnn : ((n.toNat : Nat) : Int) = n := by omega
  have hw64 : (n + 9223372036854775808) % 18446744073709551616 - 9223372036854775808 = sgn n := by
    have := (wrap_x h0 h1).1
    unfold wrap64 at this
    exact this
  have hu : ∀ w', Below w.heap.size w w' → Calls Tryz.prog 32 #[.int .u64 n, .int .i64 10] w' fun e w'' => e = .returned (.string ⟨(Lib.decDigits n.toNat).toArray⟩) ∧ Below w'.heap.size w' w'' := fun w' hb => by
    have := fu10 n.toNat (by omega) w' (hw.below hb).base.pow
    rw [hnn] at this
    exact this
  have hi : ∀ w', Below w.heap.size w w' → Calls Tryz.prog 33 #[.int .i64 (sgn n), .int .i64 10] w' fun e w'' => e = .returned (.string ⟨(Lib.itoa (sgn n)).toArray⟩) ∧ Below w'.heap.size w' w'' := fun w' hb => by
    have e1 := wrap_x h0 h1
    refine (Tryz.strconv_FormatInt_10 (sgn n) (by omega) (by omega) _ (hw.below hb).base.pow).mono ?_
    rintro _ w3 ⟨rfl, hb3⟩
    exact ⟨rfl, below_grow hb3⟩
  rcases hk with rfl | rfl | rfl | rfl | rfl | rfl | rfl | rfl | rfl | rfl
  · have e1 := wrap_y h0 hr.1
    refine (wr_byte n s _ (H n.toNat) (hF.hlen _) w fun w' hb => ?_).mono ?_
    · have := hF.h n.toNat (by omega) w' (hw.below hb)
      rw [hnn] at this
      exact this
    · rintro _ w' ⟨rfl, hb⟩
      exact ⟨rfl, hb⟩
  · have hn2 : n = 0 ∨ n = 1 := by have h2 := hr.1; simp [inRangeB] at h2; omega
    refine (wr_bool n s _ hn2 w).mono ?_
    rintro _ w' ⟨rfl, hb⟩
    exact ⟨rfl, hb⟩
  · refine (wr_int 110 n (.inl rfl) (sgn n) (by rw [IntKind.wrap_i64]; exact hw64) s _ _ w hi).mono ?_
    rintro _ w' ⟨rfl, hb⟩
    exact ⟨rfl, hb⟩
  · refine (wr_uint 113 n (.inl rfl) s _ _ w hu).mono ?_
    rintro _ w' ⟨rfl, hb⟩
    exact ⟨rfl, hb⟩
  · refine (wr_int 105 n (.inr (.inl rfl)) (sgn n) (by rw [IntKind.wrap_i64]; exact hw64) s _ _ w hi).mono ?_
    rintro _ w' ⟨rfl, hb⟩
    exact ⟨rfl, hb⟩
  · refine (wr_uint 117 n (.inr (.inl rfl)) s _ _ w hu).mono ?_
    rintro _ w' ⟨rfl, hb⟩
    exact ⟨rfl, hb⟩
  · refine (wr_int 120 n (.inr (.inr rfl)) (sgn n) (by rw [IntKind.wrap_i64]; exact hw64) s _ _ w hi).mono ?_
    rintro _ w' ⟨rfl, hb⟩
    exact ⟨rfl, hb⟩
  · refine (wr_uint 116 n (.inr (.inr (.inl rfl))) s _ _ w hu).mono ?_
    rintro _ w' ⟨rfl, hb⟩
    exact ⟨rfl, hb⟩
  · refine (wr_float n s _ (F n.toNat) w fun w' hb => hF.f n.toNat (by omega) (hf rfl) w' (hw.below hb)).mono ?_
    rintro _ w' ⟨rfl, hb⟩
    exact ⟨rfl, hb⟩
  · refine (wr_uint 104 n (.inr (.inr (.inr rfl))) s _ _ w hu).mono ?_
    rintro _ w' ⟨rfl, hb⟩
    exact ⟨rfl, hb⟩
theorem wro_txt {F H : Nat → List UInt8} {k n : Int} {s : ByteArray} (hk : k = 115 ∨ k = 111 ∨ k = 103) (hr : s.size ≤ 65536) : WrOk F H (.mk k n s []) := by
  intro S x w hw hrep
  simp only [Rep] at hrep
  obtain ⟨A, cap, rfl, _⟩ := hrep
  unfold WrR
  rw [writ_txt F H hk]
  refine (wr_text k n hk s _ (quoteT s) w fun w' hb => Tryz.strconv_Quote Lib.goPrintTabs s w' (by omega) (hw.below hb).base.print (hw.below hb).base.utf8).mono ?_
  rintro _ w' ⟨rfl, hb⟩
  refine ⟨?_, hb⟩
  rcases hk with rfl | rfl | rfl <;> rfl
theorem wro_empty {F H : Nat → List UInt8} (n : Int) (c : UInt8) (r : List UInt8) : WrOk F H (.mk 97 n (bs (c :: r)) []) := by
  intro S x w hw hrep
  simp only [Rep] at hrep
  obtain ⟨A, cap, rfl, _⟩ := hrep
  unfold WrR
  refine (wr_empty n c r A cap w).mono ?_
  rintro _ w' ⟨rfl, hb⟩
  refine ⟨?_, hb⟩
  have ht : tells (.mk 97 n (bs (c :: r)) []) = false := by simp [tells]
  rw [writ_arr, ht]
  by_cases hc : c = 123
  · subst hc
    rw [if_pos rfl, if_pos (show (bs (123 :: r)).data.toList.head? = some 123 from rfl)]
    simp [writs, joinT]
  · rw [if_neg hc, if_neg (by simp [bs, hc])]
    simp [writs, joinT]
theorem wr_calls {F H : Nat → List UInt8} (hF : FH F H) {v : V} {t : Ty} (h : HT v t) : t.ok 32 32 32 → t.sig.length ≤ 255 → v.txt ≤ 65536 → v.cnt ≤ 1000 → WrOk F H v := by
  induction h with
  | num k n s hk hr h0 h1 hf => exact fun _ _ _ _ => wro_num hF hk hr h0 h1 hf
  | txt k n s hk hr => exact fun _ _ _ _ => wro_txt hk hr.1
  | var n s v t hv hok h255 hke hs ih =>
    intro _ _ ht hc
    have hk := txt_kid (List.mem_singleton.2 rfl) ht hc
    exact wr_var hF n s v t hv h255 hk.1 hk.2 (ih hok h255 hk.1 hk.2)
  | str n s kids ts hne hlen hl hk ih =>
    intro hok h255 ht hc
    simp only [Ty.ok] at hok
    have hget : ∀ c ∈ kids, ∃ (j : Nat) (t : Ty), kids[j]? = some c ∧ ts[j]? = some t := fun c hc => by
      obtain ⟨j, hj, rfl⟩ := List.mem_iff_getElem.1 hc
      exact ⟨j, ts[j]'(by omega), List.getElem?_eq_getElem hj, List.getElem?_eq_getElem (by omega)⟩
    refine wr_str n s kids hne hlen (fun v hv => ?_) (fun v hv => ?_)
    · obtain ⟨j, t, h1, h2⟩ := hget v hv
      have hkk := txt_kid hv ht hc
      have := wl_of hF (hk j v t h1 h2) hkk.1 hkk.2
      omega
    · obtain ⟨j, t, h1, h2⟩ := hget v hv
      have hm := List.mem_of_getElem? h2
      have hkk := txt_kid hv ht hc
      refine ih j v t h1 h2 (Ty.ok_mono (oks_mem hok.2.2.2.2 t hm) (by omega) (by omega) (by omega)) ?_ hkk.1 hkk.2
      have := sig_mem_len hm
      simp only [Ty.sig, List.length_cons, List.length_append, List.length_nil] at h255
      omega
  | arr n s kids e hs hsz hlen hp hke hk ih =>
    intro hok h255 ht hc
    simp only [Ty.ok] at hok
    simp only [Ty.sig, List.length_cons] at h255
    have hoke : e.ok 32 32 32 := Ty.ok_mono hok.2.2.2 (by omega) (by omega) (by omega)
    obtain rfl : s = bs e.sig := ba_ext (by rw [hs]; rfl)
    obtain ⟨c, r, hcr, _, _, h123⟩ := Ty.sig_head (t := e) hp
    rw [hcr]
    by_cases hne : kids = []
    · subst hne
      exact wro_empty n c r
    · refine wr_lst n c r h123 kids hne hlen (fun v hv => ?_) (fun v hv => ih v hv hoke (by omega) (txt_kid hv ht hc).1 (txt_kid hv ht hc).2)
      have := wl_of hF (hk v hv) (txt_kid hv ht hc).1 (txt_kid hv ht hc).2
      omega
  | dict n s kids kc e hs hsz hlen hkc hkb hp hke hfr hen ha hb iha ihb =>
    intro hok h255 ht hc
    simp only [Ty.ok] at hok
    simp only [Ty.sig, List.length_cons, List.length_append, List.length_nil] at h255
    have hoke : e.ok 32 32 32 := Ty.ok_mono hok.2.2.2.2 (by omega) (by omega) (by omega)
    obtain rfl : s = bs (123 :: kc :: (e.sig ++ [125])) := ba_ext (by rw [hs]; rfl)
    by_cases hne : kids = []
    · subst hne
      exact wro_empty n 123 _
    · refine wr_dct n _ kids hne hlen (fun v hv => ?_) (fun v hv => ?_)
      · obtain ⟨n', s', a, b, rfl⟩ := hen v hv
        have hkk := txt_kid hv ht hc
        have hka := txt_kid (v := a) (List.mem_cons_self ..) hkk.1 hkk.2
        have hkb' := txt_kid (v := b) (List.mem_cons_of_mem _ (List.mem_singleton.2 rfl)) hkk.1 hkk.2
        have e1 := wl_of hF (ha n' s' a b hv) hka.1 hka.2
        have e2 := wl_of hF (hb n' s' a b hv) hkb'.1 hkb'.2
        rw [writ_ent]
        simp only [List.length_append, List.length_cons]
        omega
      · obtain ⟨n', s', a, b, rfl⟩ := hen v hv
        have hkk := txt_kid hv ht hc
        have hka := txt_kid (v := a) (List.mem_cons_self ..) hkk.1 hkk.2
        have hkb' := txt_kid (v := b) (List.mem_cons_of_mem _ (List.mem_singleton.2 rfl)) hkk.1 hkk.2
        exact wr_ent n' s' a b (wl_of hF (ha n' s' a b hv) hka.1 hka.2) (wl_of hF (hb n' s' a b hv) hkb'.1 hkb'.2) (iha n' s' a b hv ⟨hkb, by omega, by omega, by omega⟩ (by simp [Ty.sig]) hka.1 hka.2) (ihb n' s' a b hv hoke (by omega) hkb'.1 hkb'.2)
end Go.Proofs.YtjbpphomlmlmaaaGreatDoor

/- The law FnVtString answers true. -/
namespace Go.Proofs.YtjbpphomlmlmaaaGreatDoor
open Go.RowKit
set_option linter.unusedVariables false
set_option linter.unusedSimpArgs false
set_option maxRecDepth 100000 in
set_option maxHeartbeats 6400000 in
theorem string_walk (G : Prop) (k n : Int) (s : ByteArray) (A : Option Addr) (m cap : Nat) (q : List UInt8) (w : World)
    (h7 : ∀ w', Below w.heap.size w w' → Calls Tryz.prog 7 #[.agg #[.int .u8 k, .int .u64 n, .string s, .slice A m cap]] w' (Tells True w'))
    (h8 : ∀ w', Below w.heap.size w w' → Calls Tryz.prog 8 #[.agg #[.int .u8 k, .int .u64 n, .string s, .slice A m cap]] w' (Tells G w'))
    (h9 : G → ∀ w', Below w.heap.size w w' → Calls Tryz.prog 9 #[.agg #[.int .u8 k, .int .u64 n, .string s, .slice A m cap]] w' fun e w1 => e = .returned (.tuple #[.string (bs q), .bool true]) ∧ Below w'.heap.size w' w1)
    (h13 : G → ∀ w', Below w.heap.size w w' → Calls Tryz.prog 13 #[.agg #[.int .u8 k, .int .u64 n, .string s, .slice A m cap]] w' fun e w1 => e = .returned (.string (bs q)) ∧ Below w'.heap.size w' w1) :
    Calls Tryz.prog 5 #[.agg #[.int .u8 k, .int .u64 n, .string s, .slice A m cap]] w fun e w' => e = .returned (.bool true) ∧ Below w.heap.size w w' := by
  have hB0 : Below w.heap.size w (w.alloc (.cells #[.int .u8 k, .int .u64 n, .string s, .slice A m cap] 25)) := (Below.refl w.heap.size w).alloc (Nat.le_refl _) _
  have hH0 := heap_alloc_new w (.cells #[.int .u8 k, .int .u64 n, .string s, .slice A m cap] 25)
  have hS0 : w.heap.size < (w.alloc (.cells #[.int .u8 k, .int .u64 n, .string s, .slice A m cap] 25)).heap.size := by simp
  go_enter Tryz.func5, Tryz.ntmps5
  go_wp2_with fail
  refine (h7 _ hB0).mono ?_
  rintro _ w1 ⟨b1, rfl, _, hb1⟩
  have hB1 := hB0.trans (hb1.mono hB0.size)
  have hH1 := (hb1.block _ hS0).trans hH0
  have hS1 := Nat.lt_of_lt_of_le hS0 hb1.size
  clear h7 hb1
  obtain ⟨p0, p1, p2, p3⟩ := four_cells hH1
  cases b1
  · go_wp2_with fail
    go_ret
    exact ⟨rfl, hB1⟩
  go_wp2_with fail
  refine (h8 _ hB1).mono ?_
  rintro _ w2 ⟨b2, rfl, hG, hb2⟩
  have hB2 := hB1.trans (hb2.mono hB1.size)
  have hH2 := (hb2.block _ hS1).trans hH1
  have hS2 := Nat.lt_of_lt_of_le hS1 hb2.size
  clear h8 hb2 p0 p1 p2 p3
  obtain ⟨p0, p1, p2, p3⟩ := four_cells hH2
  cases b2
  · go_wp2_with fail
    go_ret
    exact ⟨rfl, hB2⟩
  have hG' := hG rfl
  clear hG
  go_wp2_with fail
  refine (h9 hG' _ hB2).mono ?_
  rintro _ w3 ⟨rfl, hb3⟩
  have hB3 := hB2.trans (hb3.mono hB2.size)
  have hH3 := (hb3.block _ hS2).trans hH2
  have hS3 := Nat.lt_of_lt_of_le hS2 hb3.size
  clear h9 hb3 p0 p1 p2 p3
  obtain ⟨p0, p1, p2, p3⟩ := four_cells hH3
  go_wp2_with fail
  refine (h13 hG' _ hB3).mono ?_
  rintro _ w4 ⟨rfl, hb4⟩
  have hB4 := hB3.trans (hb4.mono hB3.size)
  go_wp2_with fail
  go_ret
  exact ⟨rfl, hB4⟩
/-- The law FnVtString answers true. -/
theorem vtStringLaw_calls (v : V) (S : Nat → Prop) (x : Value) (w : World) (hw : Base2 w) (hr : Rep S w v x) : Calls Tryz.prog 5 #[x] w fun e w' => e = .returned (.bool true) ∧ Below w.heap.size w w' := by
  obtain ⟨F, H, hF⟩ := fh_exists
  have hr0 := hr
  have hkeep : ∀ w', Below w.heap.size w w' → Rep S w' v x := fun w' hb => hr0.keep fun b hlt _ => hb.block b hlt
  have hx : ∃ k n s A m cap, x = .agg #[.int .u8 k, .int .u64 n, .string s, .slice A m cap] := by
    obtain ⟨k, n, s, kids⟩ := v
    simp only [Rep] at hr
    obtain ⟨A, cap, rfl, _⟩ := hr
    exact ⟨k, n, s, A, kids.length, cap, rfl⟩
  obtain ⟨k, n, s, A, m, cap, rfl⟩ := hx
  refine string_walk (Good v) k n s A m cap (textOf v (writ F H v)) w (fun w' hb => fits_calls v S _ w' (hkeep w' hb)) (fun w' hb => prints_calls v S _ w' (hw.below hb).base (hkeep w' hb)) ?_ ?_
  · intro hg w' hb
    obtain ⟨t, h, hok, h255, ht, hc⟩ := good_of hr0 hg
    exact vtString_calls hF h hok h255 ht hc S _ w' (hw.below hb) (hkeep w' hb)
  · intro hg w' hb
    obtain ⟨t, h, hok, h255, ht, hc⟩ := good_of hr0 hg
    exact text_calls hF (wr_calls hF h hok h255 ht hc) h h255 ht hc S _ w' (hw.below hb) (hkeep w' hb)
end Go.Proofs.YtjbpphomlmlmaaaGreatDoor
