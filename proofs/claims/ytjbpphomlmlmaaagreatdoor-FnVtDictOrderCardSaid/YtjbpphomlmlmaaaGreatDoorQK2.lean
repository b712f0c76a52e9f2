/- The tables of the library that the calls read; strings in UTF-8. -/
import Derived.Test.YtjbpphomlmlmaaaGreatDoorQK1
import Derived.Test.YtjbpphomlmlmaaaGreatDoorQShelf
import Derived.Lib.PrintData
namespace Go.Proofs.YtjbpphomlmlmaaaGreatDoor
open Go.RowKit
set_option linter.unusedVariables false
/-- The tables of the library that the calls read, as their text lays them. -/
structure Base (w : World) : Prop where
  utf8 : Lib.Utf8Tabs 2 3 w
  print : Lib.PrintTabsAt 11 12 13 14 Lib.goPrintTabs w
  pow : Lib.TabIs Tryz.prog w "internal/strconv.uint64pow10" .u64 Lib.pow10Tab
theorem tabIs_below {n : String} {g : Nat} {k : IntKind} {zs : List Int} {w w' : World} (hg : Tryz.prog.globalNamed n = some g) (h : Lib.TabIs Tryz.prog w n k zs) (hb : Below w.heap.size w w') : Lib.TabIs Tryz.prog w' n k zs := by
  unfold Lib.TabIs World.var? at h ⊢
  rw [hg] at h ⊢
  simp only [Option.bind_some] at h ⊢
  have hlt : g < w.heap.size := by
    rcases Nat.lt_or_ge g w.heap.size with h' | h'
    · exact h'
    · rw [Array.getElem?_eq_none h'] at h; cases h
  rw [hb.block g hlt]
  exact h
theorem gPow : Tryz.prog.globalNamed "internal/strconv.uint64pow10" = some 4 := by kernel_rfl
theorem Base.below {w w' : World} (h : Base w) (hb : Below w.heap.size w w') : Base w' :=
  ⟨Utf8Tabs_below h.utf8 hb, printTabs_below h.print hb, tabIs_below gPow h.pow hb⟩
theorem utf8Valid_calls (s : ByteArray) (w : World) (hs : s.size ≤ 140737488351232) (hw : Base w) : Calls Tryz.prog 68 #[.string s] w (SomeBoolB w) :=
  (Any.utf8_ValidString Tryz.laysValid s w (by omega) hw.utf8).mono fun e w' ⟨he, hb⟩ => ⟨_, he, hb⟩
set_option maxRecDepth 100000 in
set_option maxHeartbeats 800000 in
theorem validString_calls (s : ByteArray) (w : World) (hs : s.size ≤ 140737488351232) (hw : Base w) : Calls Tryz.prog 40 #[.string s] w (SomeBoolB w) := by
  go_enter Tryz.func40, Tryz.ntmps40
  go_wp2_with fail
  go_loop [3] (fun i => ∃ k : Nat, k ≤ s.size ∧ i = .int .i64 k) (fun i => s.size - (intOf i).toNat)
  case atStart => exact ⟨0, by omega, rfl⟩
  case round =>
    obtain ⟨k, hk, rfl⟩ := hrel
    by_cases hlt : k < s.size
    · go_wp2_with fail
      · go_ret
        exact SomeBoolB.mk _ (Below.refl _ _)
      · go_round
        case rel => exact ⟨k + 1, by omega, by go_num⟩
        case measure => simp [intOf]; omega
    · go_wp2_with (go_at_call 68; refine (utf8Valid_calls s w hs hw).mono ?_; rintro e1 w1 ⟨b, rfl, hb⟩)
      go_ret
      exact SomeBoolB.mk _ hb
end Go.Proofs.YtjbpphomlmlmaaaGreatDoor

/- The contract of 'tidy', part one: texts, numbers, variants. -/
namespace Go.Proofs.YtjbpphomlmlmaaaGreatDoor
open Go.RowKit
set_option linter.unusedVariables false
/-- It answers a bool; where that is true, so is P. -/
def Tells (P : Prop) (w : World) (e : Ending) (w' : World) : Prop := ∃ b : Bool, e = .returned (.bool b) ∧ (b = true → P) ∧ Below w.heap.size w w'
theorem Tells.no {P : Prop} {w w' : World} (h : Below w.heap.size w w') : Tells P w (.returned (.bool false)) w' := ⟨false, rfl, by simp, h⟩
theorem Tells.yes {P : Prop} {w w' : World} {b : Bool} (h : Below w.heap.size w w') (hp : b = true → P) : Tells P w (.returned (.bool b)) w' := ⟨b, rfl, hp, h⟩

theorem cellA {w : World} {a : Addr} {v : Value} (h : w.cell? a = some v) : ∀ o, (w.alloc o).cell? a = some v := fun o => by
  rw [World.cell?_alloc_some w a o (by rw [h]; rfl)]; exact h
/-- A struct of this kind lies in block b. -/
def Box (w : World) (b : Nat) (k n : Int) (s : ByteArray) (A : Option Addr) (len cap : Nat) : Prop :=
  w.heap[b]? = some (.cells #[.int .u8 k, .int .u64 n, .string s, .slice A len cap] 25 (0, 0))
theorem Box.new (w : World) (k n : Int) (s : ByteArray) (A : Option Addr) (len cap : Nat) : Box (w.alloc (.cells #[.int .u8 k, .int .u64 n, .string s, .slice A len cap] 25)) w.heap.size k n s A len cap := heap_alloc_new w _
theorem Box.keep {w w' : World} {b : Nat} {k n : Int} {s : ByteArray} {A : Option Addr} {len cap : Nat} (h : Box w b k n s A len cap) (hb : Below w.heap.size w w') : Box w' b k n s A len cap := by
  have hlt : b < w.heap.size := (Array.getElem?_eq_some_iff.1 h).1
  exact (hb.block b hlt).trans h
theorem Box.cells {w : World} {b : Nat} {k n : Int} {s : ByteArray} {A : Option Addr} {len cap : Nat} (h : Box w b k n s A len cap) :
    w.cell? ⟨b, 0, none⟩ = some (.int .u8 k) ∧ w.cell? ⟨b, 1, none⟩ = some (.int .u64 n) ∧ w.cell? ⟨b, 2, none⟩ = some (.string s) ∧ w.cell? ⟨b, 3, none⟩ = some (.slice A len cap) := by
  refine ⟨?_, ?_, ?_, ?_⟩
  all_goals (rw [cell_of_row _ _ _ _ _ _ h]; rfl)
/- What 'tidy' has looked at. -/
mutual
def Tid : V → Prop
  | .mk k n s kids => inRangeB k n = true ∧ (k ≠ 97 → k ≠ 115 → k ≠ 111 → k ≠ 103 → s.size = 0) ∧
    (if k = 115 ∨ k = 111 ∨ k = 103 then kids = []
     else if k = 97 then (∃ T : Ty, T.plain ∧ 97 :: s.data.toList = T.sig) ∧ TidAll s.data.toList kids
     else if k = 40 ∨ k = 123 then kids ≠ [] ∧ (k = 123 → ∃ a b, kids = [a, b] ∧ basicB a.k = true) ∧ TidFields kids
     else if k = 118 then TidVar kids
     else basicB k = true ∧ kids = [])
def TidAll (l : List UInt8) : List V → Prop
  | [] => True
  | v :: vs => (sigL v = l ∧ Tid v) ∧ TidAll l vs
def TidFields : List V → Prop
  | [] => True
  | v :: vs => (v.k ≠ 123 ∧ Tid v) ∧ TidFields vs
def TidVar : List V → Prop
  | [] => False
  | v :: vs => vs = [] ∧ v.k ≠ 123 ∧ (sigL v).length ≤ 255 ∧ (∃ ts, Ty.oks ts 32 32 32 ∧ sigL v = Ty.sigs ts) ∧ Tid v
end
def TidTop (v : V) : Prop := v.k ≠ 123 ∧ (sigL v).length ≤ 255 ∧ (∃ ts, Ty.oks ts 32 32 32 ∧ sigL v = Ty.sigs ts) ∧ Tid v
theorem TidAll_append (l : List UInt8) (a b : List V) : TidAll l (a ++ b) ↔ TidAll l a ∧ TidAll l b := by
  induction a with
  | nil => simp [TidAll]
  | cons x a ih => simp [TidAll, ih, and_assoc]
theorem TidFields_append (a b : List V) : TidFields (a ++ b) ↔ TidFields a ∧ TidFields b := by
  induction a with
  | nil => simp [TidFields]
  | cons x a ih => simp [TidFields, ih, and_assoc]

/-- What is known of the calls at lighter values. -/
def TidyIH (N : Nat) : Prop := ∀ (v : V), v.wt < N → ∀ (S : Nat → Prop) (x : Value) (w : World), Base w → Rep S w v x → Calls Tryz.prog 24 #[x] w (Tells (Tid v) w)
def TidyTopIH (N : Nat) : Prop := ∀ (v : V), v.wt < N → ∀ (S : Nat → Prop) (x : Value) (w : World), Base w → Rep S w v x → Calls Tryz.prog 17 #[x] w (Tells (TidTop v) w)

set_option maxRecDepth 100000 in
set_option maxHeartbeats 800000 in
theorem tidyTop_of (N : Nat) (hN : N ≤ 1000000) (ih : TidyIH N) : TidyTopIH N := by
  intro v hv S x w hw hr
  have hr0 := hr
  obtain ⟨k, n, s, kids⟩ := v
  have hlen := sigL_len (V.mk k n s kids)
  simp only [Rep] at hr
  obtain ⟨A, cap, rfl, hc1, hc2, hk, hn, hs, hkids⟩ := hr
  cases h123 : (k == 123)
  · have h' : (k != 123) = true := by rw [bne, h123]; rfl
    have hb0 : Below w.heap.size w (w.alloc (.cells #[.int .u8 k, .int .u64 n, .string s, .slice A kids.length cap] 25)) := (Below.refl _ _).alloc (Nat.le_refl _) _
    have X0 := Box.new w k n s A kids.length cap
    go_enter Tryz.func17, Tryz.ntmps17
    go_wp2_with (first
      | (go_at_call 11; refine (sigOf_calls N _ hv hN _ _ _ (hr0.below hb0)).mono ?_; rintro e w1 ⟨rfl, hb1⟩; have hb01 := hb0.trans (hb1.mono (by simp)); have X1 := X0.keep hb1)
      | (go_at_call 23; refine (valid_calls _ (by omega) _).mono ?_; rintro e w2 ⟨ok, rfl, hok, hb2⟩; have HOK := Lib.hid hok; clear hok; have hb02 := hb01.trans (hb2.mono hb01.size); obtain ⟨c20, c21, c22, c23⟩ := (X1.keep hb2).cells)
      | (go_at_call 24; refine (ih _ hv _ _ _ (hw.below hb02) (hr0.below hb02)).mono ?_; rintro e w3 ⟨t, rfl, ht, hb3⟩; have HT := Lib.hid ht; clear ht; have hb03 := hb02.trans (hb3.mono hb02.size)))
    · obtain rfl : ok = true := by assumption
      go_ret
      refine Tells.yes hb03 fun ht => ⟨by simpa [V.k] using h123, ?_, ?_, HT.out ht⟩
      · exact (HOK.out rfl).1
      · exact (HOK.out rfl).2
    · go_ret
      exact Tells.no hb02
  · have h' : (k != 123) = false := by rw [bne, h123]; rfl
    go_enter Tryz.func17, Tryz.ntmps17
    go_wp2_with fail
    go_ret
    exact Tells.no ((Below.refl _ _).alloc (Nat.le_refl _) _)

set_option maxRecDepth 100000 in
set_option maxHeartbeats 1600000 in
theorem tidy_text (k : Int) (hk3 : k = 115 ∨ k = 111 ∨ k = 103) (n : Int) (s : ByteArray) (kids : List V) (hsz : s.size < 1000000) (S : Nat → Prop) (x : Value) (w : World) (hw : Base w) (hr : Rep S w (.mk k n s kids) x) :
    Calls Tryz.prog 24 #[x] w (Tells (Tid (.mk k n s kids)) w) := by
  simp only [Rep] at hr
  obtain ⟨A, cap, rfl, hc1, hc2, hk, hn, hs, hkids⟩ := hr
  have X0 := Box.new w k n s A kids.length cap
  have hb0 : Below w.heap.size w (w.alloc (.cells #[.int .u8 k, .int .u64 n, .string s, .slice A kids.length cap] 25)) := (Below.refl _ _).alloc (Nat.le_refl _) _
  have hw0 := hw.below hb0
  have hbs : (bs s.data.toList) = s := bs_toList s
  have hfin : inRangeB k n = true → kids = [] → Tid (.mk k n s kids) := fun h1 h2 => ⟨h1, fun _ h3 h4 h5 => by omega, by rw [if_pos hk3]; exact h2⟩
  have HFIN := Lib.hid hfin; clear hfin
  have hl0 : ((kids.length : Int) == 0) = true → kids = [] := fun h => List.eq_nil_of_length_eq_zero (by simpa using h)
  have HL0 := Lib.hid hl0; clear hl0
  have hvl := valid_calls s.data.toList (by show s.size < 1000000; omega)
  rw [hbs] at hvl
  have HV := Lib.hid hvl; clear hvl
  cases hIR : inRangeB k n
  all_goals rcases hk3 with rfl | rfl | rfl
  all_goals go_enter Tryz.func24, Tryz.ntmps24
  all_goals go_wp2_with (first
    | (go_at_call 39; refine (inRange_calls _ _ _).mono ?_; rintro e w1 ⟨rfl, rfl⟩)
    | (go_at_call 40; refine (validString_calls s _ (by omega) hw0).mono ?_; rintro e w1 ⟨b1, rfl, hb1⟩; have hb01 := hb0.trans (hb1.mono (by simp)); obtain ⟨c10, c11, c12, c13⟩ := (X0.keep hb1).cells)
    | (go_at_call 41; refine (validPath_calls s _ (by omega)).mono ?_; rintro e w1 ⟨b1, rfl, rfl⟩)
    | (go_at_call 23; refine (HV.out _).mono ?_; rintro e w1 ⟨b1, rfl, _, hb1⟩; have hb01 := hb0.trans (hb1.mono (by simp)); obtain ⟨c10, c11, c12, c13⟩ := (X0.keep hb1).cells))
  all_goals go_ret
  all_goals first
    | exact Tells.no hb0
    | exact Tells.no hb01
    | exact Tells.yes hb0 fun h => HFIN.out hIR (HL0.out h)
    | exact Tells.yes hb01 fun h => HFIN.out hIR (HL0.out h)

theorem bne_of {k c : Int} (h : k ≠ c) : (k == c) = false ∧ (k != c) = true := by
  have : (k == c) = false := by simpa using h
  exact ⟨this, by rw [bne, this]; rfl⟩
theorem isEmpty_of {s : ByteArray} : s.toList.isEmpty = decide (s.size = 0) := by
  by_cases h : s.size = 0
  · obtain rfl := empty_of_size h
    simp [ByteArray.toList_eq]
  · rw [notEmpty_of_size (by omega)]; simp [h]

set_option maxRecDepth 100000 in
set_option maxHeartbeats 1600000 in
theorem tidy_num (k : Int) (h1 : k ≠ 97) (h2 : k ≠ 115) (h3 : k ≠ 111) (h4 : k ≠ 103) (h5 : k ≠ 40) (h6 : k ≠ 123) (h7 : k ≠ 118) (n : Int) (s : ByteArray) (kids : List V) (S : Nat → Prop) (x : Value) (w : World) (hr : Rep S w (.mk k n s kids) x) :
    Calls Tryz.prog 24 #[x] w (Tells (Tid (.mk k n s kids)) w) := by
  simp only [Rep] at hr
  obtain ⟨A, cap, rfl, hc1, hc2, hk, hn, hs, hkids⟩ := hr
  have hb0 : Below w.heap.size w (w.alloc (.cells #[.int .u8 k, .int .u64 n, .string s, .slice A kids.length cap] 25)) := (Below.refl _ _).alloc (Nat.le_refl _) _
  have hfin : inRangeB k n = true → s.size = 0 → basicB k = true → kids = [] → Tid (.mk k n s kids) := fun g1 g2 g3 g4 => ⟨g1, fun _ _ _ _ => g2, by rw [if_neg (by omega), if_neg h1, if_neg (by omega), if_neg h7]; exact ⟨g3, g4⟩⟩
  have HFIN := Lib.hid hfin; clear hfin
  have hl0 : ((kids.length : Int) == 0) = true → kids = [] := fun h => List.eq_nil_of_length_eq_zero (by simpa using h)
  have HL0 := Lib.hid hl0; clear hl0
  obtain ⟨a1, b1⟩ := bne_of h1
  obtain ⟨a2, b2⟩ := bne_of h2
  obtain ⟨a3, b3⟩ := bne_of h3
  obtain ⟨a4, b4⟩ := bne_of h4
  obtain ⟨a5, b5⟩ := bne_of h5
  obtain ⟨a6, b6⟩ := bne_of h6
  obtain ⟨a7, b7⟩ := bne_of h7
  clear h1 h2 h3 h4 h5 h6 h7
  cases hIR : inRangeB k n
  · go_enter Tryz.func24, Tryz.ntmps24
    go_wp2_with (go_at_call 39; refine (inRange_calls _ _ _).mono ?_; rintro e w1 ⟨rfl, rfl⟩)
    go_ret
    exact Tells.no hb0
  · cases hE : s.toList.isEmpty
    · go_enter Tryz.func24, Tryz.ntmps24
      go_wp2_with (go_at_call 39; refine (inRange_calls _ _ _).mono ?_; rintro e w1 ⟨rfl, rfl⟩)
      go_ret
      exact Tells.no hb0
    · have hs0 : s.size = 0 := by rw [isEmpty_of] at hE; simpa using hE
      cases hB : basicB k
      all_goals go_enter Tryz.func24, Tryz.ntmps24
      all_goals go_wp2_with (first
        | (go_at_call 39; refine (inRange_calls _ _ _).mono ?_; rintro e w1 ⟨rfl, rfl⟩)
        | (go_at_call 43; refine (basic_calls _ _).mono ?_; rintro e w1 ⟨rfl, rfl⟩))
      all_goals go_ret
      · exact Tells.no hb0
      · exact Tells.yes hb0 fun h => HFIN.out hIR hs0 hB (HL0.out h)

set_option maxRecDepth 100000 in
set_option maxHeartbeats 1600000 in
theorem tidy_var (N : Nat) (ih : TidyTopIH N) (n : Int) (s : ByteArray) (kids : List V) (hN : V.wts kids < N) (S : Nat → Prop) (x : Value) (w : World) (hw : Base w) (hr : Rep S w (.mk 118 n s kids) x) :
    Calls Tryz.prog 24 #[x] w (Tells (Tid (.mk 118 n s kids)) w) := by
  simp only [Rep] at hr
  obtain ⟨A, cap, rfl, hc1, hc2, hk, hn, hs, hkids⟩ := hr
  have hb0 : Below w.heap.size w (w.alloc (.cells #[.int .u8 118, .int .u64 n, .string s, .slice A kids.length cap] 25)) := (Below.refl _ _).alloc (Nat.le_refl _) _
  have hfin : inRangeB 118 n = true → s.size = 0 → TidVar kids → Tid (.mk 118 n s kids) := fun g1 g2 g3 => ⟨g1, fun _ _ _ _ => g2, by rw [if_neg (by omega), if_neg (by omega), if_neg (by omega), if_pos rfl]; exact g3⟩
  have HFIN := Lib.hid hfin; clear hfin
  cases hIR : inRangeB 118 n
  · go_enter Tryz.func24, Tryz.ntmps24
    go_wp2_with (go_at_call 39; refine (inRange_calls _ _ _).mono ?_; rintro e w1 ⟨rfl, rfl⟩)
    go_ret
    exact Tells.no hb0
  · cases hE : s.toList.isEmpty
    · go_enter Tryz.func24, Tryz.ntmps24
      go_wp2_with (go_at_call 39; refine (inRange_calls _ _ _).mono ?_; rintro e w1 ⟨rfl, rfl⟩)
      go_ret
      exact Tells.no hb0
    · have hs0 : s.size = 0 := by rw [isEmpty_of] at hE; simpa using hE
      by_cases hl : kids.length = 1
      · obtain ⟨v, rfl⟩ := List.length_eq_one_iff.1 hl
        obtain ⟨b, o, A', cap', rfl, _, h0, h1, h2, h3, hv⟩ := hkids.kid 0 (by simp)
        simp only [Nat.zero_mul, Nat.add_zero, List.getElem_cons_zero] at h0 h1 h2 h3 hv
        have g0 := cellA h0
        have g1 := cellA h1
        have g2 := cellA h2
        have g3 := cellA h3
        have hvw : v.wt < N := by simpa [V.wts] using hN
        go_enter Tryz.func24, Tryz.ntmps24
        go_wp2_with (first
          | (go_at_call 39; refine (inRange_calls _ _ _).mono ?_; rintro e w1 ⟨rfl, rfl⟩)
          | (go_at_call 17; refine (ih _ hvw _ _ _ (hw.below hb0) (hv.below hb0)).mono ?_; rintro e w1 ⟨t, rfl, ht, hb1⟩; have HT := Lib.hid ht; clear ht))
        go_ret
        exact Tells.yes (hb0.trans (hb1.mono (by simp))) fun h => HFIN.out hIR hs0 ⟨rfl, HT.out h⟩
      · have hl' : ((kids.length : Int) == 1) = false := by simp; omega
        go_enter Tryz.func24, Tryz.ntmps24
        go_wp2_with (go_at_call 39; refine (inRange_calls _ _ _).mono ?_; rintro e w1 ⟨rfl, rfl⟩)
        go_ret
        exact Tells.no hb0
end Go.Proofs.YtjbpphomlmlmaaaGreatDoor

/- The contract of 'tidy', part two: arrays. -/
namespace Go.Proofs.YtjbpphomlmlmaaaGreatDoor
open Go.RowKit
set_option linter.unusedVariables false
set_option maxRecDepth 100000 in
set_option maxHeartbeats 3200000 in
theorem tidy_arr (N : Nat) (hN1 : N ≤ 1000000) (ih : TidyIH N) (n : Int) (l : List UInt8) (kids : List V) (hN : l.length + 3 + V.wts kids < N + 1) (S : Nat → Prop) (x : Value) (w : World) (hw : Base w) (hr : Rep S w (.mk 97 n (bs l) kids) x) :
    Calls Tryz.prog 24 #[x] w (Tells (Tid (.mk 97 n (bs l) kids)) w) := by
  simp only [Rep] at hr
  obtain ⟨A, cap, rfl, hc1, hc2, hk, hn, hs, hkids⟩ := hr
  have hb0 : Below w.heap.size w (w.alloc (.cells #[.int .u8 97, .int .u64 n, .string (bs l), .slice A kids.length cap] 25)) := (Below.refl _ _).alloc (Nat.le_refl _) _
  have X0 := Box.new w 97 n (bs l) A kids.length cap
  have hfin : inRangeB 97 n = true → (∃ T : Ty, T.plain ∧ 97 :: l = T.sig) → TidAll l kids → Tid (.mk 97 n (bs l) kids) := fun g1 g2 g3 => ⟨g1, fun h => absurd rfl h, by rw [if_neg (by omega), if_pos rfl]; exact ⟨g2, g3⟩⟩
  have HFIN := Lib.hid hfin; clear hfin
  cases hIR : inRangeB 97 n
  · go_enter Tryz.func24, Tryz.ntmps24
    go_wp2_with (go_at_call 39; refine (inRange_calls _ _ _).mono ?_; rintro e w1 ⟨rfl, rfl⟩)
    go_ret
    exact Tells.no hb0
  · go_enter Tryz.func24, Tryz.ntmps24
    go_wp2_with (first
      | (go_at_call 39; refine (inRange_calls _ _ _).mono ?_; rintro e w1 ⟨rfl, rfl⟩)
      | (go_at_call 42; refine (first_calls l (by omega) _).mono ?_; rintro e w1 ⟨one, rest, ok, rfl, hok, hb1⟩; have HOK := Lib.hid hok; clear hok; have X1 := X0.keep hb1; have hb01 := hb0.trans (hb1.mono (by simp)); obtain ⟨c10, c11, c12, c13⟩ := X1.cells; refine Hid.out ?_))
    cases ok
    · refine Lib.hid ?_
      go_wp2_with fail
      go_ret
      exact Tells.no hb01
    · cases rest with
      | cons c rest =>
        refine Lib.hid ?_
        go_wp2_with fail
        go_ret
        exact Tells.no hb01
      | nil =>
        have h1 := (HOK.out rfl).1
        have h2 := (HOK.out rfl).2 rfl
        clear HOK
        obtain rfl : one = l := by simpa using h1
        have H2 := Lib.hid h2; clear h1 h2
        refine Lib.hid ?_
        go_wp2_with fail
        go_loopw [100] (fun i wr => ∃ j : Nat, j ≤ kids.length ∧ i = .int .i64 j ∧ TidAll one (kids.take j) ∧ Box wr w.heap.size 97 n (bs one) A kids.length cap ∧ Below w.heap.size w wr) (fun i _ => kids.length - (intOf i).toNat)
        case atStart => exact ⟨0, Nat.zero_le _, rfl, by simp [TidAll], X1, hb01⟩
        case round =>
          clear X0 X1 c10 c11 c12 c13 hb0
          obtain ⟨j, hj, rfl, htid, XB, hb⟩ := hrel
          have HTID := Lib.hid htid; clear htid
          have hbs := hb.size
          by_cases hlt : j < kids.length
          · obtain ⟨b, o, A', cap', rfl, _, h0, h1, h2, h3, hv⟩ := (hkids.keep fun b hlt _ => hb.block b hlt).kid j hlt
            have hjN : kids[j].wt < N := by have := wt_kid kids j hlt; omega
            have hb0 : Below wr.heap.size wr ((wr.alloc (.cells #[.int .u8 kids[j].k, .int .u64 kids[j].n, .string kids[j].s, .slice A' kids[j].kids.length cap'] 25)).drew) := ((Below.refl _ _).alloc (Nat.le_refl _) _).drew
            have KB : Box ((wr.alloc (.cells #[.int .u8 kids[j].k, .int .u64 kids[j].n, .string kids[j].s, .slice A' kids[j].kids.length cap'] 25)).drew) wr.heap.size kids[j].k kids[j].n kids[j].s A' kids[j].kids.length cap' := Box.new wr kids[j].k kids[j].n kids[j].s A' kids[j].kids.length cap'
            obtain ⟨k0, k1, k2, k3⟩ := KB.cells
            obtain ⟨x0, x1, x2, x3⟩ := (XB.keep hb0).cells
            cases hq : (sigL kids[j] == one)
            rotate_left
            · have hq' : (sigL kids[j] != one) = false := by rw [bne, hq]; rfl
              go_wp2_with fail
              go_region_held3 (fun w' => w'.cell? ⟨wr.heap.size, 0, none⟩ = some (.int .u8 kids[j].k) ∧ w'.cell? ⟨wr.heap.size, 1, none⟩ = some (.int .u64 kids[j].n) ∧ w'.cell? ⟨wr.heap.size, 2, none⟩ = some (.string kids[j].s) ∧ w'.cell? ⟨wr.heap.size, 3, none⟩ = some (.slice A' kids[j].kids.length cap') ∧ w'.cell? ⟨w.heap.size, 2, none⟩ = some (.string (bs one)))
                (first | exact ⟨k0, k1, k2, k3, x2⟩ | exact ⟨m0, m1, m2, m3, y2⟩ | exact ⟨n0, n1, n2, n3, z2⟩)
                (first
                  | (go_at_call 11; refine (sigOf_calls N kids[j] hjN hN1 _ _ _ (hv.below hb0)).mono ?_; rintro e w2 ⟨rfl, hb2⟩; have KB2 := KB.keep hb2; obtain ⟨m0, m1, m2, m3⟩ := KB2.cells; have XB2 := (XB.keep hb0).keep hb2; obtain ⟨y0, y1, y2, y3⟩ := XB2.cells; have hb02 := hb.trans ((hb0.trans (hb2.mono hb0.size)).mono hbs))
                  | (go_at_call 24; refine (ih kids[j] hjN _ _ _ (hw.below hb02) (hv.below (hb0.trans (hb2.mono hb0.size)))).mono ?_; rintro e w3 ⟨t, rfl, ht, hb3⟩; have HT := Lib.hid ht; clear ht; obtain ⟨n0, n1, n2, n3⟩ := (KB2.keep hb3).cells; have XB3 := XB2.keep hb3; obtain ⟨z0, z1, z2, z3⟩ := XB3.cells; have hb03 := hb02.trans (hb3.mono hb02.size)))
              cases t
              · go_wp2_with fail
                go_ret
                exact Tells.no hb03
              · go_wp2_with fail
                go_roundw
                case rel => exact ⟨j + 1, by omega, by go_num, by rw [List.take_succ_eq_append_getElem hlt, TidAll_append]; exact ⟨HTID.out, ⟨by simpa using hq, HT.out rfl⟩, trivial⟩, XB3, hb03⟩
                case measure => simp [intOf]; omega
            · have hq' : (sigL kids[j] != one) = true := by rw [bne, hq]; rfl
              go_wp2_with fail
              go_region_with (first
                  | (go_at_call 11; refine (sigOf_calls N kids[j] hjN hN1 _ _ _ (hv.below hb0)).mono ?_; rintro e w2 ⟨rfl, hb2⟩; have KB2 := KB.keep hb2; obtain ⟨m0, m1, m2, m3⟩ := KB2.cells; have XB2 := (XB.keep hb0).keep hb2; obtain ⟨y0, y1, y2, y3⟩ := XB2.cells; have hb02 := hb.trans ((hb0.trans (hb2.mono hb0.size)).mono hbs)))
              all_goals go_wp2_with fail
              all_goals go_ret
              all_goals exact Tells.no hb02
          · go_wp2_with fail
            go_ret
            have hjl : j = kids.length := by omega
            subst hjl
            exact Tells.yes hb fun _ => HFIN.out hIR H2.out (by have := HTID.out; rwa [List.take_length] at this)
end Go.Proofs.YtjbpphomlmlmaaaGreatDoor

/- The contract of 'tidy', part three: structs, entries, and all of it. -/
namespace Go.Proofs.YtjbpphomlmlmaaaGreatDoor
open Go.RowKit
set_option linter.unusedVariables false
theorem len2_iff {α : Type} {l : List α} : l.length = 2 ↔ ∃ a b, l = [a, b] := by
  constructor
  · intro h
    match l, h with
    | [a, b], _ => exact ⟨a, b, rfl⟩
  · rintro ⟨a, b, rfl⟩; rfl
set_option maxRecDepth 100000 in
set_option maxHeartbeats 3200000 in
theorem tidy_struct (N : Nat) (ih : TidyIH N) (n : Int) (s : ByteArray) (kids : List V) (hN : V.wts kids < N) (S : Nat → Prop) (x : Value) (w : World) (hw : Base w) (hr : Rep S w (.mk 40 n s kids) x) :
    Calls Tryz.prog 24 #[x] w (Tells (Tid (.mk 40 n s kids)) w) := by
  simp only [Rep] at hr
  obtain ⟨A, cap, rfl, hc1, hc2, hk, hn, hs, hkids⟩ := hr
  have hb0 : Below w.heap.size w (w.alloc (.cells #[.int .u8 40, .int .u64 n, .string s, .slice A kids.length cap] 25)) := (Below.refl _ _).alloc (Nat.le_refl _) _
  have hfin : inRangeB 40 n = true → s.size = 0 → kids ≠ [] → TidFields kids → Tid (.mk 40 n s kids) := fun g1 g2 g3 g4 => ⟨g1, fun _ _ _ _ => g2, by rw [if_neg (by omega), if_neg (by omega), if_pos (by omega)]; exact ⟨g3, fun h => by omega, g4⟩⟩
  have HFIN := Lib.hid hfin; clear hfin
  cases hIR : inRangeB 40 n
  · go_enter Tryz.func24, Tryz.ntmps24
    go_wp2_with (go_at_call 39; refine (inRange_calls _ _ _).mono ?_; rintro e w1 ⟨rfl, rfl⟩)
    go_ret
    exact Tells.no hb0
  · cases hE : s.toList.isEmpty
    · go_enter Tryz.func24, Tryz.ntmps24
      go_wp2_with (go_at_call 39; refine (inRange_calls _ _ _).mono ?_; rintro e w1 ⟨rfl, rfl⟩)
      go_ret
      exact Tells.no hb0
    · have hs0 : s.size = 0 := by rw [isEmpty_of] at hE; simpa using hE
      by_cases hl : kids.length = 0
      · have hl' : ((kids.length : Int) == 0) = true := by simp; exact List.eq_nil_of_length_eq_zero hl
        go_enter Tryz.func24, Tryz.ntmps24
        go_wp2_with (go_at_call 39; refine (inRange_calls _ _ _).mono ?_; rintro e w1 ⟨rfl, rfl⟩)
        go_ret
        exact Tells.no ((Below.refl _ _).alloc (Nat.le_refl _) _)
      · have hl' : ((kids.length : Int) == 0) = false := by rw [beq_eq_false_iff_ne]; omega
        have hne : kids ≠ [] := fun h => hl (by rw [h]; rfl)
        have HNE := Lib.hid hne; clear hne hl
        go_enter Tryz.func24, Tryz.ntmps24
        go_wp2_with (go_at_call 39; refine (inRange_calls _ _ _).mono ?_; rintro e w1 ⟨rfl, rfl⟩)
        go_loopw [145] (fun i wr => ∃ j : Nat, j ≤ kids.length ∧ i = .int .i64 j ∧ TidFields (kids.take j) ∧ Below w.heap.size w wr) (fun i _ => kids.length - (intOf i).toNat)
        case atStart => exact ⟨0, Nat.zero_le _, rfl, by simp [TidFields], hb0⟩
        case round =>
          clear hb0
          obtain ⟨j, hj, rfl, htid, hb⟩ := hrel
          have HTID := Lib.hid htid; clear htid
          have hbs := hb.size
          by_cases hlt : j < kids.length
          · obtain ⟨b, o, A', cap', rfl, _, h0, h1, h2, h3, hv⟩ := (hkids.keep fun b hlt _ => hb.block b hlt).kid j hlt
            have hjN : kids[j].wt < N := by have := wt_kid kids j hlt; omega
            have hb0 : Below wr.heap.size wr (wr.alloc (.cells #[.int .u8 kids[j].k, .int .u64 kids[j].n, .string kids[j].s, .slice A' kids[j].kids.length cap'] 25)) := (Below.refl _ _).alloc (Nat.le_refl _) _
            cases hq : (kids[j].k == 123)
            · go_wp2_with (go_at_call 24; refine (ih kids[j] hjN _ _ _ (hw.below (hb.trans (hb0.mono hbs))) (hv.below hb0)).mono ?_; rintro e w3 ⟨t, rfl, ht, hb3⟩; have HT := Lib.hid ht; clear ht; have hb03 := (hb.trans (hb0.mono hbs)).trans (hb3.mono (by simp; omega)))
              all_goals first
                | (go_ret; exact Tells.no hb03)
                | (have ht1 : t = true := by cases t <;> simp_all
                   subst ht1
                   go_roundw
                   case rel => exact ⟨j + 1, by omega, by go_num, by rw [List.take_succ_eq_append_getElem hlt, TidFields_append]; exact ⟨HTID.out, ⟨by simpa using hq, HT.out rfl⟩, trivial⟩, hb03⟩
                   case measure => simp [intOf]; omega)
            · go_wp2_with fail
              go_ret
              exact Tells.no (hb.trans (hb0.mono hbs))
          · go_wp2_with fail
            go_ret
            have hjl : j = kids.length := by omega
            subst hjl
            exact Tells.yes hb fun _ => HFIN.out hIR hs0 HNE.out (by have := HTID.out; rwa [List.take_length] at this)

set_option maxRecDepth 100000 in
set_option maxHeartbeats 3200000 in
theorem tidy_entry (N : Nat) (ih : TidyIH N) (n : Int) (s : ByteArray) (kids : List V) (hN : V.wts kids < N) (S : Nat → Prop) (x : Value) (w : World) (hw : Base w) (hr : Rep S w (.mk 123 n s kids) x) :
    Calls Tryz.prog 24 #[x] w (Tells (Tid (.mk 123 n s kids)) w) := by
  simp only [Rep] at hr
  obtain ⟨A, cap, rfl, hc1, hc2, hk, hn, hs, hkids⟩ := hr
  have hb0 : Below w.heap.size w (w.alloc (.cells #[.int .u8 123, .int .u64 n, .string s, .slice A kids.length cap] 25)) := (Below.refl _ _).alloc (Nat.le_refl _) _
  have hfin : inRangeB 123 n = true → s.size = 0 → kids ≠ [] → (∃ a b, kids = [a, b] ∧ basicB a.k = true) → TidFields kids → Tid (.mk 123 n s kids) := fun g1 g2 g3 g5 g4 => ⟨g1, fun _ _ _ _ => g2, by rw [if_neg (by omega), if_neg (by omega), if_pos (by omega)]; exact ⟨g3, fun _ => g5, g4⟩⟩
  have HFIN := Lib.hid hfin; clear hfin
  cases hIR : inRangeB 123 n
  · go_enter Tryz.func24, Tryz.ntmps24
    go_wp2_with (go_at_call 39; refine (inRange_calls _ _ _).mono ?_; rintro e w1 ⟨rfl, rfl⟩)
    go_ret
    exact Tells.no hb0
  · cases hE : s.toList.isEmpty
    · go_enter Tryz.func24, Tryz.ntmps24
      go_wp2_with (go_at_call 39; refine (inRange_calls _ _ _).mono ?_; rintro e w1 ⟨rfl, rfl⟩)
      go_ret
      exact Tells.no hb0
    · have hs0 : s.size = 0 := by rw [isEmpty_of] at hE; simpa using hE
      by_cases hl : kids.length = 0
      · have hl' : ((kids.length : Int) == 0) = true := by simp; exact List.eq_nil_of_length_eq_zero hl
        go_enter Tryz.func24, Tryz.ntmps24
        go_wp2_with (go_at_call 39; refine (inRange_calls _ _ _).mono ?_; rintro e w1 ⟨rfl, rfl⟩)
        go_ret
        exact Tells.no ((Below.refl _ _).alloc (Nat.le_refl _) _)
      · have hl' : ((kids.length : Int) == 0) = false := by rw [beq_eq_false_iff_ne]; omega
        have hne : kids ≠ [] := fun h => hl (by rw [h]; rfl)
        have HNE := Lib.hid hne; clear hne
        by_cases h2l : kids.length = 2
        · obtain ⟨va, vb, rfl⟩ := len2_iff.1 h2l
          obtain ⟨b, o, A1, cap1, rfl, _, g0, g1, g2, g3, hva⟩ := hkids.kid 0 (by simp)
          simp only [Nat.zero_mul, Nat.add_zero, List.getElem_cons_zero] at g0 g1 g2 g3 hva
          have g0' := cellA g0
          clear hl h2l
          cases hB : basicB va.k
          · go_enter Tryz.func24, Tryz.ntmps24
            go_wp2_with (first
              | (go_at_call 39; refine (inRange_calls _ _ _).mono ?_; rintro e w1 ⟨rfl, rfl⟩)
              | (go_at_call 43; refine (basic_calls _ _).mono ?_; rintro e w1 ⟨rfl, rfl⟩))
            go_ret
            exact Tells.no ((Below.refl _ _).alloc (Nat.le_refl _) _)
          · have H5 := Lib.hid (⟨va, vb, rfl, hB⟩ : ∃ a b, [va, vb] = [a, b] ∧ basicB a.k = true)
            go_enter Tryz.func24, Tryz.ntmps24
            go_wp2_with (first
              | (go_at_call 39; refine (inRange_calls _ _ _).mono ?_; rintro e w1 ⟨rfl, rfl⟩)
              | (go_at_call 43; refine (basic_calls _ _).mono ?_; rintro e w1 ⟨rfl, rfl⟩))
            clear hB hl' g0 g0' g1 g2 g3 hva
            go_loopw [145] (fun i wr => ∃ j : Nat, j ≤ 2 ∧ i = .int .i64 j ∧ TidFields ([va, vb].take j) ∧ Below w.heap.size w wr) (fun i _ => 2 - (intOf i).toNat)
            case atStart => exact ⟨0, Nat.zero_le _, rfl, by simp [TidFields], (Below.refl _ _).alloc (Nat.le_refl _) _⟩
            case round =>
              clear hb0
              obtain ⟨j, hj, rfl, htid, hb⟩ := hrel
              have HTID := Lib.hid htid; clear htid
              have hbs := hb.size
              by_cases hlt : j < 2
              · have hlt' : j < [va, vb].length := hlt
                obtain ⟨b', o', A', cap', he, _, h0, h1, h2, h3, hv⟩ := (hkids.keep fun b hlt _ => hb.block b hlt).kid j hlt'
                simp only [Option.some.injEq, Addr.mk.injEq, and_true] at he
                obtain ⟨rfl, rfl⟩ := he
                have hjN : [va, vb][j].wt < N := by have := wt_kid [va, vb] j hlt'; omega
                have htk : [va, vb].take (j + 1) = [va, vb].take j ++ [[va, vb][j]] := List.take_succ_eq_append_getElem hlt'
                have HTK := Lib.hid htk; clear htk
                generalize [va, vb][j] = u at h0 h1 h2 h3 hv hjN HTK
                have hb0 : Below wr.heap.size wr (wr.alloc (.cells #[.int .u8 u.k, .int .u64 u.n, .string u.s, .slice A' u.kids.length cap'] 25)) := (Below.refl _ _).alloc (Nat.le_refl _) _
                cases hq : (u.k == 123)
                · go_wp2_with (go_at_call 24; refine (ih u hjN _ _ _ (hw.below (hb.trans (hb0.mono hbs))) (hv.below hb0)).mono ?_; rintro e w3 ⟨t, rfl, ht, hb3⟩; have HT := Lib.hid ht; clear ht; have hb03 := (hb.trans (hb0.mono hbs)).trans (hb3.mono (by simp; omega)))
                  all_goals first
                    | (go_ret; exact Tells.no hb03)
                    | (have ht1 : t = true := by cases t <;> simp_all
                       subst ht1
                       go_roundw
                       case rel => exact ⟨j + 1, by omega, by go_num, by rw [HTK.out, TidFields_append]; exact ⟨HTID.out, ⟨by simpa using hq, HT.out rfl⟩, trivial⟩, hb03⟩
                       case measure => simp [intOf]; omega)
                · go_wp2_with fail
                  go_ret
                  exact Tells.no (hb.trans (hb0.mono hbs))
              · go_wp2_with fail
                go_ret
                have hjl : j = 2 := by omega
                subst hjl
                exact Tells.yes hb fun _ => HFIN.out hIR hs0 HNE.out H5.out HTID.out
        · have h2' : ((kids.length : Int) != 2) = true := by rw [bne_iff_ne]; omega
          go_enter Tryz.func24, Tryz.ntmps24
          go_wp2_with (go_at_call 39; refine (inRange_calls _ _ _).mono ?_; rintro e w1 ⟨rfl, rfl⟩)
          go_ret
          exact Tells.no hb0

theorem tidy_calls (N : Nat) (hN : N ≤ 1000000) : TidyIH N := by
  induction N with
  | zero => intro v h; omega
  | succ N ih =>
    have ih1 := ih (by omega)
    intro v hv S x w hw hr
    obtain ⟨k, n, s, kids⟩ := v
    have hwt := hv
    simp only [V.wt] at hwt
    by_cases h3 : k = 115 ∨ k = 111 ∨ k = 103
    · exact tidy_text k h3 n s kids (by omega) S x w hw hr
    by_cases h97 : k = 97
    · subst h97
      obtain ⟨l, rfl⟩ : ∃ l, s = bs l := ⟨_, (bs_toList s).symm⟩
      exact tidy_arr N (by omega) ih1 n l kids (by simpa using hwt) S x w hw hr
    by_cases h40 : k = 40
    · subst h40
      exact tidy_struct N ih1 n s kids (by omega) S x w hw hr
    by_cases h123 : k = 123
    · subst h123
      exact tidy_entry N ih1 n s kids (by omega) S x w hw hr
    by_cases h118 : k = 118
    · subst h118
      exact tidy_var N (tidyTop_of N (by omega) ih1) n s kids (by omega) S x w hw hr
    exact tidy_num k h97 (by omega) (by omega) (by omega) h40 h123 h118 n s kids S x w hr
theorem tidyTop_calls (N : Nat) (hN : N ≤ 1000000) : TidyTopIH N := tidyTop_of N hN (tidy_calls N hN)
end Go.Proofs.YtjbpphomlmlmaaaGreatDoor

/- The count of a value's parts. -/
namespace Go.Proofs.YtjbpphomlmlmaaaGreatDoor
open Go.RowKit
set_option linter.unusedVariables false
mutual
def V.cnt : V → Nat
  | .mk _ _ _ kids => 1 + V.cnts kids
def V.cnts : List V → Nat
  | [] => 0
  | v :: vs => v.cnt + V.cnts vs
end
mutual
def V.txt : V → Nat
  | .mk _ _ s kids => s.size + V.txts kids
def V.txts : List V → Nat
  | [] => 0
  | v :: vs => v.txt + V.txts vs
end
mutual
theorem wt_eq : ∀ v : V, v.wt = v.txt + 3 * v.cnt
  | .mk k n s kids => by
    have := wts_eq kids
    simp only [V.wt, V.txt, V.cnt]; omega
theorem wts_eq : ∀ l : List V, V.wts l = V.txts l + 3 * V.cnts l
  | [] => by simp [V.wts, V.txts, V.cnts]
  | v :: vs => by
    have h1 := wt_eq v
    have h2 := wts_eq vs
    simp only [V.wts, V.txts, V.cnts]; omega
end
theorem cnts_append (l m : List V) : V.cnts (l ++ m) = V.cnts l + V.cnts m := by
  induction l with
  | nil => simp [V.cnts]
  | cons x l ih => simp [V.cnts, ih]; omega
theorem txts_append (l m : List V) : V.txts (l ++ m) = V.txts l + V.txts m := by
  induction l with
  | nil => simp [V.txts]
  | cons x l ih => simp [V.txts, ih]; omega
theorem cnts_take (l : List V) (j : Nat) (h : j < l.length) : V.cnts (l.take (j + 1)) = V.cnts (l.take j) + l[j].cnt := by
  rw [List.take_succ_eq_append_getElem h, cnts_append]; simp [V.cnts]
theorem txts_take (l : List V) (j : Nat) (h : j < l.length) : V.txts (l.take (j + 1)) = V.txts (l.take j) + l[j].txt := by
  rw [List.take_succ_eq_append_getElem h, txts_append]; simp [V.txts]

/-- But for the blocks p and q (and new ones) the world is as it was. -/
structure But2 (p q : Nat) (w w' : World) : Prop where
  os : w'.os = w.os
  tape : w'.tape = w.tape
  output : w'.output = w.output
  size : w.heap.size ≤ w'.heap.size
  block : ∀ k, k < w.heap.size → k ≠ p → k ≠ q → w'.heap[k]? = w.heap[k]?
theorem But2.refl (p q : Nat) (w : World) : But2 p q w w := ⟨rfl, rfl, rfl, Nat.le_refl _, fun _ _ _ _ => rfl⟩
theorem But2.trans {p q : Nat} {a b c : World} (h : But2 p q a b) (k : But2 p q b c) : But2 p q a c :=
  ⟨k.os.trans h.os, k.tape.trans h.tape, k.output.trans h.output, Nat.le_trans h.size k.size, fun i hi hp hq => (k.block i (Nat.lt_of_lt_of_le hi h.size) hp hq).trans (h.block i hi hp hq)⟩
theorem But2.alloc {p q : Nat} {a w : World} (h : But2 p q a w) (o : Obj) : But2 p q a (w.alloc o) :=
  h.trans ⟨rfl, rfl, rfl, by simp, fun k hk _ _ => Below.heap_alloc _ _ _ (by omega)⟩
theorem But2.drew {p q : Nat} {a w : World} (h : But2 p q a w) : But2 p q a w.drew := ⟨h.os, h.tape, h.output, h.size, h.block⟩
theorem But2.setCell {p q : Nat} {a w : World} (h : But2 p q a w) {b o : Nat} (hb : b = p ∨ b = q) (u : Value) : But2 p q a (w.setCell ⟨b, o, none⟩ u) :=
  h.trans ⟨rfl, rfl, rfl, by simp [World.setCell], fun k hk hp hq => Below.heap_setCell _ _ _ _ (by rcases hb with rfl | rfl <;> assumption)⟩

/-- An int lies in a block of its own. -/
def IntAt (w : World) (b : Nat) (m : Int) : Prop := w.heap[b]? = some (.cells #[.int .i64 m] 3 (0, 0))
theorem IntAt.cell {w : World} {b : Nat} {m : Int} (h : IntAt w b m) : w.cell? ⟨b, 0, none⟩ = some (.int .i64 m) := by rw [cell_of_row _ _ _ _ _ _ h]; rfl
theorem IntAt.free {w : World} {b : Nat} {m : Int} (h : IntAt w b m) : w.frozen? ⟨b, 0, none⟩ = false := by
  unfold IntAt at h
  simp [World.frozen?, h]
theorem IntAt.lt {w : World} {b : Nat} {m : Int} (h : IntAt w b m) : b < w.heap.size := (Array.getElem?_eq_some_iff.1 h).1
theorem IntAt.but {w w' : World} {b p q : Nat} {m : Int} (h : IntAt w b m) (hb : But2 p q w w') (hp : b ≠ p) (hq : b ≠ q) : IntAt w' b m := (hb.block b h.lt hp hq).trans h

theorem IntAt.set {w : World} {b : Nat} {m u : Int} (h : IntAt w b m) : IntAt (w.setCell ⟨b, 0, none⟩ (.int .i64 u)) b u := one_setCell h
theorem IntAt.set_other {w : World} {b c : Nat} {m : Int} (h : IntAt w b m) (hne : b ≠ c) (u : Value) : IntAt (w.setCell ⟨c, 0, none⟩ u) b m := (Below.heap_setCell w ⟨c, 0, none⟩ u b hne).trans h
theorem IntAt.alloc {w : World} {b : Nat} {m : Int} (h : IntAt w b m) (o : Obj) : IntAt (w.alloc o) b m := (Below.heap_alloc w o b h.lt).trans h
theorem count_world {w : World} {bm bz : Nat} {m z : Int} (hM : IntAt w bm m) (hZ : IntAt w bz z) (hne : bm ≠ bz) (u v : Int) (o : Obj) :
    IntAt (((w.setCell ⟨bm, 0, none⟩ (.int .i64 u)).setCell ⟨bz, 0, none⟩ (.int .i64 v)).alloc o).drew bm u ∧ IntAt (((w.setCell ⟨bm, 0, none⟩ (.int .i64 u)).setCell ⟨bz, 0, none⟩ (.int .i64 v)).alloc o).drew bz v ∧
    But2 bm bz w (((w.setCell ⟨bm, 0, none⟩ (.int .i64 u)).setCell ⟨bz, 0, none⟩ (.int .i64 v)).alloc o).drew :=
  ⟨((hM.set.set_other hne _).alloc o : _), ((hZ.set_other (Ne.symm hne) _).set.alloc o : _), ((((But2.refl _ _ _).setCell (.inl rfl) _).setCell (.inr rfl) _).alloc o).drew⟩
/-- What the count answers. -/
def CountR (v : V) (bm bz : Nat) (m z : Int) (w : World) (e : Ending) (w' : World) : Prop :=
  ∃ (ok : Bool) (m' z' : Int), e = .returned (.bool ok) ∧ IntAt w' bm m' ∧ IntAt w' bz z' ∧ (ok = true → m' = m + v.cnt ∧ z' = z + v.txt ∧ m' ≤ 1000 ∧ z' ≤ 65536) ∧ But2 bm bz w w'

set_option maxRecDepth 100000 in
set_option maxHeartbeats 1600000 in
theorem counted_calls (N : Nat) : ∀ (v : V), SizeOf.sizeOf v < N → ∀ (bm bz : Nat) (d m z : Int) (S : Nat → Prop) (x : Value) (w : World), bm ≠ bz → -1 ≤ d → d ≤ 60 → 0 ≤ m → m ≤ 1000 → 0 ≤ z → z ≤ 65536 → IntAt w bm m → IntAt w bz z → (∀ b, S b → b ≠ bm ∧ b ≠ bz) → Rep S w v x →
    Calls Tryz.prog 16 #[x, .int .i64 d, .pointer (some ⟨bm, 0, none⟩), .pointer (some ⟨bz, 0, none⟩)] w (CountR v bm bz m z w) := by
  induction N with
  | zero => intro v h; omega
  | succ N ih =>
    intro v hN bm bz d m z S x w hne hd0 hd1 hm0 hm1 hz0 hz1 hM hZ hS hr
    obtain ⟨k, n, s, kids⟩ := v
    simp only [Rep] at hr
    obtain ⟨A, cap, rfl, hc1, hc2, hk, hn, hs, hkids⟩ := hr
    have cm := hM.cell
    have cz := hZ.cell
    have fm := hM.free
    have fz := hZ.free
    have lm := hM.lt
    have lz := hZ.lt
    go_enter Tryz.func16, Tryz.ntmps16
    go_wp2_with fail
    have hsz : wrap64 (z + ↑s.size) = z + ↑s.size := by unfold wrap64; omega
    obtain ⟨WM, WZ, WB⟩ := count_world hM hZ hne (m + 1) (z + ↑s.size) (.cells #[.int .u8 k, .int .u64 n, .string s, .slice A kids.length cap] 25)
    go_region
    go_wp2_with fail
    all_goals try (go_ret; exact ⟨false, _, _, rfl, WM, WZ, by simp, WB⟩)
    go_loopw [47] (fun i wr => ∃ j : Nat, j ≤ kids.length ∧ i = .int .i64 j ∧ (∃ m' z' : Int, IntAt wr bm m' ∧ IntAt wr bz z' ∧ m' = m + 1 + V.cnts (kids.take j) ∧ z' = z + s.size + V.txts (kids.take j) ∧ m' ≤ 1000 ∧ z' ≤ 65536) ∧ But2 bm bz w wr) (fun i _ => kids.length - (intOf i).toNat)
    case atStart => exact ⟨0, Nat.zero_le _, rfl, ⟨_, _, WM, WZ, by simp [V.cnts], by simp [V.txts], by omega, by omega⟩, WB⟩
    case round =>
      obtain ⟨j, hj, rfl, ⟨m', z', hM', hZ', hm', hz', hm2, hz2⟩, hb⟩ := hrel
      have HM' := Lib.hid hm'
      have HZ' := Lib.hid hz'
      have hm3 : 0 ≤ m' := by omega
      have hz3 : 0 ≤ z' := by omega
      clear hm' hz'
      by_cases hlt : j < kids.length
      · obtain ⟨b, o, A', cap', rfl, hSb, h0, h1, h2, h3, hv⟩ := (hkids.keep fun b hlt hs => hb.block b hlt (hS b hs).1 (hS b hs).2).kid j hlt
        have hsk := sizeOf_kid hN hlt
        go_wp2_with (go_at_call 16; refine (ih kids[j] hsk bm bz _ _ _ S _ _ hne ?_ ?_ hm3 hm2 hz3 hz2 (hM'.alloc _) (hZ'.alloc _) hS (hv.below ((Below.refl _ _).alloc (Nat.le_refl _) _))).mono ?_; omega; omega; rintro e w1 ⟨ok, m1, z1, rfl, hM1, hZ1, hok, hb1⟩; have HOK := Lib.hid hok; clear hok)
        · go_ret
          exact ⟨false, m1, z1, rfl, hM1, hZ1, by simp, (hb.alloc _).trans hb1⟩
        · obtain rfl : ok = true := by cases ok <;> simp_all
          obtain ⟨e1, e2, e3, e4⟩ := HOK.out rfl
          have f1 := HM'.out
          have f2 := HZ'.out
          have c1 := cnts_take kids j hlt
          have c2 := txts_take kids j hlt
          have hrel : ∃ m' z' : Int, IntAt w1 bm m' ∧ IntAt w1 bz z' ∧ m' = m + 1 + V.cnts (kids.take (j + 1)) ∧ z' = z + s.size + V.txts (kids.take (j + 1)) ∧ m' ≤ 1000 ∧ z' ≤ 65536 := ⟨m1, z1, hM1, hZ1, by omega, by omega, e3, e4⟩
          clear e1 e2 f1 f2 c1 c2
          go_roundw
          case rel => exact ⟨j + 1, by omega, by go_num, hrel, (hb.alloc _).trans hb1⟩
          case measure => simp [intOf]; omega
      · go_wp2_with fail
        go_ret
        have hjl : j = kids.length := by omega
        subst hjl
        have e1 := HM'.out
        have e2 := HZ'.out
        rw [List.take_length] at e1 e2
        exact ⟨true, m', z', rfl, hM', hZ', fun _ => ⟨by simp [V.cnt]; omega, by simp [V.txt]; omega, hm2, hz2⟩, hb⟩
end Go.Proofs.YtjbpphomlmlmaaaGreatDoor
