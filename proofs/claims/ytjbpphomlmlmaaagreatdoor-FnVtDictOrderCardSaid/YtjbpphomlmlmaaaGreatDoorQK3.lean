/- Types as texts: the walks of the functions on them. -/
import Derived.Test.YtjbpphomlmlmaaaGreatDoorQK1
import Derived.Defers
import Derived.Recover
namespace Go.Proofs.YtjbpphomlmlmaaaGreatDoor
open Go.RowKit
set_option linter.unusedVariables false
mutual
/-- A type as the program writes it in the place of reflect's. -/
def zty : Ty → List UInt8
  | .basic c => [c]
  | .var => [118]
  | .arr t => 91 :: zty t
  | .dict k t => 123 :: k :: zty t
  | .str ts => 40 :: (ztys ts ++ [41])
def ztys : List Ty → List UInt8
  | [] => []
  | t :: ts => zty t ++ ztys ts
end
mutual
/-- The keys of its dicts are such as the statements speak of. -/
def Ty.keyed : Ty → Prop
  | .basic _ => True
  | .var => True
  | .arr t => t.keyed
  | .dict k t => keyB k.toNat = true ∧ t.keyed
  | .str ts => Ty.keyeds ts
def Ty.keyeds : List Ty → Prop
  | [] => True
  | t :: ts => t.keyed ∧ Ty.keyeds ts
end
/-- What a type begins with. -/
def headC : Ty → UInt8
  | .basic c => c
  | .var => 118
  | .arr _ => 91
  | .dict _ _ => 123
  | .str _ => 40
def heads : List UInt8 := [121, 98, 110, 113, 105, 117, 120, 116, 100, 115, 111, 103, 104, 118, 91, 123, 40]
theorem headC_mem {t : Ty} (h : t.plain) : headC t ∈ heads := by
  cases t with
  | basic c => exact List.mem_append_left [118, 91, 123, 40] (show c ∈ basicL from h)
  | var => decide
  | arr t => simp [headC, heads]
  | dict k t => simp [headC, heads]
  | str ts => simp [headC, heads]
theorem zty_head (t : Ty) : ∃ r, zty t = headC t :: r := by
  cases t with
  | basic c => exact ⟨[], rfl⟩
  | var => exact ⟨[], rfl⟩
  | arr t => exact ⟨_, rfl⟩
  | dict k t => exact ⟨_, rfl⟩
  | str ts => exact ⟨_, rfl⟩
theorem headC_ne {t : Ty} (h : t.plain) : headC t ≠ 41 := by
  have := headC_mem h
  intro hc
  rw [hc] at this
  revert this; decide
mutual
theorem zty_len : ∀ (t : Ty), (zty t).length ≤ t.sig.length
  | .basic c => by simp [zty, Ty.sig]
  | .var => by simp [zty, Ty.sig]
  | .arr t => by have := zty_len t; simp [zty, Ty.sig]; omega
  | .dict k t => by have := zty_len t; simp [zty, Ty.sig]; omega
  | .str ts => by have := ztys_len ts; simp [zty, Ty.sig]; omega
theorem ztys_len : ∀ (ts : List Ty), (ztys ts).length ≤ (Ty.sigs ts).length
  | [] => by simp [ztys]
  | t :: ts => by have := zty_len t; have := ztys_len ts; simp [ztys, Ty.sigs]; omega
end
theorem ztys_append (l m : List Ty) : ztys (l ++ m) = ztys l ++ ztys m := by
  induction l with
  | nil => rfl
  | cons x l ih => simp [ztys, ih]
def kindN (c : UInt8) : Int := if c = 121 then 7 else if c = 98 then 1 else if c = 110 then 3 else if c = 113 then 8 else if c = 105 then 4 else if c = 117 ∨ c = 104 then 9 else if c = 120 then 5 else if c = 116 then 10 else if c = 100 then 11 else if c = 115 ∨ c = 111 then 17 else if c = 91 then 16 else if c = 123 then 14 else 18
set_option maxHeartbeats 3200000 in
theorem kind_calls (c : UInt8) (hc : c ∈ heads) (r : List UInt8) (w : World) : Calls Tryz.prog 72 #[.string (bs (c :: r))] w fun e w' => e = .returned (.int .i64 (kindN c)) ∧ w' = w := by
  simp only [heads, List.mem_cons, List.mem_nil_iff, or_false] at hc
  rcases hc with rfl | rfl | rfl | rfl | rfl | rfl | rfl | rfl | rfl | rfl | rfl | rfl | rfl | rfl | rfl | rfl | rfl
  all_goals
    go_enter Tryz.func72, Tryz.ntmps72
    go_wp2_with fail
    go_ret
    exact ⟨rfl, rfl⟩
theorem bs_ext1 (c : UInt8) (l : List UInt8) : (bs (c :: l)).extract 1 (l.length + 1) = bs l := bs_from (c :: l) 1
theorem bs_ext2 (c d : UInt8) (l : List UInt8) : (bs (c :: d :: l)).extract 2 (l.length + 1 + 1) = bs l := bs_from (c :: d :: l) 2
theorem bs_ext12 (c d : UInt8) (l : List UInt8) : (bs (c :: d :: l)).extract 1 2 = bs [d] := by
  apply ba_ext; simp [bs]
theorem elem_arr (r : List UInt8) (w : World) : Calls Tryz.prog 74 #[.string (bs (91 :: r))] w fun e w' => e = .returned (.string (bs r)) ∧ w' = w := by
  have hx := bs_ext1 91 r
  go_enter Tryz.func74, Tryz.ntmps74
  go_wp2_with (refine (kind_calls _ (by decide) _ _).mono ?_; rintro _ _ ⟨rfl, rfl⟩)
  all_goals first
    | (exfalso; revert ‹(kindN 91 == 14) = true›; decide)
    | (go_ret; exact ⟨rfl, rfl⟩)
theorem elem_dict (d : UInt8) (r : List UInt8) (w : World) : Calls Tryz.prog 74 #[.string (bs (123 :: d :: r))] w fun e w' => e = .returned (.string (bs r)) ∧ w' = w := by
  have hx := bs_ext2 123 d r
  go_enter Tryz.func74, Tryz.ntmps74
  go_wp2_with (refine (kind_calls _ (by decide) _ _).mono ?_; rintro _ _ ⟨rfl, rfl⟩)
  all_goals first
    | (exfalso; revert ‹(kindN 123 == 14) = false›; decide)
    | (exfalso; omega)
    | (go_ret; exact ⟨rfl, rfl⟩)
theorem key_calls (c d : UInt8) (r : List UInt8) (w : World) : Calls Tryz.prog 73 #[.string (bs (c :: d :: r))] w fun e w' => e = .returned (.string (bs [d])) ∧ w' = w := by
  have hx := bs_ext12 c d r
  go_enter Tryz.func73, Tryz.ntmps73
  go_wp2_with fail
  all_goals first
    | (exfalso; omega)
    | (go_ret; exact ⟨rfl, rfl⟩)
theorem sliceOf_calls (l : List UInt8) (hl : l.length < 1000000) (w : World) : Calls Tryz.prog 76 #[.string (bs l)] w fun e w' => e = .returned (.string (bs (91 :: l))) ∧ w' = w := by
  go_enter Tryz.func76, Tryz.ntmps76
  go_wp2_with fail
  all_goals first
    | (exfalso; omega)
    | (go_ret; exact ⟨rfl, rfl⟩)
theorem mapOf_calls (k l : List UInt8) (hk : k.length < 1000000) (hl : l.length < 1000000) (w : World) : Calls Tryz.prog 75 #[.string (bs k), .string (bs l)] w fun e w' => e = .returned (.string (bs (123 :: (k ++ l)))) ∧ w' = w := by
  go_enter Tryz.func75, Tryz.ntmps75
  go_wp2_with fail
  all_goals first
    | (exfalso; omega)
    | (go_ret; exact ⟨congrArg (fun b => Ending.returned (.string b)) (ba_ext (by simp [bs])), rfl⟩)
/-- What 'zzEnd' answers of shorter texts. -/
def EndIH (N : Nat) : Prop := ∀ (t : Ty), t.plain → (zty t).length < N → ∀ (r : List UInt8) (w : World), (zty t).length + r.length < 1000000 → Calls Tryz.prog 175 #[.string (bs (zty t ++ r))] w fun e w' => e = .returned (.int .i64 (zty t).length) ∧ w' = w
set_option maxRecDepth 100000 in
set_option maxHeartbeats 1600000 in
theorem end_arr (N : Nat) (ih : EndIH N) (t : Ty) (ht : t.plain) (hN : (zty t).length < N) (r : List UInt8) (w : World) (hr : (zty t).length + r.length < 999999) :
    Calls Tryz.prog 175 #[.string (bs (91 :: (zty t ++ r)))] w fun e w' => e = .returned (.int .i64 ((zty t).length + 1 : Nat)) ∧ w' = w := by
  have hx := bs_ext1 91 (zty t ++ r)
  simp only [List.length_append] at hx
  go_enter Tryz.func175, Tryz.ntmps175
  go_wp2_with (go_at_call 175; refine (ih t ht hN r _ (by omega)).mono ?_; rintro _ _ ⟨rfl, rfl⟩)
  go_ret
  exact ⟨by go_num, rfl⟩
set_option maxRecDepth 100000 in
set_option maxHeartbeats 1600000 in
theorem end_dict (N : Nat) (ih : EndIH N) (k : UInt8) (t : Ty) (ht : t.plain) (hN : (zty t).length < N) (r : List UInt8) (w : World) (hr : (zty t).length + r.length < 999998) :
    Calls Tryz.prog 175 #[.string (bs (123 :: k :: (zty t ++ r)))] w fun e w' => e = .returned (.int .i64 ((zty t).length + 2 : Nat)) ∧ w' = w := by
  have hx := bs_ext2 123 k (zty t ++ r)
  simp only [List.length_append] at hx
  go_enter Tryz.func175, Tryz.ntmps175
  go_wp2_with (go_at_call 175; refine (ih t ht hN r _ (by omega)).mono ?_; rintro _ _ ⟨rfl, rfl⟩)
  all_goals first
    | (exfalso; omega)
    | (go_ret; exact ⟨by go_num, rfl⟩)
set_option maxRecDepth 100000 in
set_option maxHeartbeats 1600000 in
theorem end_one (c : UInt8) (h1 : c ≠ 91) (h2 : c ≠ 123) (h3 : c ≠ 40) (r : List UInt8) (w : World) :
    Calls Tryz.prog 175 #[.string (bs (c :: r))] w fun e w' => e = .returned (.int .i64 1) ∧ w' = w := by
  have e1 : ((c.toNat : Int) == 91) = false := by simp; exact fun h => h1 (u8_of_int (n := 91) h)
  have e2 : ((c.toNat : Int) == 123) = false := by simp; exact fun h => h2 (u8_of_int (n := 123) h)
  have e3 : ((c.toNat : Int) == 40) = false := by simp; exact fun h => h3 (u8_of_int (n := 40) h)
  go_enter Tryz.func175, Tryz.ntmps175
  go_wp2_with fail
  go_ret
  exact ⟨rfl, rfl⟩
set_option maxRecDepth 100000 in
set_option maxHeartbeats 1600000 in
theorem end_str (N : Nat) (ih : EndIH N) (ts : List Ty) (ht : Ty.plains ts) (hN : (ztys ts).length < N) (r : List UInt8) (w : World) (hr : (ztys ts).length + r.length < 999998) :
    Calls Tryz.prog 175 #[.string (bs (40 :: (ztys ts ++ 41 :: r)))] w fun e w' => e = .returned (.int .i64 ((ztys ts).length + 2 : Nat)) ∧ w' = w := by
  go_enter Tryz.func175, Tryz.ntmps175
  go_wp2_with fail
  go_loopw [3] (fun i wr => ∃ (us vs : List Ty), us ++ vs = ts ∧ i = .int .i64 ((ztys us).length + 1 : Nat) ∧ wr = w) (fun i _ => (ztys ts).length + 1 - (match i with | .int _ n => n.toNat | _ => 0))
  case atStart => exact ⟨[], ts, rfl, rfl, rfl⟩
  case round =>
    obtain ⟨us, vs, hts, rfl, rfl⟩ := hrel
    cases vs with
    | nil =>
      obtain rfl : us = ts := by simpa using hts
      go_wp2_with fail
      all_goals first
        | (exfalso; omega)
        | (go_ret; exact ⟨by go_num, rfl⟩)
    | cons t vs =>
      obtain ⟨q, hq⟩ := zty_head t
      have htp : t.plain := Ty.plains_mem ht t (by rw [← hts]; simp)
      have hL : (ztys ts).length = (ztys us).length + ((zty t).length + (ztys vs).length) := by rw [← hts, ztys_append]; simp [ztys]
      have hLL : ztys ts ++ 41 :: r = ztys us ++ (zty t ++ (ztys vs ++ 41 :: r)) := by rw [← hts, ztys_append]; simp [ztys]
      have hzl : 0 < (zty t).length := by rw [hq]; simp
      have hch : ∀ h : (ztys us).length < (ztys ts ++ 41 :: r).length, (((ztys ts ++ 41 :: r)[(ztys us).length]'h).toNat != (41 : Int)) = true := by
        intro h
        have : (ztys ts ++ 41 :: r)[(ztys us).length]'h = headC t := by
          have h2 : (ztys ts ++ 41 :: r)[(ztys us).length]? = some (headC t) := by rw [hLL, List.getElem?_append_right (Nat.le_refl _), Nat.sub_self, hq]; rfl
          rw [List.getElem?_eq_getElem h] at h2
          exact Option.some.inj h2
        rw [this]
        have := headC_ne htp
        simp
        exact fun hc => this (u8_of_int (n := 41) hc)
      have hx : (bs (40 :: (ztys ts ++ 41 :: r))).extract ((ztys us).length + 1) ((ztys ts).length + (r.length + 1) + 1) = bs (zty t ++ (ztys vs ++ 41 :: r)) := by
        have := bs_from (40 :: (ztys ts ++ 41 :: r)) ((ztys us).length + 1)
        rw [show (40 :: (ztys ts ++ 41 :: r)).length = (ztys ts).length + (r.length + 1) + 1 by simp] at this
        rw [this, hLL]
        simp
      have HTS := Lib.hid hts
      have HL := Lib.hid hL
      clear hts hLL hL hq q
      go_wp2_with (go_at_call 175; refine (ih t htp (by have := HL.out; omega) _ _ (by have := HL.out; simp; omega)).mono ?_; rintro _ _ ⟨rfl, rfl⟩)
      all_goals first
        | (exfalso; have := HL.out; omega)
        | skip
      have hwr : wrap64 ((ztys us).length + 1 + (zty t).length) = ((ztys us).length + 1 + (zty t).length : Nat) := by have := HL.out; unfold wrap64; omega
      go_roundw
      case rel => exact ⟨us ++ [t], vs, by rw [← HTS.out]; simp, by rw [hwr, ztys_append]; simp [ztys]; omega, trivial⟩
      case measure => have := HL.out; rw [hwr]; simp; omega
theorem end_calls (N : Nat) : EndIH N := by
  induction N with
  | zero => intro t ht h; omega
  | succ N ih =>
    intro t ht hN r w hr
    cases t with
    | basic c =>
      have := basic_ne ht
      exact end_one c (by intro h; subst h; revert ht; simp [Ty.plain, basicL]) this.2.2.2.2.1 this.2.2.1 r w
    | var => exact end_one 118 (by decide) (by decide) (by decide) r w
    | arr t => simp only [zty, List.length_cons] at hN hr ⊢; exact end_arr N ih t ht (by omega) r w (by omega)
    | dict k t => simp only [zty, List.length_cons] at hN hr ⊢; exact end_dict N ih k t ht.2 (by omega) r w (by omega)
    | str ts =>
      simp only [zty, List.length_cons, List.length_append, List.length_nil] at hN hr ⊢
      have := end_str N ih ts ht (by omega) r w (by omega)
      simpa [Nat.add_assoc, Int.add_assoc] using this
end Go.Proofs.YtjbpphomlmlmaaaGreatDoor

/- Types as texts: fields, and what the door makes of a signature. -/
namespace Go.Proofs.YtjbpphomlmlmaaaGreatDoor
open Go.RowKit
set_option linter.unusedVariables false
theorem info81 : (Tryz.prog.info? 81).map (fun i => (i.zero, i.size, i.bytes)) = some (some (.string ByteArray.empty), 1, 16) := by kernel_rfl
def ztyV (t : Ty) : Value := .string (bs (zty t))
set_option maxRecDepth 100000 in
set_option maxHeartbeats 1600000 in
theorem fields_calls (ts : List Ty) (ht : Ty.plains ts) (hr : (ztys ts).length < 100000) (w : World) :
    Calls Tryz.prog 143 #[.string (bs (40 :: (ztys ts ++ [41])))] w fun e w' => ∃ v, e = .returned v ∧ w'.ownsRow w.heap.size 81 1 v ts.length (ts.map ztyV) ∧ Below w.heap.size w w' := by
  obtain ⟨i0, hi0, hz0, hz1, hz2⟩ := info_parts info81
  have htl : ts.length ≤ (ztys ts).length := by
    clear hr
    induction ts with
    | nil => simp
    | cons t ts ih =>
      simp only [Ty.plains] at ht
      obtain ⟨q, hq⟩ := zty_head t
      have := ih ht.2
      simp [ztys, hq]; omega
  go_enter Tryz.func143, Tryz.ntmps143
  go_wp2_with fail
  go_loopw [3, 4] (fun v i wr => ∃ (us vs : List Ty), us ++ vs = ts ∧ i = .int .i64 ((ztys us).length + 1 : Nat) ∧ wr.ownsRow w.heap.size 81 1 v us.length (us.map ztyV) ∧ Below w.heap.size w wr) (fun _ i _ => (ztys ts).length + 1 - (match i with | .int _ n => n.toNat | _ => 0))
  case atStart => exact ⟨[], ts, rfl, rfl, World.ownsRow_nil _ _ _ _, Below.refl _ _⟩
  case round =>
    obtain ⟨us, vs, hts, rfl, hown, hb⟩ := hrel
    have hbs := hb.size
    cases vs with
    | nil =>
      obtain rfl : us = ts := by simpa using hts
      go_wp2_with fail
      all_goals first
        | (exfalso; omega)
        | (go_ret; exact ⟨_, rfl, hown, hb⟩)
    | cons t vs =>
      obtain ⟨q, hq⟩ := zty_head t
      have htp : t.plain := Ty.plains_mem ht t (by rw [← hts]; simp)
      have hL : (ztys ts).length = (ztys us).length + ((zty t).length + (ztys vs).length) := by rw [← hts, ztys_append]; simp [ztys]
      have hLL : ztys ts ++ [41] = ztys us ++ (zty t ++ (ztys vs ++ [41])) := by rw [← hts, ztys_append]; simp [ztys]
      have hzl : 0 < (zty t).length := by rw [hq]; simp
      have hul : us.length < ts.length := by rw [← hts]; simp
      have hch : ∀ h : (ztys us).length < (ztys ts ++ [41]).length, (((ztys ts ++ [41])[(ztys us).length]'h).toNat != (41 : Int)) = true := by
        intro h
        have : (ztys ts ++ [41])[(ztys us).length]'h = headC t := by
          have h2 : (ztys ts ++ [41])[(ztys us).length]? = some (headC t) := by rw [hLL, List.getElem?_append_right (Nat.le_refl _), Nat.sub_self, hq]; rfl
          rw [List.getElem?_eq_getElem h] at h2
          exact Option.some.inj h2
        rw [this]
        have := headC_ne htp
        simp
        exact fun hc => this (u8_of_int (n := 41) hc)
      have hx : (bs (40 :: (ztys ts ++ [41]))).extract ((ztys us).length + 1) ((ztys ts).length + 1 + 1) = bs (zty t ++ (ztys vs ++ [41])) := by
        have := bs_from (40 :: (ztys ts ++ [41])) ((ztys us).length + 1)
        rw [show (40 :: (ztys ts ++ [41])).length = (ztys ts).length + 1 + 1 by simp] at this
        rw [this, hLL]
        simp
      have hx2 : (bs (40 :: (ztys ts ++ [41]))).extract ((ztys us).length + 1) ((ztys us).length + 1 + (zty t).length) = bs (zty t) := by
        apply ba_ext
        simp only [ByteArray.data_extract, Array.toList_extract, List.extract_eq_take_drop, bs_data, hLL]
        simp
      have hwr : wrap64 ((ztys us).length + 1 + (zty t).length) = (ztys us).length + 1 + (zty t).length := by unfold wrap64; omega
      have HTS := Lib.hid hts
      have HL := Lib.hid hL
      have HLL := Lib.hid hLL
      clear hts hLL hL hq q
      go_wp2_with (first | (go_at_call 175; refine (end_calls _ t htp (Nat.lt_succ_self _) _ _ (by have := HL.out; simp; omega)).mono ?_; rintro _ _ ⟨rfl, rfl⟩) | (at_builtin; refine Hid.out ?_))
      all_goals first
        | (exfalso; have := HL.out; omega)
        | skip
      refine Lib.hid ?_
      refine wpList_append_own _ rfl _ _ 206 rfl w.heap.size 81 i0 (.string ByteArray.empty) 1 16 Tryz.underlying206 hi0 hz0 hz1 hz2 rfl (by decide) _ _ _ rfl (hown.alloc _) ⟨_, 0, none⟩ 1 1 [ztyV t] rfl rfl (cell_one_new _ _ _) (by simp [Value.oneCell', ztyV]) (by unfold maxLen; omega) (by omega) (by simp; omega) ?_
      intro v' w1 hown1 hgrow _
      go_wp2_with fail
      go_roundw
      case rel => 
        refine ⟨us ++ [t], vs, by rw [← HTS.out]; simp, by rw [ztys_append]; simp [ztys]; omega, by simpa using hown1, (hb.alloc hb.size _).grown hgrow (by simp; omega) (fun k hk => own_base' hown hk)⟩
      case measure => have := HL.out; simp; omega
end Go.Proofs.YtjbpphomlmlmaaaGreatDoor

/- The signature of a type. -/
namespace Go.Proofs.YtjbpphomlmlmaaaGreatDoor
open Go.RowKit
set_option linter.unusedVariables false
theorem own_cap {w : World} {base : Nat} {e : TypeId} {size n n' : Nat} {A : Option Addr} {cap : Nat} {xs : List Value} (h : w.ownsRow base e size (.slice A n' cap) n xs) : n ≤ cap ∧ cap ≤ maxLen := by
  rcases h.2 with ⟨h1, rfl⟩ | ⟨g, cap', cur, h1, _, _, hn, hc, _⟩
  · simp only [Value.slice.injEq] at h1
    obtain ⟨_, _, rfl⟩ := h1
    exact ⟨Nat.zero_le _, by unfold maxLen; omega⟩
  · simp only [Value.slice.injEq] at h1
    obtain ⟨_, _, rfl⟩ := h1
    exact ⟨hn, hc⟩
theorem own_cell {w : World} {base : Nat} {e : TypeId} {size n n' g : Nat} {cap : Nat} {xs : List Value} (h : w.ownsRow base e size (.slice (some ⟨g, 0, none⟩) n' cap) n xs) (j : Nat) (u : Value) (hj : xs[j]? = some u) : w.cell? ⟨g, j, none⟩ = some u := by
  rcases h.2 with ⟨h1, h0⟩ | ⟨g', cap', cur, h1, _, hg, _, _, _, ht⟩
  · simp at h1
  · simp only [Value.slice.injEq, Option.some.injEq, Addr.mk.injEq, and_true] at h1
    obtain ⟨rfl, _⟩ := h1
    rw [cell_of_row w g j cur e (0, 0) hg]
    rw [← ht, List.getElem?_take] at hj
    split at hj
    · simpa using hj
    · cases hj
set_option maxRecDepth 100000 in
set_option maxHeartbeats 1600000 in
theorem numField_calls (ts : List Ty) (ht : Ty.plains ts) (hr : (ztys ts).length < 100000) (w : World) :
    Calls Tryz.prog 109 #[.string (bs (40 :: (ztys ts ++ [41])))] w fun e w' => e = .returned (.int .i64 ts.length) ∧ Below w.heap.size w w' := by
  go_enter Tryz.func109, Tryz.ntmps109
  go_wp2_with (refine (fields_calls ts ht hr _).mono ?_; rintro _ w1 ⟨v, rfl, hown, hb⟩; rcases hown.2 with ⟨rfl, h0⟩ | ⟨g, cap, cur, rfl, _⟩)
  · go_ret
    refine ⟨?_, hb⟩
    have : ts.length = 0 := h0
    simp [this]
  · go_ret
    exact ⟨rfl, hb⟩
theorem row_setC {w : World} {b : Nat} {cs : Array Value} {t : TypeId} {f : Nat × Nat} (h : w.heap[b]? = some (.cells cs t f)) (j : Nat) (v : Value) : (w.setCell ⟨b, j, none⟩ v).heap[b]? = some (.cells (cs.setIfInBounds j v) t f) := by
  have hlt : b < w.heap.size := (Array.getElem?_eq_some_iff.1 h).1
  have h' : w.heap[b] = .cells cs t f := by simpa [Array.getElem?_eq_getElem hlt] using h
  show (w.heap.modify b _)[b]? = _
  rw [Array.getElem?_eq_getElem (by simpa using hlt), Array.getElem_modify_self, h']
  rfl
theorem below_set3' {B : Nat} {a w : World} (h : Below B a w) (x y z : Value) : Below B a (((w.setCell ⟨B, 0, none⟩ x).setCell ⟨B, 1, none⟩ y).setCell ⟨B, 2, none⟩ z) := by
  have h0 : B ≤ (Addr.mk B 0 none).block := Nat.le_refl B
  have h1 : B ≤ (Addr.mk B 1 none).block := Nat.le_refl B
  have h2 : B ≤ (Addr.mk B 2 none).block := Nat.le_refl B
  exact ((h.setCell h0 x).setCell h1 y).setCell h2 z
set_option maxRecDepth 100000 in
set_option maxHeartbeats 1600000 in
theorem field_calls (ts : List Ty) (ht : Ty.plains ts) (hr : (ztys ts).length < 100000) (i : Nat) (hi : i < ts.length) (w : World) :
    Calls Tryz.prog 110 #[.string (bs (40 :: (ztys ts ++ [41]))), .int .i64 i] w fun e w' => e = .returned (.agg #[.string (bs (zty ts[i])), .string ByteArray.empty, .string ByteArray.empty]) ∧ Below w.heap.size w w' := by
  go_enter Tryz.func110, Tryz.ntmps110
  go_wp2_with fail
  refine (fields_calls ts ht hr _).mono ?_
  rintro _ w1 ⟨v, rfl, hown, hb⟩
  obtain ⟨g, cap, rfl, hg1, hg2⟩ := hown.form (by omega)
  have hcap := own_cap hown
  have hci := own_cell hown i (.string (bs (zty ts[i]))) (by simp [hi, ztyV])
  have hR := (hb.block w.heap.size (by simp)).trans (heap_alloc_new w _)
  have r0 : w1.cell? ⟨w.heap.size, 0, none⟩ = some (.string ByteArray.empty) := by rw [cell_of_row _ _ _ _ _ _ hR]; rfl
  have r1 : w1.cell? ⟨w.heap.size, 1, none⟩ = some (.string ByteArray.empty) := by rw [cell_of_row _ _ _ _ _ _ hR]; rfl
  have r2 : w1.cell? ⟨w.heap.size, 2, none⟩ = some (.string ByteArray.empty) := by rw [cell_of_row _ _ _ _ _ _ hR]; rfl
  have f0 := fun o => frozen_of_row w1 w.heap.size o _ _ hR
  go_wp2_with fail
  have h3 := row_setC (row_setC (row_setC hR 0 (.string (bs (zty ts[i])))) 1 (.string ByteArray.empty)) 2 (.string ByteArray.empty)
  refine bodyPost_ret (results_cell_row rfl _ _ w.heap.size 161 #[.string (bs (zty ts[i])), .string ByteArray.empty, .string ByteArray.empty] (0, 0) _ rfl h3 Tryz.underlying161 rfl (by kernel_rfl)) rfl ⟨rfl, ?_⟩
  have hs : w.heap.size ≤ w1.heap.size := by have := hb.size; simp at this; omega
  refine below_set3' ?_ _ _ _
  exact ((Below.refl _ w).alloc (Nat.le_refl _) _).trans (hb.mono (by simp))
abbrev depthV (a b c : Int) : Value := .agg #[.int .i64 a, .int .i64 b, .int .i64 c]
def Depth (w : World) (p : Nat) (a b c : Int) : Prop := w.heap[p]? = some (.cells #[.int .i64 a, .int .i64 b, .int .i64 c] 110 (0, 0))
theorem Depth.lt {w : World} {p : Nat} {a b c : Int} (h : Depth w p a b c) : p < w.heap.size := (Array.getElem?_eq_some_iff.1 h).1
theorem Depth.below {w w' : World} {p : Nat} {a b c : Int} (h : Depth w p a b c) (hb : Below w.heap.size w w') : Depth w' p a b c := (hb.block p h.lt).trans h
theorem Depth.cells {w : World} {p : Nat} {a b c : Int} (h : Depth w p a b c) : w.cell? ⟨p, 0, none⟩ = some (.int .i64 a) ∧ w.cell? ⟨p, 1, none⟩ = some (.int .i64 b) ∧ w.cell? ⟨p, 2, none⟩ = some (.int .i64 c) := by
  refine ⟨?_, ?_, ?_⟩
  all_goals (rw [cell_of_row _ _ _ _ _ _ h]; rfl)
def EnterR (w : World) (a b c : Int) (e : Ending) (w' : World) : Prop := ∃ p : Nat, e = .returned (.pointer (some ⟨p, 0, none⟩)) ∧ Depth w' p a b c ∧ Below w.heap.size w w'
theorem enter_mk (w : World) (a b c : Int) : EnterR w a b c (.returned (.pointer (some ⟨w.heap.size, 0, none⟩))) (w.alloc (.cells #[.int .i64 a, .int .i64 b, .int .i64 c] 110)) :=
  ⟨_, rfl, heap_alloc_new w _, (Below.refl _ _).alloc (Nat.le_refl _) _⟩
set_option maxHeartbeats 1600000 in
theorem enterArray_calls (a b c : Int) (ha : 0 ≤ a ∧ a ≤ 100) (w : World) : Calls Tryz.prog 113 #[depthV a b c] w (EnterR w (a + 1) b c) := by
  go_enter Tryz.func113, Tryz.ntmps113
  go_wp2_with fail
  go_ret
  exact enter_mk w _ _ _
set_option maxHeartbeats 1600000 in
theorem enterStruct_calls (a b c : Int) (ha : 0 ≤ b ∧ b ≤ 100) (w : World) : Calls Tryz.prog 112 #[depthV a b c] w (EnterR w a (b + 1) c) := by
  go_enter Tryz.func112, Tryz.ntmps112
  go_wp2_with fail
  go_ret
  exact enter_mk w _ _ _
set_option maxHeartbeats 1600000 in
theorem enterDict_calls (a b c : Int) (ha : 0 ≤ c ∧ c ≤ 100) (w : World) : Calls Tryz.prog 115 #[depthV a b c] w (EnterR w a b (c + 1)) := by
  go_enter Tryz.func115, Tryz.ntmps115
  go_wp2_with fail
  go_ret
  exact enter_mk w _ _ _
set_option maxHeartbeats 1600000 in
theorem depthValid_calls (p : Nat) (a b c : Int) (ha : a ≤ 32) (hb : b ≤ 32) (hc : c ≤ 32) (w : World) (h : Depth w p a b c) : Calls Tryz.prog 107 #[.pointer (some ⟨p, 0, none⟩)] w fun e w' => e = .returned (.bool true) ∧ w' = w := by
  obtain ⟨h1, h2, h3⟩ := h.cells
  have e1 : decide (a ≤ 32) = true := by simp; omega
  have e2 : decide (b ≤ 32) = true := by simp; omega
  have e3 : decide (c ≤ 32) = true := by simp; omega
  go_enter Tryz.func107, Tryz.ntmps107
  go_wp2_with fail
  go_ret
  exact ⟨rfl, rfl⟩
theorem keyB_cases {k : UInt8} (hk : keyB k.toNat = true) : k = 121 ∨ k = 110 ∨ k = 113 ∨ k = 105 ∨ k = 117 ∨ k = 120 ∨ k = 116 ∨ k = 115 ∨ k = 111 := by
  simp only [keyB, keyL, List.contains_eq_mem, List.mem_cons, List.mem_nil_iff, or_false, decide_eq_true_eq] at hk
  rcases hk with h | h | h | h | h | h | h | h | h
  · exact .inl (u8_of_int (n := 121) h)
  · exact .inr (.inl (u8_of_int (n := 110) h))
  · exact .inr (.inr (.inl (u8_of_int (n := 113) h)))
  · exact .inr (.inr (.inr (.inl (u8_of_int (n := 105) h))))
  · exact .inr (.inr (.inr (.inr (.inl (u8_of_int (n := 117) h)))))
  · exact .inr (.inr (.inr (.inr (.inr (.inl (u8_of_int (n := 120) h))))))
  · exact .inr (.inr (.inr (.inr (.inr (.inr (.inl (u8_of_int (n := 116) h)))))))
  · exact .inr (.inr (.inr (.inr (.inr (.inr (.inr (.inl (u8_of_int (n := 115) h))))))))
  · exact .inr (.inr (.inr (.inr (.inr (.inr (.inr (.inr (u8_of_int (n := 111) h))))))))
set_option maxHeartbeats 3200000 in
theorem keyType_calls (k : UInt8) (hk : keyB k.toNat = true) (w : World) : Calls Tryz.prog 114 #[.string (bs [k])] w fun e w' => e = .returned (.bool true) ∧ w' = w := by
  have hk2 : (kindN k = 7 ∨ kindN k = 3 ∨ kindN k = 8 ∨ kindN k = 4 ∨ kindN k = 9 ∨ kindN k = 5 ∨ kindN k = 10 ∨ kindN k = 17) ∧ k ∈ heads := by
    rcases keyB_cases hk with rfl | rfl | rfl | rfl | rfl | rfl | rfl | rfl | rfl <;> decide
  obtain ⟨hk2, hm⟩ := hk2
  have HM := fun w => kind_calls k hm [] w
  generalize kindN k = n at *
  rcases hk2 with rfl | rfl | rfl | rfl | rfl | rfl | rfl | rfl
  all_goals
    go_enter Tryz.func114, Tryz.ntmps114
    go_wp2_with (refine (HM _).mono ?_; rintro _ _ ⟨rfl, rfl⟩)
    go_ret
    exact ⟨rfl, rfl⟩
theorem close_calls (p : Addr) (s : ByteArray) (hs : s.size ≤ 255) (u : FrameMode) (w : World) (hc : w.cell? p = some (.string s)) : CallsD Tryz.prog 108 #[.pointer (some p)] u w fun e u' w' => e = .returned (.tuple #[]) ∧ u' = u ∧ w' = w := by
  have e1 : decide ((s.size : Int) > 255) = false := by simp; omega
  refine CallsD.mono (R := fun e u' w' => u' = u ∧ (e = .returned (.tuple #[]) ∧ w' = w)) ?_ ?_
  · go_enter_d Tryz.func108, Tryz.ntmps108
    go_wp2_with fail
    go_end0
    exact ⟨rfl, rfl⟩
  · rintro e u' w' ⟨rfl, rfl, rfl⟩
    exact ⟨rfl, rfl, rfl⟩
end Go.Proofs.YtjbpphomlmlmaaaGreatDoor

/- The signature of a type: getSignature. -/
namespace Go.Proofs.YtjbpphomlmlmaaaGreatDoor
open Go.RowKit
set_option linter.unusedVariables false
def GsR (l : List UInt8) (w : World) (e : Ending) (w' : World) : Prop := e = .returned (.string (bs l)) ∧ Below w.heap.size w w'
/-- How each ending runs: the result lies in the variable, the deferred check finds it short. -/
theorem sig_shut (l : List UInt8) (hl : l.length ≤ 255) (w0 w : World) (b : Nat) (a : Act) (hb : a.tmps.getD 4 undef = .pointer (some ⟨b, 0, none⟩)) (hd : a.defers = [{ target := Target.fn (Fn.func 108) #[.pointer (some ⟨b, 0, none⟩)], args := #[] }])
    (hr : w.heap[b]? = some (.cells #[.string (bs l)] 9 (0, 0))) (hB : Below w0.heap.size w0 w) : bodyPostD Tryz.prog Tryz.f70 (GsR l w0) Exit.ret a w := by
  obtain ⟨tmps, defers⟩ := a
  simp only at hb hd
  subst hd
  have hc : w.cell? ⟨b, 0, none⟩ = some (.string (bs l)) := by rw [cell_of_row _ _ _ _ _ _ hr]; rfl
  refine leaves_cons (f := 108) (args := #[.pointer (some ⟨b, 0, none⟩)]) (by simp) (by simp [go_sem]) ?_
  refine (close_calls _ _ (by simpa using hl) _ _ hc).mono ?_
  rintro e u' w'' ⟨rfl, rfl, rfl⟩
  refine ⟨.string (bs l), ?_, rfl, hB⟩
  have hb' : tmps[4]?.getD undef = .pointer (some ⟨b, 0, none⟩) := by simpa using hb
  simp [results, hb', asAddr, loadVar, go_sem, hc]
set_option maxRecDepth 100000 in
set_option maxHeartbeats 6400000 in
theorem sig_one (c : UInt8) (n : Int) (hc : (c, n) ∈ ([(121, 7), (98, 1), (110, 3), (113, 8), (105, 4), (117, 9), (104, 9), (120, 5), (116, 10), (100, 11), (115, 17), (111, 17), (103, 18), (118, 18)] : List (UInt8 × Int))) (p : Nat) (a b d : Int) (ha : a ≤ 32) (hb : b ≤ 32) (hd : d ≤ 32) (w : World) (h : Depth w p a b d) : Calls Tryz.prog 70 #[.string (bs [c]), .pointer (some ⟨p, 0, none⟩)] w (GsR [c] w) := by
  have hmf : ∀ (fn : Fn) (first cap : Array Value) (w : World), (Instr.makeFunc fn first cap).run Tryz.prog w = .ok (.func fn first cap) w := fun _ _ _ _ => rfl
  have HM : ∀ w, Calls Tryz.prog 72 #[.string (bs [c])] w fun e w' => e = .returned (.int .i64 n) ∧ w' = w := by
    intro w
    have hk : kindN c = n ∧ c ∈ heads := by
      simp only [List.mem_cons, List.mem_nil_iff, or_false, Prod.mk.injEq] at hc
      rcases hc with ⟨rfl, rfl⟩ | ⟨rfl, rfl⟩ | ⟨rfl, rfl⟩ | ⟨rfl, rfl⟩ | ⟨rfl, rfl⟩ | ⟨rfl, rfl⟩ | ⟨rfl, rfl⟩ | ⟨rfl, rfl⟩ | ⟨rfl, rfl⟩ | ⟨rfl, rfl⟩ | ⟨rfl, rfl⟩ | ⟨rfl, rfl⟩ | ⟨rfl, rfl⟩ | ⟨rfl, rfl⟩ <;> decide
    rw [← hk.1]
    exact kind_calls c hk.2 [] w
  simp only [List.mem_cons, List.mem_nil_iff, or_false, Prod.mk.injEq] at hc
  rcases hc with ⟨rfl, rfl⟩ | ⟨rfl, rfl⟩ | ⟨rfl, rfl⟩ | ⟨rfl, rfl⟩ | ⟨rfl, rfl⟩ | ⟨rfl, rfl⟩ | ⟨rfl, rfl⟩ | ⟨rfl, rfl⟩ | ⟨rfl, rfl⟩ | ⟨rfl, rfl⟩ | ⟨rfl, rfl⟩ | ⟨rfl, rfl⟩ | ⟨rfl, rfl⟩ | ⟨rfl, rfl⟩
  all_goals
    go_enter_defers Tryz.func70, Tryz.ntmps70
    go_wp2_with (first | (go_at_call 107; refine (depthValid_calls p a b d ha hb hd _ (h.below ((Below.refl _ w).alloc (Nat.le_refl _) _))).mono ?_; rintro _ _ ⟨rfl, rfl⟩) | (go_at_call 72; refine (HM _).mono ?_; rintro _ _ ⟨rfl, rfl⟩))
    exact sig_shut _ (by decide) _ _ w.heap.size _ rfl rfl (heap_alloc_new w _) ((Below.refl _ w).alloc (Nat.le_refl _) _)
end Go.Proofs.YtjbpphomlmlmaaaGreatDoor

/- The signature of a type: arrays, dicts, structs. -/
namespace Go.Proofs.YtjbpphomlmlmaaaGreatDoor
open Go.RowKit
set_option linter.unusedVariables false
/-- What 'getSignature' answers of shorter types. -/
def SigIH (N : Nat) : Prop := ∀ (t : Ty), t.plain → t.keyed → t.sig.length < N → t.sig.length ≤ 255 → ∀ (p : Nat) (a b d : Int), 0 ≤ a → 0 ≤ b → 0 ≤ d → t.ok (32 - a) (32 - b) (32 - d) → ∀ (w : World), Depth w p a b d →
  Calls Tryz.prog 70 #[.string (bs (zty t)), .pointer (some ⟨p, 0, none⟩)] w (GsR t.sig w)
/-- What is known of memory in the midst of a call: the depth, and the variable of the result. -/
structure Mid (W0 w : World) (p B : Nat) (a b d : Int) (s : ByteArray) : Prop where
  dep : Depth w p a b d
  var : w.heap[B]? = some (.cells #[.string s] 9 (0, 0))
  bel : Below W0.heap.size W0 w
  far : p ≠ B
theorem Mid.cells {W0 w : World} {p B : Nat} {a b d : Int} {s : ByteArray} (h : Mid W0 w p B a b d s) :
    w.cell? ⟨p, 0, none⟩ = some (.int .i64 a) ∧ w.cell? ⟨p, 1, none⟩ = some (.int .i64 b) ∧ w.cell? ⟨p, 2, none⟩ = some (.int .i64 d) ∧ w.cell? ⟨B, 0, none⟩ = some (.string s) ∧ w.frozen? ⟨B, 0, none⟩ = false :=
  ⟨h.dep.cells.1, h.dep.cells.2.1, h.dep.cells.2.2, by rw [cell_of_row _ _ _ _ _ _ h.var]; rfl, frozen_of_row _ _ _ _ _ h.var⟩
theorem Mid.start {w : World} {p : Nat} {a b d : Int} (h : Depth w p a b d) : Mid w (w.alloc (.cells #[.string ByteArray.empty] 9)) p w.heap.size a b d ByteArray.empty :=
  ⟨h.below ((Below.refl _ w).alloc (Nat.le_refl _) _), heap_alloc_new w _, (Below.refl _ w).alloc (Nat.le_refl _) _, by have := h.lt; omega⟩
theorem Mid.below {W0 w w' : World} {p B : Nat} {a b d : Int} {s : ByteArray} (h : Mid W0 w p B a b d s) (hb : Below w.heap.size w w') : Mid W0 w' p B a b d s :=
  ⟨h.dep.below hb, (hb.block B (Array.getElem?_eq_some_iff.1 h.var).1).trans h.var, h.bel.trans (hb.mono h.bel.size), h.far⟩
theorem Mid.drew {W0 w : World} {p B : Nat} {a b d : Int} {s : ByteArray} (h : Mid W0 w p B a b d s) : Mid W0 w.drew p B a b d s := ⟨h.dep, h.var, h.bel.drew, h.far⟩
theorem Mid.set {W0 w : World} {p B : Nat} {a b d : Int} {s : ByteArray} (h : Mid W0 w p B a b d s) (hB : W0.heap.size ≤ B) (l : List UInt8) : Mid W0 (w.setCell ⟨B, 0, none⟩ (.string (bs l))) p B a b d (bs l) :=
  ⟨(Below.heap_setCell w ⟨B, 0, none⟩ _ p h.far).trans h.dep, row_setC h.var 0 _, h.bel.setCell hB _, h.far⟩
set_option maxRecDepth 100000 in
set_option maxHeartbeats 3200000 in
theorem sig_arr (N : Nat) (ih : SigIH N) (t : Ty) (htp : t.plain) (htk : t.keyed) (hN : t.sig.length < N) (h255 : t.sig.length + 1 ≤ 255) (p : Nat) (a b d : Int) (ha : 0 ≤ a) (hb : 0 ≤ b) (hd : 0 ≤ d) (ha' : a ≤ 32) (hb' : b ≤ 32) (hd' : d ≤ 32) (hok : t.ok (32 - (a + 1)) (32 - b) (32 - d)) (w : World) (h : Depth w p a b d) :
    Calls Tryz.prog 70 #[.string (bs (91 :: zty t)), .pointer (some ⟨p, 0, none⟩)] w (GsR (97 :: t.sig) w) := by
  have hmf : ∀ (fn : Fn) (first cap : Array Value) (w : World), (Instr.makeFunc fn first cap).run Tryz.prog w = .ok (.func fn first cap) w := fun _ _ _ _ => rfl
  have HM : ∀ w, Calls Tryz.prog 72 #[.string (bs (91 :: zty t))] w fun e w' => e = .returned (.int .i64 16) ∧ w' = w := kind_calls 91 (by decide) _
  have M0 := Mid.start h
  have hcat : ¬ 9223372036854775807 < 1 + t.sig.length := by omega
  have hbs : ({ data := #[97] } : ByteArray) ++ bs t.sig = bs (97 :: t.sig) := ba_ext (by simp [bs])
  go_enter_defers Tryz.func70, Tryz.ntmps70
  go_wp2_with (first | (go_at_call 107; refine (depthValid_calls p a b d ha' hb' hd' _ M0.dep).mono ?_; rintro _ _ ⟨rfl, rfl⟩) | (go_at_call 72; refine (HM _).mono ?_; rintro _ _ ⟨rfl, rfl⟩))
  have M1 := M0.drew
  obtain ⟨p0, p1, p2, q0, f0⟩ := M1.cells
  go_region_held3 (fun w' => w'.cell? ⟨p, 0, none⟩ = some (.int .i64 a) ∧ w'.cell? ⟨p, 1, none⟩ = some (.int .i64 b) ∧ w'.cell? ⟨p, 2, none⟩ = some (.int .i64 d))
    (first | exact ⟨p0, p1, p2⟩ | exact ⟨m0, m1, m2⟩ | exact ⟨n0, n1, n2⟩ | (have M4 := M3.set (Nat.le_refl _) (97 :: t.sig); exact ⟨M4.cells.1, M4.cells.2.1, M4.cells.2.2.1⟩))
    (first
      | (go_at_call 74; refine (elem_arr _ _).mono ?_; rintro _ _ ⟨rfl, rfl⟩)
      | (go_at_call 113; refine (enterArray_calls a b d (by omega) _).mono ?_; rintro _ w2 ⟨pe, rfl, hE1, hE2⟩; have M2 := M1.below hE2; obtain ⟨m0, m1, m2, qm, fm⟩ := M2.cells)
      | (go_at_call 70; refine (ih t htp htk hN (by omega) _ (a + 1) b d (by omega) hb hd hok _ hE1).mono ?_; rintro _ w3 ⟨rfl, hb3⟩; have M3 := M2.below hb3; obtain ⟨n0, n1, n2, qn, fn⟩ := M3.cells))
  go_wp2_with fail
  have M4 := M3.set (Nat.le_refl _) (97 :: t.sig)
  exact sig_shut _ (by simpa using h255) _ _ w.heap.size _ rfl rfl M4.var M4.bel
end Go.Proofs.YtjbpphomlmlmaaaGreatDoor
