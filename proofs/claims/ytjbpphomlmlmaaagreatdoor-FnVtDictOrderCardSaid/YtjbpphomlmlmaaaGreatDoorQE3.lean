/- The type that the door makes of a signature. -/
import Derived.Test.YtjbpphomlmlmaaaGreatDoorQE2
namespace Go.Proofs.YtjbpphomlmlmaaaGreatDoor
open Go.RowKit
set_option linter.unusedVariables false
mutual
theorem Ty.ok_mono : ∀ {t : Ty} {a b e a' b' e' : Int}, t.ok a b e → a ≤ a' → b ≤ b' → e ≤ e' → t.ok a' b' e'
  | .basic c, _, _, _, _, _, _, h, ha, hb, he => by simp only [Ty.ok] at *; exact ⟨h.1, by omega, by omega, by omega⟩
  | .var, _, _, _, _, _, _, h, ha, hb, he => by simp only [Ty.ok] at *; exact ⟨by omega, by omega, by omega⟩
  | .arr t, _, _, _, _, _, _, h, ha, hb, he => by simp only [Ty.ok] at *; exact ⟨by omega, by omega, by omega, Ty.ok_mono h.2.2.2 (by omega) hb he⟩
  | .dict k t, _, _, _, _, _, _, h, ha, hb, he => by simp only [Ty.ok] at *; exact ⟨h.1, by omega, by omega, by omega, Ty.ok_mono h.2.2.2.2 (by omega) hb (by omega)⟩
  | .str ts, _, _, _, _, _, _, h, ha, hb, he => by simp only [Ty.ok] at *; exact ⟨h.1, by omega, by omega, by omega, Ty.oks_mono h.2.2.2.2 ha (by omega) he⟩
theorem Ty.oks_mono : ∀ {ts : List Ty} {a b e a' b' e' : Int}, Ty.oks ts a b e → a ≤ a' → b ≤ b' → e ≤ e' → Ty.oks ts a' b' e'
  | [], _, _, _, _, _, _, h, _, _, _ => by simp only [Ty.oks]
  | t :: ts, _, _, _, _, _, _, h, ha, hb, he => by simp only [Ty.oks] at *; exact ⟨Ty.ok_mono h.1 ha hb he, Ty.oks_mono h.2 ha hb he⟩
end
set_option maxRecDepth 100000 in
set_option maxHeartbeats 1600000 in
theorem doorOne_calls (t : Ty) (htp : t.plain) (hok : t.ok 32 32 32) (h255 : t.sig.length ≤ 255) (r : List UInt8) (hA : Ascii r) (hr : r.length ≤ 1000) (w : World) :
    Calls Tryz.prog 77 #[.string (bs (t.sig ++ r))] w fun e w' => e = .returned (.tuple #[.string (bs t.sig), .string (bs r)]) ∧ Below w.heap.size w w' := by
  have hV : ∀ w : World, Calls Tryz.prog 116 #[.string (bs (t.sig ++ r)), .pointer (some ⟨w.heap.size, 0, none⟩)] (w.alloc (.cells #[.int .i64 0, .int .i64 0, .int .i64 0] 110)) (VsR r (w.alloc (.cells #[.int .i64 0, .int .i64 0, .int .i64 0] 110))) := fun w => vs_calls (t.sig.length + 1) t htp (by omega) h255 r hA hr w.heap.size 0 0 0 (by omega) (by omega) (by omega) hok _ (heap_alloc_new w _)
  have hx : (bs (t.sig ++ r)).extract 0 t.sig.length = bs t.sig := by
    apply ba_ext
    simp only [ByteArray.data_extract, Array.toList_extract, List.extract_eq_take_drop, bs_data]
    simp
  have hs : ((t.sig.length : Int) + (r.length : Int)) - (r.length : Int) = t.sig.length := by omega
  have hle : (t.sig.length : Int) ≤ (t.sig.length : Int) + (r.length : Int) := by omega
  go_enter Tryz.func77, Tryz.ntmps77
  go_wp2_with (go_at_call 116; refine (hV _).mono ?_; rintro _ w1 ⟨rfl, hb1⟩)
  go_ret2
  exact ⟨rfl, ((Below.refl _ _).alloc (Nat.le_refl _) _).trans (hb1.mono (by simp))⟩
set_option maxRecDepth 100000 in
set_option maxHeartbeats 1600000 in
theorem sigToType_calls (c : UInt8) (hc : c ∈ basicL ∨ c = 118) (w : World) : Calls Tryz.prog 78 #[.int .u8 c.toNat] w fun e w' => e = .returned (.tuple #[.string (bs [c]), .bool true]) ∧ w' = w := by
  simp only [basicL, List.mem_cons, List.mem_nil_iff, or_false] at hc
  rcases hc with (rfl | rfl | rfl | rfl | rfl | rfl | rfl | rfl | rfl | rfl | rfl | rfl | rfl) | rfl
  all_goals
    go_enter Tryz.func78, Tryz.ntmps78
    go_wp2_with fail
    go_ret2
    exact ⟨rfl, rfl⟩
def DtR (t : Ty) (w : World) (e : Ending) (w' : World) : Prop := e = .returned (.string (bs (zty t))) ∧ Below w.heap.size w w'
def DtIH (N : Nat) : Prop := ∀ (t : Ty), t.plain → t.sig.length < N → t.sig.length ≤ 255 → t.ok 32 32 32 → ∀ (w : World), Calls Tryz.prog 47 #[.string (bs t.sig)] w (DtR t w)
set_option maxRecDepth 100000 in
set_option maxHeartbeats 1600000 in
theorem dt_one (c : UInt8) (hc : c ∈ basicL ∨ c = 118) (w : World) : Calls Tryz.prog 47 #[.string (bs [c])] w fun e w' => e = .returned (.string (bs [c])) ∧ Below w.heap.size w w' := by
  have h78 := fun w => sigToType_calls c hc w
  have h1 : ((c.toNat : Int) == 97) = false ∧ ((c.toNat : Int) == 40) = false := by
    rcases hc with hc | rfl
    · have := basic_ne hc
      simp only [beq_eq_false_iff_ne]
      exact ⟨fun h => this.2.1 (u8_of_int (n := 97) h), fun h => this.2.2.1 (u8_of_int (n := 40) h)⟩
    · decide
  obtain ⟨e1, e2⟩ := h1
  go_enter Tryz.func47, Tryz.ntmps47
  go_wp2_with (go_at_call 78; refine (h78 _).mono ?_; rintro _ _ ⟨rfl, rfl⟩)
  go_ret
  exact ⟨rfl, Below.refl _ _⟩
set_option maxRecDepth 100000 in
set_option maxHeartbeats 1600000 in
theorem dt_arr (N : Nat) (ih : DtIH N) (t : Ty) (htp : t.plain) (hN : t.sig.length < N) (h255 : t.sig.length ≤ 255) (hok : t.ok 32 32 32) (w : World) : Calls Tryz.prog 47 #[.string (bs (97 :: t.sig))] w (DtR (.arr t) w) := by
  have hx := bs_ext1 97 t.sig
  obtain ⟨c, q, hcq, _, _, h123⟩ := Ty.sig_head htp
  have hch : ∀ h : 0 < t.sig.length, ((t.sig[0]'h).toNat == (123 : Int)) = false := by
    intro h
    have : t.sig[0]'h = c := by simp [hcq]
    rw [this]
    simp
    exact fun hc => h123 (u8_of_int (n := 123) hc)
  have hpos : 0 < t.sig.length := by rw [hcq]; simp
  have hgt : (1 : Int) < (t.sig.length : Int) + 1 := by omega
  have hzl := zty_len t
  have hih := ih t htp hN h255 hok
  clear hcq ih
  go_enter Tryz.func47, Tryz.ntmps47
  go_wp2_with (first | (go_at_call 47; refine (hih _).mono ?_; rintro _ w1 ⟨rfl, hb1⟩) | (go_at_call 76; refine (sliceOf_calls _ (by omega) _).mono ?_; rintro _ _ ⟨rfl, rfl⟩))
  go_ret
  exact ⟨rfl, hb1⟩
set_option maxRecDepth 100000 in
set_option maxHeartbeats 3200000 in
theorem dt_dict (N : Nat) (ih : DtIH N) (k : UInt8) (hkb : k ∈ basicL) (t : Ty) (htp : t.plain) (hN : t.sig.length < N) (h255 : t.sig.length ≤ 255) (hok : t.ok 32 32 32) (w : World) : Calls Tryz.prog 47 #[.string (bs (97 :: 123 :: k :: (t.sig ++ [125])))] w (DtR (.dict k t) w) := by
  have hx1 : (bs (97 :: 123 :: k :: (t.sig ++ [125]))).extract 2 3 = bs [k] := by
    apply ba_ext
    simp only [ByteArray.data_extract, Array.toList_extract, List.extract_eq_take_drop, bs_data]
    simp
  have hx2 : (bs (97 :: 123 :: k :: (t.sig ++ [125]))).extract 3 (t.sig.length + 1 + 1 + 1) = bs t.sig := by
    apply ba_ext
    simp only [ByteArray.data_extract, Array.toList_extract, List.extract_eq_take_drop, bs_data]
    simp
  have hk1 := fun w => dt_one k (.inl hkb) w
  have hzl := zty_len t
  have hih := ih t htp hN h255 hok
  have hq1 : (3 : Int) ≤ (t.sig.length : Int) + 1 + 1 + 1 + 1 := by omega
  have hq2 : (0 : Int) ≤ (t.sig.length : Int) + 1 + 1 + 1 := by omega
  have htn : ((t.sig.length : Int) + 1 + 1 + 1).toNat = t.sig.length + 1 + 1 + 1 := by omega
  have hw : IntKind.i64.wrap ((t.sig.length : Int) + 1 + 1 + 1) = (t.sig.length : Int) + 1 + 1 + 1 := by rw [IntKind.wrap_i64]; omega
  have hq3 : (3 : Int) ≤ (t.sig.length : Int) + 1 + 1 + 1 := by omega
  have hq4 : (t.sig.length : Int) + 1 + 1 + 1 ≤ (t.sig.length : Int) + 1 + 1 + 1 + 1 := by omega
  clear ih
  go_enter Tryz.func47, Tryz.ntmps47
  go_wp2_with fail
  all_goals first
    | (exfalso; omega)
    | skip
  go_region_held3 (fun _ => True) (exact trivial)
    (first
      | (go_at_call_of 47 (Value.string (bs [k])); refine (hk1 _).mono ?_; rintro _ w1 ⟨rfl, hb1⟩)
      | (go_at_call_of 47 (Value.string (bs t.sig)); refine (hih _).mono ?_; rintro _ w2 ⟨rfl, hb2⟩)
      | (go_at_call 75; refine (mapOf_calls _ _ (by simp) (by omega) _).mono ?_; rintro _ _ ⟨rfl, rfl⟩))
  go_wp2_with fail
  go_ret
  exact ⟨rfl, below_then ((Below.refl _ _).drew.trans hb1) (by have := hb1.size; simpa using this) hb2⟩
set_option maxRecDepth 100000 in
set_option maxHeartbeats 3200000 in
theorem dt_str (N : Nat) (ih : DtIH N) (ts : List Ty) (htp : Ty.plains ts) (hN : (Ty.sigs ts).length < N) (h255 : (Ty.sigs ts).length ≤ 255) (hok : Ty.oks ts 32 32 32) (w : World) : Calls Tryz.prog 47 #[.string (bs (40 :: (Ty.sigs ts ++ [41])))] w (DtR (.str ts) w) := by
  have hx : (bs (40 :: (Ty.sigs ts ++ [41]))).extract 1 ((Ty.sigs ts).length + 1) = bs (Ty.sigs ts) := by
    apply ba_ext
    simp only [ByteArray.data_extract, Array.toList_extract, List.extract_eq_take_drop, bs_data]
    simp
  go_enter Tryz.func47, Tryz.ntmps47
  go_wp2_with fail
  go_loopw [3, 4] (fun z s wr => ∃ (us vs : List Ty), us ++ vs = ts ∧ s = .string (bs (Ty.sigs vs)) ∧ z = .string (bs (40 :: ztys us)) ∧ Below w.heap.size w wr) (fun _ s _ => match s with | .string b => b.size | _ => 0)
  case atStart => exact ⟨[], ts, rfl, rfl, rfl, Below.refl _ _⟩
  case round =>
    clear hx
    obtain ⟨us, vs, hts, rfl, rfl, hbr⟩ := hrel
    have hbs := hbr.size
    have hzl := ztys_len ts
    cases vs with
    | nil =>
      obtain rfl : us = ts := by simpa using hts
      simp only [Ty.sigs]
      have hc1 : ¬ 9223372036854775807 < (ztys us).length + 1 + 1 := by omega
      have hbb : bs (40 :: ztys us) ++ ({ data := #[41] } : ByteArray) = bs (40 :: (ztys us ++ [41])) := ba_ext (by simp [bs])
      go_wp2_with fail
      go_ret
      exact ⟨rfl, hbr⟩
    | cons t vs =>
      have htm : t ∈ ts := by rw [← hts]; simp
      have htp1 := Ty.plains_mem htp _ htm
      have hok1 := oks_mem hok _ htm
      obtain ⟨c, q, hcq, _⟩ := Ty.sig_head htp1
      have hpos : 0 < t.sig.length := by rw [hcq]; simp
      clear hcq
      have hnn : (t.sig ++ Ty.sigs vs).isEmpty = false := by
        cases hq : t.sig with
        | nil => rw [hq] at hpos; simp at hpos
        | cons x y => rfl
      have hL : (Ty.sigs us).length + (t.sig.length + (Ty.sigs vs).length) = (Ty.sigs ts).length := by rw [← hts, Ty.sigs_append]; simp [Ty.sigs]
      have hLz : (ztys us).length + (zty t).length ≤ (ztys ts).length := by rw [← hts, ztys_append]; simp [ztys]
      have hAv : Ascii (Ty.sigs vs) := fun c hc => ascii_tys ts htp c (by rw [← hts, Ty.sigs_append]; simp [Ty.sigs, hc])
      have hD1 := fun w => doorOne_calls t htp1 hok1 (by omega) (Ty.sigs vs) hAv (by omega) w
      have hD2 := ih t htp1 (by omega) (by omega) hok1
      have hcc : ¬ 9223372036854775807 < (ztys us).length + 1 + (zty t).length := by omega
      have hbb : bs (40 :: ztys us) ++ bs (zty t) = bs (40 :: ztys (us ++ [t])) := ba_ext (by simp [bs, ztys_append, ztys])
      have HTS := Lib.hid hts
      clear hL hts hLz hzl
      simp only [Ty.sigs]
      go_wp2_with (first
        | (go_at_call 77; refine (hD1 _).mono ?_; rintro _ w2 ⟨rfl, hb2⟩)
        | (go_at_call 47; refine (hD2 _).mono ?_; rintro _ w3 ⟨rfl, hb3⟩))
      go_roundw
      case rel => exact ⟨us ++ [t], vs, by rw [← HTS.out]; simp, rfl, rfl, below_then (below_then hbr hbs hb2) (by have := hb2.size; omega) hb3⟩
      case measure => simp; omega
theorem dt_calls (N : Nat) : DtIH N := by
  induction N with
  | zero => intro t _ h; omega
  | succ N ih =>
    intro t htp hN h255 hok w
    cases t with
    | basic c => exact dt_one c (.inl htp) w
    | var => exact dt_one 118 (.inr rfl) w
    | arr t =>
      simp only [Ty.ok] at hok
      simp only [Ty.sig, List.length_cons] at hN h255
      exact dt_arr N ih t htp (by omega) (by omega) (Ty.ok_mono hok.2.2.2 (by omega) (by omega) (by omega)) w
    | dict k t =>
      simp only [Ty.ok] at hok
      simp only [Ty.sig, List.length_cons, List.length_append, List.length_nil] at hN h255
      exact dt_dict N ih k hok.1 t htp.2 (by omega) (by omega) (Ty.ok_mono hok.2.2.2.2 (by omega) (by omega) (by omega)) w
    | str ts =>
      simp only [Ty.ok] at hok
      simp only [Ty.sig, List.length_cons, List.length_append, List.length_nil] at hN h255
      exact dt_str N ih ts htp (by omega) (by omega) (Ty.oks_mono hok.2.2.2.2 (by omega) (by omega) (by omega)) w
end Go.Proofs.YtjbpphomlmlmaaaGreatDoor
