/- The text without the type ahead (vtBareText). -/
import Derived.Test.YtjbpphomlmlmaaaGreatDoorQH
import Derived.Test.YtjbpphomlmlmaaaGreatDoorQN2
namespace Go.Proofs.YtjbpphomlmlmaaaGreatDoor
open Go.RowKit
set_option linter.unusedVariables false
set_option linter.unusedSimpArgs false
set_option maxRecDepth 100000 in
set_option maxHeartbeats 6400000 in
theorem bare_walk (k n : Int) (s : ByteArray) (A : Option Addr) (m cap : Nat) (r sg : List UInt8) (tl : Bool) (w : World)
    (h9 : ∀ w', Below w.heap.size w w' → Calls Tryz.prog 9 #[.agg #[.int .u8 k, .int .u64 n, .string s, .slice A m cap]] w' fun e w1 => e = .returned (.tuple #[.string (bs (if tl then r else 64 :: (sg ++ 32 :: r))), .bool true]) ∧ Below w'.heap.size w' w1)
    (h11 : ∀ w', Below w.heap.size w w' → Calls Tryz.prog 11 #[.agg #[.int .u8 k, .int .u64 n, .string s, .slice A m cap]] w' fun e w1 => e = .returned (.string (bs sg)) ∧ Below w'.heap.size w' w1)
    (hsg : sg.length ≤ 255) (hrl : r.length ≤ 10000000) (hr0 : r ≠ []) (hq : tl = true → r.head? ≠ some 64) :
    Calls Tryz.prog 14 #[.agg #[.int .u8 k, .int .u64 n, .string s, .slice A m cap]] w fun e w' => e = .returned (.tuple #[.string (bs r), .bool tl, .bool true]) ∧ Below w.heap.size w w' := by
  have hB0 : Below w.heap.size w (w.alloc (.cells #[.int .u8 k, .int .u64 n, .string s, .slice A m cap] 25)) := (Below.refl w.heap.size w).alloc (Nat.le_refl _) _
  have hH0 := heap_alloc_new w (.cells #[.int .u8 k, .int .u64 n, .string s, .slice A m cap] 25)
  have hS0 : w.heap.size < (w.alloc (.cells #[.int .u8 k, .int .u64 n, .string s, .slice A m cap] 25)).heap.size := by simp
  have hr1 : 0 < r.length := List.length_pos_iff.2 hr0
  cases tl
  · simp only [Bool.false_eq_true, if_false] at h9
    go_enter Tryz.func14, Tryz.ntmps14
    go_wp2_with fail
    refine (h9 _ hB0).mono ?_
    rintro _ w1 ⟨rfl, hb1⟩
    have hB1 := hB0.trans (hb1.mono hB0.size)
    have hH1 := (hb1.block _ hS0).trans hH0
    clear h9 hb1
    obtain ⟨p0, p1, p2, p3⟩ := four_cells hH1
    go_wp2_with fail
    refine (h11 _ hB1).mono ?_
    rintro _ w2 ⟨rfl, hb2⟩
    have hx : (1 : Int) + sg.length ≤ sg.length + (r.length + 1) := by omega
    have heq : (64 :: List.take (1 + sg.length) (sg ++ 32 :: r) == ({ data := #[64] } ++ bs sg ++ { data := #[32] } : ByteArray).toList) = true := by
      rw [ByteArray.toList_eq, beq_iff_eq, take_ahead, ahead_list]
    have hdr : (64 :: (sg ++ 32 :: r)).drop (1 + sg.length + 1) = r := by
      rw [List.drop_succ_cons, show sg ++ 32 :: r = (sg ++ [32]) ++ r by simp, List.drop_left' (by simp; omega)]
    go_wp2_with fail
    go_ret3
    refine ⟨?_, hB1.trans (hb2.mono hB1.size)⟩
    have hex : (bs (64 :: (sg ++ 32 :: r))).extract (1 + sg.length + 1) (sg.length + (r.length + 1) + 1) = bs r := ba_ext (by
      have e1 : sg.length + (r.length + 1) + 1 - (1 + sg.length + 1) = r.length := by omega
      simp only [bs, ByteArray.data_extract, Array.toList_extract, List.extract_eq_take_drop, hdr, e1, List.take_length])
    show Ending.returned (.tuple #[.string ((bs (64 :: (sg ++ 32 :: r))).extract (1 + sg.length + 1) (sg.length + (r.length + 1) + 1)), .bool false, .bool true]) = _
    rw [hex]
  · simp only [if_true] at h9
    have hq := hq rfl
    go_enter Tryz.func14, Tryz.ntmps14
    go_wp2_with fail
    refine (h9 _ hB0).mono ?_
    rintro _ w1 ⟨rfl, hb1⟩
    have hB1 := hB0.trans (hb1.mono hB0.size)
    have hH1 := (hb1.block _ hS0).trans hH0
    clear h9 hb1
    obtain ⟨p0, p1, p2, p3⟩ := four_cells hH1
    go_wp2_with fail
    refine (h11 _ hB1).mono ?_
    rintro _ w2 ⟨rfl, hb2⟩
    by_cases hlt : (1 : Int) + sg.length + 1 ≤ r.length
    · have heq : (List.take (1 + sg.length + 1) r == ({ data := #[64] } ++ bs sg ++ { data := #[32] } : ByteArray).toList) = false := by
        rw [ByteArray.toList_eq, beq_eq_false_iff_ne]
        intro hc
        have h0 := congrArg List.head? hc
        rw [List.head?_take, if_neg (by omega)] at h0
        rw [h0] at hq
        rw [ahead_list] at hq
        exact hq trivial rfl
      go_wp2_with fail
      go_ret3
      exact ⟨rfl, hB1.trans (hb2.mono hB1.size)⟩
    · go_wp2_with fail
      go_ret3
      exact ⟨rfl, hB1.trans (hb2.mono hB1.size)⟩
theorem bare_calls {F H : Nat → List UInt8} (hF : FH F H) {v : V} {t : Ty} (h : HT v t) (hok : t.ok 32 32 32) (h255 : t.sig.length ≤ 255) (ht : v.txt ≤ 65536) (hc : v.cnt ≤ 1000) (S : Nat → Prop) (x : Value) (w : World) (hw : Base2 w) (hr : Rep S w v x) :
    Calls Tryz.prog 14 #[x] w fun e w' => e = .returned (.tuple #[.string (bs (writ F H v)), .bool (tells v), .bool true]) ∧ Below w.heap.size w w' := by
  have hsl := sigL_le255 h h255
  have hwl := wl_of hF h ht hc
  have hwt : v.wt < 1000000 := by rw [wt_eq]; omega
  have hwn := writ_ne (H := H) hF.fne h
  have hat := writ_no_at (F := F) (H := H) h
  have h9 := vtString_calls hF h hok h255 ht hc S x
  obtain ⟨k, n, s, kids⟩ := v
  have hr0 := hr
  simp only [Rep] at hr
  obtain ⟨A, cap, rfl, _⟩ := hr
  have hkeep : ∀ w', Below w.heap.size w w' → Rep S w' _ _ := fun w' hb => hr0.keep fun b hlt _ => hb.block b hlt
  exact bare_walk k n s A kids.length cap _ _ _ w (fun w' hb => h9 w' (hw.below hb) (hkeep w' hb)) (fun w' hb => sigOf_calls 1000000 _ hwt (Nat.le_refl _) S _ w' (hkeep w' hb)) hsl (by omega) hwn hat
end Go.Proofs.YtjbpphomlmlmaaaGreatDoor

/- The law FnVtStringParts answers true. -/
namespace Go.Proofs.YtjbpphomlmlmaaaGreatDoor
open Go.RowKit
set_option linter.unusedVariables false
set_option linter.unusedSimpArgs false
set_option maxRecDepth 100000 in
set_option maxHeartbeats 6400000 in
theorem parts_skip (G : Prop) (k n : Int) (s : ByteArray) (A : Option Addr) (m cap : Nat) (w : World) (hG : G → m = 0 ∨ (k ≠ 97 ∧ k ≠ 40))
    (h7 : ∀ w', Below w.heap.size w w' → Calls Tryz.prog 7 #[.agg #[.int .u8 k, .int .u64 n, .string s, .slice A m cap]] w' (Tells True w'))
    (h8 : ∀ w', Below w.heap.size w w' → Calls Tryz.prog 8 #[.agg #[.int .u8 k, .int .u64 n, .string s, .slice A m cap]] w' (Tells G w')) :
    Calls Tryz.prog 6 #[.agg #[.int .u8 k, .int .u64 n, .string s, .slice A m cap]] w fun e w' => e = .returned (.bool true) ∧ Below w.heap.size w w' := by
  have hB0 : Below w.heap.size w (w.alloc (.cells #[.int .u8 k, .int .u64 n, .string s, .slice A m cap] 25)) := (Below.refl w.heap.size w).alloc (Nat.le_refl _) _
  have hH0 := heap_alloc_new w (.cells #[.int .u8 k, .int .u64 n, .string s, .slice A m cap] 25)
  have hS0 : w.heap.size < (w.alloc (.cells #[.int .u8 k, .int .u64 n, .string s, .slice A m cap] 25)).heap.size := by simp
  go_enter Tryz.func6, Tryz.ntmps6
  go_wp2_with fail
  refine (h7 _ hB0).mono ?_
  rintro _ w1 ⟨b1, rfl, _, hb1⟩
  have hB1 := hB0.trans (hb1.mono hB0.size)
  have hH1 := (hb1.block _ hS0).trans hH0
  have hS1 := Nat.lt_of_lt_of_le hS0 hb1.size
  clear h7 hb1
  obtain ⟨p0, p1, p2, p3⟩ := four_cells hH1
  cases b1
  · go_wp2_with fail
    go_ret
    exact ⟨rfl, hB1⟩
  go_wp2_with fail
  refine (h8 _ hB1).mono ?_
  rintro _ w2 ⟨b2, rfl, hGG, hb2⟩
  have hB2 := hB1.trans (hb2.mono hB1.size)
  have hH2 := (hb2.block _ hS1).trans hH1
  have hS2 := Nat.lt_of_lt_of_le hS1 hb2.size
  clear h8 hb2 p0 p1 p2 p3
  obtain ⟨p0, p1, p2, p3⟩ := four_cells hH2
  cases b2
  · go_wp2_with fail
    go_ret
    exact ⟨rfl, hB2⟩
  have hg := hG (hGG rfl)
  clear hGG hG
  by_cases hm : m = 0
  · subst hm
    go_wp2_with fail
    go_ret
    exact ⟨rfl, hB2⟩
  · obtain ⟨hk1, hk2⟩ := hg.resolve_left hm
    have hm2 : ((m : Int) == 0) = false := by rw [beq_eq_false_iff_ne]; omega
    have hk3 : (k == 97) = false := by rw [beq_eq_false_iff_ne]; exact hk1
    have hk4 : (k == 40) = false := by rw [beq_eq_false_iff_ne]; exact hk2
    clear hg
    go_wp2_with fail
    go_ret
    exact ⟨rfl, hB2⟩
theorem ones_plain {v : V} (h : v.k ≠ 123) : onesOf v = [v] := if_neg h
/-- The law FnVtStringParts answers true. -/
theorem vtParts_calls (v : V) (S : Nat → Prop) (x : Value) (w : World) (hw : Base2 w) (hr : Rep S w v x) : Calls Tryz.prog 6 #[x] w fun e w' => e = .returned (.bool true) ∧ Below w.heap.size w w' := by
  obtain ⟨F, H, hF⟩ := fh_exists
  have hr0 := hr
  have hkeep : ∀ w', Below w.heap.size w w' → Rep S w' v x := fun w' hb => hr0.keep fun b hlt _ => hb.block b hlt
  have h7 := fun w' (hb : Below w.heap.size w w') => fits_calls v S _ w' (hkeep w' hb)
  have h8 := fun w' (hb : Below w.heap.size w w') => prints_calls v S _ w' (hw.below hb).base (hkeep w' hb)
  have hbr : ∀ {c : V} {t : Ty}, HT c t → t.ok 32 32 32 → t.sig.length ≤ 255 → c.txt ≤ 65536 → c.cnt ≤ 1000 → (writ F H c).length ≤ 2000000 ∧ BareOk F H c := fun h hok h255 ht hc => ⟨wl_of hF h ht hc, fun S x w hw hr => bare_calls hF h hok h255 ht hc S x w hw hr⟩
  by_cases hg : Good v ∧ v.kids ≠ [] ∧ (v.k = 97 ∨ v.k = 40)
  · obtain ⟨hg, hne, hk⟩ := hg
    obtain ⟨t, h, hok, h255, ht, hc⟩ := good_of hr0 hg
    have hself := (hbr h hok h255 ht hc).2
    have h8' : ∀ w', Below w.heap.size w w' → Calls Tryz.prog 8 #[x] w' (Tells True w') := fun w' hb => (h8 w' hb).mono fun e w1 ⟨b, he, _, hb⟩ => ⟨b, he, fun _ => trivial, hb⟩
    cases h with
    | num k n s hk' hr h0 h1 hf => exact absurd rfl hne
    | txt k n s hk' hr => exact absurd rfl hne
    | var n s v t hv hok' h255' hke hs => simp [V.k] at hk
    | str n s kids ts hne' hlen hl hkk =>
      simp only [Ty.ok] at hok
      have hall : ∀ c ∈ kids, ∃ t, HT c t ∧ t.ok 32 32 32 ∧ t.sig.length ≤ 255 ∧ c.txt ≤ 65536 ∧ c.cnt ≤ 1000 := fun c hcm => by
        obtain ⟨j, hj, rfl⟩ := List.mem_iff_getElem.1 hcm
        have h2 : ts[j]? = some (ts[j]'(by omega)) := List.getElem?_eq_getElem (by omega)
        have hm := List.mem_of_getElem? h2
        have hk2 := txt_kid hcm ht hc
        have hT := hkk j _ _ (List.getElem?_eq_getElem hj) h2
        have := sig_mem_len hm
        simp only [Ty.sig, List.length_cons, List.length_append, List.length_nil] at h255
        exact ⟨_, hT, Ty.ok_mono (oks_mem hok.2.2.2.2 _ hm) (by omega) (by omega) (by omega), by omega, hk2.1, hk2.2⟩
      have hkn : ∀ c ∈ kids, c.k ≠ 123 := fun c hcm => by obtain ⟨t, hT, _⟩ := hall c hcm; exact hT.kind
      refine parts_str n s kids hne hlen hkn (fun c hcm => ?_) (fun c hcm => ?_) (fun c hcm => ?_) (fun c hcm => ?_) (fun c hcm d hd => ?_) hself S x w hw hr h7 h8'
      · obtain ⟨t, a1, a2, a3, a4, a5⟩ := hall c hcm
        have := (hbr a1 a2 a3 a4 a5).1
        omega
      · rw [ones_plain (hkn c hcm)]; simp
      · rw [ones_plain (hkn c hcm)]; rfl
      · rw [ones_plain (hkn c hcm)]; simp [tellsAll]
      · rw [ones_plain (hkn c hcm), List.mem_singleton] at hd
        subst hd
        obtain ⟨t, a1, a2, a3, a4, a5⟩ := hall _ hcm
        exact hbr a1 a2 a3 a4 a5
    | arr n s kids e hs hsz hlen hp hke hkk =>
      simp only [Ty.ok] at hok
      simp only [Ty.sig, List.length_cons] at h255
      have hoke : e.ok 32 32 32 := Ty.ok_mono hok.2.2.2 (by omega) (by omega) (by omega)
      obtain rfl : s = bs e.sig := ba_ext (by rw [hs]; rfl)
      obtain ⟨c0, r, hcr, _, _, h123⟩ := Ty.sig_head (t := e) hp
      rw [hcr] at hr hself
      have hkn : ∀ c ∈ kids, c.k ≠ 123 := fun c hcm => (hkk c hcm).kind
      have hb1 : ∀ c ∈ kids, (writ F H c).length ≤ 2000000 ∧ BareOk F H c := fun c hcm => hbr (hkk c hcm) hoke (by omega) (txt_kid hcm ht hc).1 (txt_kid hcm ht hc).2
      refine parts_lst n c0 r h123 kids hne hlen hkn (fun c hcm => ?_) (fun c hcm => ?_) (fun c hcm => ?_) (fun c hcm => ?_) (fun c hcm d hd => ?_) hself S x w hw hr h7 h8'
      · have := (hb1 c hcm).1
        omega
      · rw [ones_plain (hkn c hcm)]; simp
      · rw [ones_plain (hkn c hcm)]; rfl
      · rw [ones_plain (hkn c hcm)]; simp [tellsAll]
      · rw [ones_plain (hkn c hcm), List.mem_singleton] at hd
        subst hd
        exact hb1 _ hcm
    | dict n s kids kc e hs hsz hlen hkc hkb hp hke hfr hen ha hb =>
      simp only [Ty.ok] at hok
      simp only [Ty.sig, List.length_cons, List.length_append, List.length_nil] at h255
      have hoke : e.ok 32 32 32 := Ty.ok_mono hok.2.2.2.2 (by omega) (by omega) (by omega)
      obtain rfl : s = bs (123 :: kc :: (e.sig ++ [125])) := ba_ext (by rw [hs]; rfl)
      have hkey : (Ty.basic kc).ok 32 32 32 := ⟨hkb, by omega, by omega, by omega⟩
      have hb1 : ∀ c ∈ kids, ∃ n' s' a b, c = .mk 123 n' s' [a, b] ∧ ((writ F H a).length ≤ 2000000 ∧ BareOk F H a) ∧ ((writ F H b).length ≤ 2000000 ∧ BareOk F H b) := fun c hcm => by
        obtain ⟨n', s', a, b, rfl⟩ := hen c hcm
        have hk2 := txt_kid hcm ht hc
        have hka := txt_kid (v := a) (List.mem_cons_self ..) hk2.1 hk2.2
        have hkb' := txt_kid (v := b) (List.mem_cons_of_mem _ (List.mem_singleton.2 rfl)) hk2.1 hk2.2
        exact ⟨n', s', a, b, rfl, hbr (ha n' s' a b hcm) hkey (by simp [Ty.sig]) hka.1 hka.2, hbr (hb n' s' a b hcm) hoke (by omega) hkb'.1 hkb'.2⟩
      refine parts_dct n _ kids hne hlen (fun c hcm => ?_) (fun c hcm => ?_) (fun c hcm => ?_) (fun c hcm => ?_) (fun c hcm => ?_) (fun c hcm d hd => ?_) hself S x w hw hr h7 h8'
      all_goals
        obtain ⟨n', s', a, b, rfl, h1, h2⟩ := hb1 _ hcm
      · rfl
      · rw [writ_ent]
        have e1 := h1.1
        have e2 := h2.1
        simp only [List.length_append, List.length_cons]
        omega
      · exact ⟨Nat.le_refl 2, Nat.zero_lt_two⟩
      · rw [writ_ent]; rfl
      · simp [onesOf, tells, V.k, V.kids, tellsAll]
      · have hd2 : d ∈ [a, b] := hd
        rcases List.mem_cons.1 hd2 with rfl | hd3
        · exact h1
        · rw [List.mem_singleton] at hd3
          subst hd3
          exact h2
  · have hx : ∃ n s A cap, x = .agg #[.int .u8 v.k, .int .u64 n, .string s, .slice A v.kids.length cap] := by
      obtain ⟨k, n, s, kids⟩ := v
      simp only [Rep] at hr
      obtain ⟨A, cap, rfl, _⟩ := hr
      exact ⟨n, s, A, cap, rfl⟩
    obtain ⟨n, s, A, cap, rfl⟩ := hx
    refine parts_skip (Good v) v.k n s A v.kids.length cap w (fun hgd => ?_) h7 h8
    by_cases hne : v.kids = []
    · exact .inl (by rw [hne]; rfl)
    · right
      constructor
      · exact fun hc => hg ⟨hgd, hne, .inl hc⟩
      · exact fun hc => hg ⟨hgd, hne, .inr hc⟩
end Go.Proofs.YtjbpphomlmlmaaaGreatDoor
