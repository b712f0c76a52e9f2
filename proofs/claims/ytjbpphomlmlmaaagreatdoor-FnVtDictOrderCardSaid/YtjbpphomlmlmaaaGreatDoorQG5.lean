/- How a value is written: all kinds; the law FnVtPrefix's walk. -/
import Derived.Test.YtjbpphomlmlmaaaGreatDoorQG4
import Derived.Test.YtjbpphomlmlmaaaGreatDoorQF5
namespace Go.Proofs.YtjbpphomlmlmaaaGreatDoor
open Go.RowKit
set_option linter.unusedVariables false
set_option linter.unusedSimpArgs false
theorem ar_num {S : Nat → Prop} {w : World} {k n : Int} {s : ByteArray} {kids : List V} {x : Value} (hk : k ≠ 123 ∧ k ≠ 118 ∧ k ≠ 40 ∧ k ≠ 97) (hA : AR S w (.mk k n s kids) x) : numV k n s = x := by
  simp only [AR] at hA
  rw [if_neg hk.1, if_neg hk.2.1, if_neg hk.2.2.1, if_neg hk.2.2.2] at hA
  exact hA.symm
theorem fm_num {F H : Nat → List UInt8} (hF : FH F H) {k n : Int} {s : ByteArray} (hk : k = 121 ∨ k = 98 ∨ k = 110 ∨ k = 113 ∨ k = 105 ∨ k = 117 ∨ k = 120 ∨ k = 116 ∨ k = 100 ∨ k = 104) (hr : inRangeB k n = true ∧ s.size = 0) (h0 : 0 ≤ n) (h1 : n < 18446744073709551616) (hf : k = 100 → finB n.toNat = true) :
    FmtV F H (.mk k n s []) (.basic (UInt8.ofNat k.toNat)) := by
  intro S u y w hw hA
  have hT : HT (.mk k n s []) (.basic (UInt8.ofNat k.toNat)) := HT.num k n s hk hr h0 h1 hf
  have hx := ar_num (by omega) hA
  have h255 : (Ty.basic (UInt8.ofNat k.toNat)).sig.length ≤ 255 := by simp [Ty.sig]
  unfold FmR
  rw [writ_num F H hk]
  have hi : ∀ (ty : TypeId) (ik : IntKind) (a : Int), numV k n s = .iface ty (.int ik a) → ((ty = 73 ∧ ik = .i16 ∧ -32768 ≤ a ∧ a < 32768) ∨ (ty = 21 ∧ ik = .i32 ∧ -2147483648 ≤ a ∧ a < 2147483648) ∨ (ty = 2 ∧ ik = .i64 ∧ -9223372036854775808 ≤ a ∧ a < 9223372036854775808)) →
      ∀ w', Below w.heap.size w w' → Calls Tryz.prog 79 #[.iface u y] w' fun e w'' => e = .returned (.string ⟨(Lib.itoa a).toArray⟩) ∧ Below w'.heap.size w' w'' := by
    intro ty ik a he hu w' hb
    rw [hx] at he
    cases he
    exact sprint_int hT h255 S _ _ _ hu w' (hw.below hb) (hA.below hb)
  have hu : ∀ (ty : TypeId) (ik : IntKind) (a : Nat), numV k n s = .iface ty (.int ik a) → ((ty = 74 ∧ ik = .u16 ∧ (0:Int) ≤ a ∧ (a:Int) < 65536) ∨ (ty = 75 ∧ ik = .u32 ∧ (0:Int) ≤ a ∧ (a:Int) < 4294967296) ∨ (ty = 22 ∧ ik = .u64 ∧ (0:Int) ≤ a ∧ (a:Int) < 18446744073709551616) ∨ (ty = 77 ∧ ik = .u32 ∧ (0:Int) ≤ a ∧ (a:Int) < 4294967296)) →
      ∀ w', Below w.heap.size w w' → Calls Tryz.prog 79 #[.iface u y] w' fun e w'' => e = .returned (.string ⟨(Lib.decDigits a).toArray⟩) ∧ Below w'.heap.size w' w'' := by
    intro ty ik a he hu w' hb
    rw [hx] at he
    cases he
    exact sprint_uint hT h255 S _ _ _ hu w' (hw.below hb) (hA.below hb)
  have hnn : ((n.toNat : Nat) : Int) = n := by omega
  rcases hk with rfl | rfl | rfl | rfl | rfl | rfl | rfl | rfl | rfl | rfl
  · have e1 := wrap_y h0 hr.1
    have e2 : numV 121 n s = .iface 5 (.int .u8 (n.toNat : Int)) := by simp [numV, e1.1, hnn]
    rw [e2] at hx
    cases hx
    exact fm_byte n.toNat (by omega) (H n.toNat) (hF.hlen _) w fun w' hb => hF.h n.toNat (by omega) w' (hw.below hb)
  · have e2 : numV 98 n s = .iface 4 (.bool (n != 0)) := by simp [numV]
    rw [e2] at hx
    cases hx
    exact fm_sprint (c := 98) (by decide) (Lib.formatBool (n != 0)) w ⟨_, _, rfl⟩ fun w' hb => sprint_bool _ w'
  · have e1 := wrap_n h0 h1 hr.1
    exact fm_sprint (c := 110) (by decide) (Lib.itoa (sgn n)) w ⟨_, _, rfl⟩ (hi 73 .i16 (sgn n) (by simp [numV, e1.1]) (.inl ⟨rfl, rfl, e1.2.1, e1.2.2⟩))
  · have e1 := wrap_q h0 hr.1
    exact fm_sprint (c := 113) (by decide) (Lib.decDigits n.toNat) w ⟨_, _, rfl⟩ (hu 74 .u16 n.toNat (by simp [numV, e1.1, hnn]) (.inl ⟨rfl, rfl, by omega, by omega⟩))
  · have e1 := wrap_i h0 h1 hr.1
    exact fm_sprint (c := 105) (by decide) (Lib.itoa (sgn n)) w ⟨_, _, rfl⟩ (hi 21 .i32 (sgn n) (by simp [numV, e1.1]) (.inr (.inl ⟨rfl, rfl, e1.2.1, e1.2.2⟩)))
  · have e1 := wrap_u h0 (.inl rfl) hr.1
    exact fm_sprint (c := 117) (by decide) (Lib.decDigits n.toNat) w ⟨_, _, rfl⟩ (hu 75 .u32 n.toNat (by simp [numV, e1.1, hnn]) (.inr (.inl ⟨rfl, rfl, by omega, by omega⟩)))
  · have e1 := wrap_x h0 h1
    exact fm_sprint (c := 120) (by decide) (Lib.itoa (sgn n)) w ⟨_, _, rfl⟩ (hi 2 .i64 (sgn n) (by simp [numV, e1.1]) (.inr (.inr ⟨rfl, rfl, e1.2.1, e1.2.2⟩)))
  · exact fm_sprint (c := 116) (by decide) (Lib.decDigits n.toNat) w ⟨_, _, rfl⟩ (hu 22 .u64 n.toNat (by simp [numV, hnn]) (.inr (.inr (.inl ⟨rfl, rfl, by omega, by omega⟩))))
  · have e2 : numV 100 n s = .iface 48 (.float .f64 n.toNat) := by simp [numV]
    rw [e2] at hx
    cases hx
    exact fm_sprint (c := 100) (by decide) (F n.toNat) w ⟨_, _, rfl⟩ fun w' hb => sprint_float hF n.toNat (by omega) (hf rfl) w' (hw.below hb)
  · have e1 := wrap_u h0 (.inr rfl) hr.1
    exact fm_sprint (c := 104) (by decide) (Lib.decDigits n.toNat) w ⟨_, _, rfl⟩ (hu 77 .u32 n.toNat (by simp [numV, e1.1, hnn]) (.inr (.inr (.inr ⟨rfl, rfl, by omega, by omega⟩))))
theorem fm_text {F H : Nat → List UInt8} {k n : Int} {s : ByteArray} (hk : k = 115 ∨ k = 111 ∨ k = 103) (hr : s.size ≤ 65536) : FmtV F H (.mk k n s []) (.basic (UInt8.ofNat k.toNat)) := by
  intro S u y w hw hA
  have hx := ar_num (by omega) hA
  unfold FmR
  rw [writ_txt F H hk]
  have hq : ∀ w', Below w.heap.size w w' → Calls Tryz.prog 35 #[.string s] w' fun e w'' => e = .returned (.string ⟨(quoteT s).toArray⟩) ∧ Below w'.heap.size w' w'' := fun w' hb =>
    Tryz.strconv_Quote Lib.goPrintTabs s w' (by omega) (hw.below hb).base.print (hw.below hb).base.utf8
  rcases hk with rfl | rfl | rfl
  · have := fm_txt (c := 115) s _ (by decide) w hq
    rw [← hx]; exact this
  · have := fm_txt (c := 111) s _ (by decide) w hq
    rw [← hx]; exact this
  · have := fm_txt (c := 103) s _ (by decide) w hq
    rw [← hx]; exact this
theorem txt_kid {kids : List V} {v : V} (h : v ∈ kids) {k n : Int} {s : ByteArray} (ht : (V.mk k n s kids).txt ≤ 65536) (hc : (V.mk k n s kids).cnt ≤ 1000) : v.txt ≤ 65536 ∧ v.cnt ≤ 1000 := by
  have h1 := txt_mem h
  have h2 := cnt_mem h
  simp only [V.txt, V.cnt] at ht hc
  omega
theorem wl_of {F H : Nat → List UInt8} (hF : FH F H) {v : V} {t : Ty} (h : HT v t) (ht : v.txt ≤ 65536) (hc : v.cnt ≤ 1000) : (writ F H v).length ≤ 2000000 := by
  have := writ_len hF.flen hF.hlen h
  omega
theorem fmt_calls {F H : Nat → List UInt8} (hF : FH F H) {v : V} {t : Ty} (h : HT v t) : t.ok 32 32 32 → t.sig.length ≤ 255 → v.txt ≤ 65536 → v.cnt ≤ 1000 → FmtV F H v t := by
  induction h with
  | num k n s hk hr h0 h1 hf => exact fun _ _ _ _ => fm_num hF hk hr h0 h1 hf
  | txt k n s hk hr => exact fun _ _ _ _ => fm_text hk hr.1
  | var n s v t hv hok h255 hke hs ih =>
    intro _ _ ht hc S u y w hw hA
    have hk := txt_kid (List.mem_singleton.2 rfl) ht hc
    have hF1 := ih hok h255 hk.1 hk.2
    simp only [AR] at hA
    rw [if_neg (by decide), if_pos trivial] at hA
    obtain ⟨y0, hx, hAl⟩ := hA
    simp only [ARl] at hAl
    obtain ⟨y1, r1, e1, hA1, _⟩ := hAl
    obtain ⟨rfl, _⟩ := List.cons.inj e1
    obtain ⟨u1, z1, rfl⟩ := hA1.iface hv.kind
    simp only [List.headD_cons] at hx
    cases hx
    rw [hs]
    have := fm_var t.sig h255 u1 z1 (writ F H v) (by have := wl_of hF hv hk.1 hk.2; omega) (tells v) w (fun w' hb => hF1 S u1 z1 w' (hw.below hb) (hA1.below hb))
    refine this.mono ?_
    rintro e w' ⟨rfl, hb⟩
    refine ⟨?_, hb⟩
    rw [writ_var]
    unfold textOf
    rw [hs]
    rfl
  | str n s kids ts hne hlen hl hk ih =>
    intro hok h255 ht hc
    have hT : HT (.mk 40 n s kids) (.str ts) := HT.str n s kids ts hne hlen hl hk
    simp only [Ty.ok] at hok
    have hget : ∀ c ∈ kids, ∃ (j : Nat) (t : Ty), kids[j]? = some c ∧ ts[j]? = some t := fun c hc => by
      obtain ⟨j, hj, rfl⟩ := List.mem_iff_getElem.1 hc
      exact ⟨j, ts[j]'(by omega), List.getElem?_eq_getElem hj, List.getElem?_eq_getElem (by omega)⟩
    refine fmt_struct n s ts kids hT (Ty.oks_mono hok.2.2.2.2 (by omega) (by omega) (by omega)) h255 hne hlen hl hk (fun v hv => ?_) (fun j v t h1 h2 => ?_)
    · obtain ⟨j, t, h1, h2⟩ := hget v hv
      have hkk := txt_kid hv ht hc
      exact wl_of hF (hk j v t h1 h2) hkk.1 hkk.2
    · have hm := List.mem_of_getElem? h2
      have hkk := txt_kid (List.mem_of_getElem? h1) ht hc
      refine ih j v t h1 h2 (Ty.ok_mono (oks_mem hok.2.2.2.2 t hm) (by omega) (by omega) (by omega)) ?_ hkk.1 hkk.2
      have := sig_mem_len hm
      simp only [Ty.sig, List.length_cons, List.length_append, List.length_nil] at h255
      omega
  | arr n s kids e hs hsz hlen hp hke hk ih =>
    intro hok h255 ht hc
    have hT : HT (.mk 97 n s kids) (.arr e) := HT.arr n s kids e hs hsz hlen hp hke hk
    simp only [Ty.ok] at hok
    simp only [Ty.sig, List.length_cons] at h255
    have hoke : e.ok 32 32 32 := Ty.ok_mono hok.2.2.2 (by omega) (by omega) (by omega)
    obtain rfl : s = bs e.sig := ba_ext (by rw [hs]; rfl)
    exact fmt_list n e kids hT hp hoke (by omega) hlen hk (fun v hv => wl_of hF (hk v hv) (txt_kid hv ht hc).1 (txt_kid hv ht hc).2) (fun v hv => writ_ne hF.fne (hk v hv)) (fun v hv => ih v hv hoke (by omega) (txt_kid hv ht hc).1 (txt_kid hv ht hc).2)
  | dict n s kids kc e hs hsz hlen hkc hkb hp hke hfr hen ha hb iha ihb =>
    intro hok h255 ht hc
    have hT : HT (.mk 97 n s kids) (.dict kc e) := HT.dict n s kids kc e hs hsz hlen hkc hkb hp hke hfr hen ha hb
    simp only [Ty.ok] at hok
    have h255' := h255
    simp only [Ty.sig, List.length_cons, List.length_append, List.length_nil] at h255'
    have hoke : e.ok 32 32 32 := Ty.ok_mono hok.2.2.2.2 (by omega) (by omega) (by omega)
    obtain rfl : s = bs (123 :: kc :: (e.sig ++ [125])) := ba_ext (by rw [hs]; rfl)
    refine fmt_dict n kc e kids hT hkc hkb hoke h255 hlen hfr fun v hv => ?_
    obtain ⟨n', s', a, b, rfl⟩ := hen v hv
    have hkk := txt_kid hv ht hc
    have hka := txt_kid (v := a) (List.mem_cons_self ..) hkk.1 hkk.2
    have hkb' := txt_kid (v := b) (List.mem_cons_of_mem _ (List.mem_singleton.2 rfl)) hkk.1 hkk.2
    exact ⟨n', s', a, b, rfl, ha n' s' a b hv, hb n' s' a b hv, iha n' s' a b hv ⟨hkb, by omega, by omega, by omega⟩ (by simp [Ty.sig]) hka.1 hka.2, ihb n' s' a b hv hoke (by omega) hkb'.1 hkb'.2, wl_of hF (ha n' s' a b hv) hka.1 hka.2, wl_of hF (hb n' s' a b hv) hkb'.1 hkb'.2⟩
end Go.Proofs.YtjbpphomlmlmaaaGreatDoor
