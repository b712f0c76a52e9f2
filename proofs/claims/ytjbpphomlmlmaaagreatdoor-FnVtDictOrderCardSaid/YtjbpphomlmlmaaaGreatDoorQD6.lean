/- The signature of a type: structs; all. -/
import Derived.Test.YtjbpphomlmlmaaaGreatDoorQD5b
namespace Go.Proofs.YtjbpphomlmlmaaaGreatDoor
open Go.RowKit
set_option linter.unusedVariables false
theorem tagGet_calls (x y : Value) (w : World) : Calls Tryz.prog 111 #[x, y] w fun e w' => e = .returned (.string ByteArray.empty) ∧ w' = w := by
  go_enter Tryz.func111, Tryz.ntmps111
  go_wp2_with fail
  go_ret
  exact ⟨rfl, rfl⟩
theorem len_sigs {ts : List Ty} (h : Ty.plains ts) : ts.length ≤ (Ty.sigs ts).length := by
  induction ts with
  | nil => simp
  | cons t l ih =>
    simp only [Ty.plains] at h
    have := ih h.2
    obtain ⟨c, q, hq, _⟩ := Ty.sig_head h.1
    simp [Ty.sigs, hq]; omega
theorem keyeds_mem {ts : List Ty} (h : Ty.keyeds ts) : ∀ t ∈ ts, t.keyed := by
  induction ts with
  | nil => simp
  | cons x l ih =>
    simp only [Ty.keyeds] at h
    intro t ht
    rcases List.mem_cons.1 ht with rfl | ht
    · exact h.1
    · exact ih h.2 t ht
theorem oks_mem {ts : List Ty} {a b e : Int} (h : Ty.oks ts a b e) : ∀ t ∈ ts, t.ok a b e := by
  induction ts with
  | nil => simp
  | cons x l ih =>
    simp only [Ty.oks] at h
    intro t ht
    rcases List.mem_cons.1 ht with rfl | ht
    · exact h.1
    · exact ih h.2 t ht
theorem fld161 (x y z : Value) (w : World) : (Instr.field 161 (.agg #[x, y, z]) 0).run Tryz.prog w = .ok x w := by kernel_rfl
set_option maxRecDepth 100000 in
set_option maxHeartbeats 6400000 in
theorem sig_str (N : Nat) (ih : SigIH N) (ts : List Ty) (hne : ts ≠ []) (htp : Ty.plains ts) (htk : Ty.keyeds ts) (hN : (Ty.sigs ts).length < N) (h255 : (Ty.sigs ts).length + 2 ≤ 255) (p : Nat) (a b d : Int) (ha : 0 ≤ a) (hb : 0 ≤ b) (hd : 0 ≤ d) (ha' : a ≤ 32) (hb' : b ≤ 32) (hd' : d ≤ 32) (hok : Ty.oks ts (32 - a) (32 - (b + 1)) (32 - d)) (w : World) (h : Depth w p a b d) :
    Calls Tryz.prog 70 #[.string (bs (40 :: (ztys ts ++ [41]))), .pointer (some ⟨p, 0, none⟩)] w (GsR (40 :: (Ty.sigs ts ++ [41])) w) := by
  have hmf : ∀ (fn : Fn) (first cap : Array Value) (w : World), (Instr.makeFunc fn first cap).run Tryz.prog w = .ok (.func fn first cap) w := fun _ _ _ _ => rfl
  have HM : ∀ w, Calls Tryz.prog 72 #[.string (bs (40 :: (ztys ts ++ [41])))] w fun e w' => e = .returned (.int .i64 18) ∧ w' = w := kind_calls 40 (by decide) _
  have hfl := fld161
  have M0 := Mid.start h
  have hzl : (ztys ts).length < 100000 := by have := ztys_len ts; omega
  have hne1 : (bs (40 :: (ztys ts ++ [41])) == ({ data := #[118] } : ByteArray)) = false := by
    show ((bs (40 :: (ztys ts ++ [41]))).data == #[118]) = false
    simp [bs]
  have hne2 : (bs (40 :: (ztys ts ++ [41])) == ({ data := #[103] } : ByteArray)) = false := by
    show ((bs (40 :: (ztys ts ++ [41]))).data == #[103]) = false
    simp [bs]
  go_enter_defers Tryz.func70, Tryz.ntmps70
  go_wp2_with (first | (go_at_call 107; refine (depthValid_calls p a b d (by omega) hb' (by omega) _ M0.dep).mono ?_; rintro _ _ ⟨rfl, rfl⟩) | (go_at_call 72; refine (HM _).mono ?_; rintro _ _ ⟨rfl, rfl⟩))
  go_loopw [5, 6] (fun s i wr => ∃ (us vs : List Ty), us ++ vs = ts ∧ s = .string (bs (Ty.sigs us)) ∧ i = .int .i64 us.length ∧ Mid w wr p w.heap.size a b d ByteArray.empty) (fun _ i _ => ts.length - (match i with | .int _ n => n.toNat | _ => 0))
  case atStart => exact ⟨[], ts, rfl, rfl, rfl, M0⟩
  case round =>
    clear M0
    obtain ⟨us, vs, hts, rfl, rfl, M0⟩ := hrel
    cases vs with
    | nil =>
      obtain rfl : us = ts := by simpa using hts
      have hs0 : ((Ty.sigs us).length == 0) = false := by
        cases us with
        | nil => exact absurd rfl hne
        | cons t r => obtain ⟨c, q, hq, _⟩ := Ty.sig_head htp.1; simp [Ty.sigs, hq]
      have hc1 : ¬ 9223372036854775807 < 1 + (Ty.sigs us).length := by omega
      have hc2 : ¬ 9223372036854775807 < 1 + (Ty.sigs us).length + 1 := by omega
      have hbs : ({ data := #[40] } : ByteArray) ++ bs (Ty.sigs us) ++ ({ data := #[41] } : ByteArray) = bs (40 :: (Ty.sigs us ++ [41])) := ba_ext (by simp [bs])
      go_wp2_with (go_at_call 109; refine (numField_calls us htp hzl _).mono ?_; rintro _ w1 ⟨rfl, hb1⟩; have M1 := M0.below hb1; obtain ⟨p0, p1, p2, q0, f0⟩ := M1.cells)
      have M4 := M1.set (Nat.le_refl _) (40 :: (Ty.sigs us ++ [41]))
      exact sig_shut _ (by simp; omega) _ _ w.heap.size _ rfl rfl M4.var M4.bel
    | cons t vs =>
      have hi : us.length < ts.length := by rw [← hts]; simp
      have hget : ts[us.length] = t := by simp [← hts]
      have FC : ∀ w, Calls Tryz.prog 110 #[.string (bs (40 :: (ztys ts ++ [41]))), .int .i64 us.length] w fun e w' => e = .returned (.agg #[.string (bs (zty t)), .string ByteArray.empty, .string ByteArray.empty]) ∧ Below w.heap.size w w' := fun w => by
        have := field_calls ts htp hzl us.length hi w
        rwa [hget] at this
      have HTS := Lib.hid hts
      have htm : t ∈ ts := by rw [← hts]; simp
      have hult : us.length < 1000 := by have := len_sigs htp; omega
      have hlt : decide (us.length < ts.length) = true := by simp; omega
      clear hts hget hi
      go_wp2_with (first
        | (go_at_call 109; refine (numField_calls ts htp hzl _).mono ?_; rintro _ w1 ⟨rfl, hb1⟩; have M1 := M0.below hb1; obtain ⟨p0, p1, p2, q0, f0⟩ := M1.cells)
        | (go_at_call 110; refine (FC _).mono ?_; rintro _ w2 ⟨rfl, hb2⟩; have M2 := M1.below hb2)
        | (go_at_call 111; refine (tagGet_calls _ _ _).mono ?_; rintro _ _ ⟨rfl, rfl⟩))
      have M3 := (M2.below ((Below.refl _ w2).alloc (Nat.le_refl _) (.cells #[.string (bs (zty t)), .string ByteArray.empty, .string ByteArray.empty] 161))).drew
      obtain ⟨p0, p1, p2, q0, f0⟩ := M3.cells
      have hgl : t.sig.length + (Ty.sigs us).length ≤ (Ty.sigs ts).length := by rw [← HTS.out, Ty.sigs_append]; simp [Ty.sigs]; omega
      have htp1 := Ty.plains_mem htp _ htm
      have htk1 := keyeds_mem htk _ htm
      have hok1 := oks_mem hok _ htm
      have hcat : ¬ 9223372036854775807 < (Ty.sigs us).length + t.sig.length := by omega
      have hbs : bs (Ty.sigs us) ++ bs t.sig = bs (Ty.sigs (us ++ [t])) := by rw [Ty.sigs_append]; exact ba_ext (by simp [bs, Ty.sigs])
      have hlen1 : t.sig.length < N := by omega
      have hlen2 : t.sig.length ≤ 255 := by omega
      go_region_held3 (fun w' => w'.cell? ⟨p, 0, none⟩ = some (.int .i64 a) ∧ w'.cell? ⟨p, 1, none⟩ = some (.int .i64 b) ∧ w'.cell? ⟨p, 2, none⟩ = some (.int .i64 d))
        (first | exact ⟨p0, p1, p2⟩ | exact ⟨ma0, ma1, ma2⟩ | exact ⟨mb0, mb1, mb2⟩ | exact ⟨mc0, mc1, mc2⟩)
        (first
          | (go_at_call 110; refine (FC _).mono ?_; rintro _ wa ⟨rfl, hb3⟩; have MA := M3.below hb3; obtain ⟨ma0, ma1, ma2, qa, fa⟩ := MA.cells)
          | (go_at_call 112; refine (enterStruct_calls a b d (by omega) _).mono ?_; rintro _ wb ⟨pb, rfl, hB1, hB2⟩; have MB := MA.below hB2; obtain ⟨mb0, mb1, mb2, qb, fb⟩ := MB.cells)
          | (go_at_call 70; refine (ih t htp1 htk1 hlen1 hlen2 _ a (b + 1) d ha (by omega) hd hok1 _ hB1).mono ?_; rintro _ wc ⟨rfl, hf3⟩; have MC := MB.below hf3; obtain ⟨mc0, mc1, mc2, qc, fc⟩ := MC.cells))
      go_wp2_with fail
      go_roundw
      case rel => exact ⟨us ++ [t], vs, by rw [← HTS.out]; simp, rfl, by simp, MC⟩
      case measure => have := congrArg List.length HTS.out; simp at this ⊢; omega
/-- The signature of a type. -/
theorem sig_calls (N : Nat) : SigIH N := by
  induction N with
  | zero => intro t _ _ h; omega
  | succ N ih =>
    intro t htp htk hN h255 p a b d ha hb hd hok w h
    cases t with
    | basic c =>
      simp only [Ty.ok] at hok
      have hc : ∃ n, (c, n) ∈ ([(121, 7), (98, 1), (110, 3), (113, 8), (105, 4), (117, 9), (104, 9), (120, 5), (116, 10), (100, 11), (115, 17), (111, 17), (103, 18), (118, 18)] : List (UInt8 × Int)) := by
        have := hok.1
        simp only [basicL, List.mem_cons, List.mem_nil_iff, or_false] at this
        rcases this with rfl | rfl | rfl | rfl | rfl | rfl | rfl | rfl | rfl | rfl | rfl | rfl | rfl
        · exact ⟨7, by decide⟩
        · exact ⟨1, by decide⟩
        · exact ⟨3, by decide⟩
        · exact ⟨8, by decide⟩
        · exact ⟨4, by decide⟩
        · exact ⟨9, by decide⟩
        · exact ⟨5, by decide⟩
        · exact ⟨10, by decide⟩
        · exact ⟨11, by decide⟩
        · exact ⟨17, by decide⟩
        · exact ⟨17, by decide⟩
        · exact ⟨18, by decide⟩
        · exact ⟨9, by decide⟩
      obtain ⟨n, hn⟩ := hc
      exact sig_one c n hn p a b d (by omega) (by omega) (by omega) w h
    | var => 
      simp only [Ty.ok] at hok
      exact sig_one 118 18 (by decide) p a b d (by omega) (by omega) (by omega) w h
    | arr t =>
      simp only [Ty.ok] at hok
      simp only [Ty.sig, List.length_cons] at hN h255
      exact sig_arr N ih t htp htk (by omega) (by omega) p a b d ha hb hd (by omega) (by omega) (by omega) (by have := hok.2.2.2; rwa [show 32 - a - 1 = 32 - (a + 1) by omega] at this) w h
    | dict k t =>
      simp only [Ty.ok] at hok
      simp only [Ty.sig, List.length_cons, List.length_append, List.length_nil] at hN h255
      have h5 := hok.2.2.2.2
      have h6 := Ty.ok_nonneg h5
      rw [show 32 - a - 1 = 32 - (a + 1) by omega, show 32 - d - 1 = 32 - (d + 1) by omega] at h5
      exact sig_dict N ih k htk.1 hok.1 t htp.2 htk.2 (by omega) (by omega) (by omega) p a b d ha hb hd (by omega) (by omega) (by omega) h5 w h
    | str ts =>
      simp only [Ty.ok] at hok
      simp only [Ty.sig, List.length_cons, List.length_append, List.length_nil] at hN h255
      exact sig_str N ih ts hok.1 htp htk (by omega) (by omega) p a b d ha hb hd (by omega) (by omega) (by omega) (by have := hok.2.2.2.2; rwa [show 32 - b - 1 = 32 - (b + 1) by omega] at this) w h
end Go.Proofs.YtjbpphomlmlmaaaGreatDoor
