/- Types of values: what a tidy value is. -/
import Derived.Test.YtjbpphomlmlmaaaGreatDoorQB3
import Derived.Test.YtjbpphomlmlmaaaGreatDoorQK3
namespace Go.Proofs.YtjbpphomlmlmaaaGreatDoor
open Go.RowKit
set_option linter.unusedVariables false
/-- A value of a type. -/
inductive HT : V → Ty → Prop
  | num (k n : Int) (s : ByteArray) : (k = 121 ∨ k = 98 ∨ k = 110 ∨ k = 113 ∨ k = 105 ∨ k = 117 ∨ k = 120 ∨ k = 116 ∨ k = 100 ∨ k = 104) → (inRangeB k n = true ∧ s.size = 0) → 0 ≤ n → n < 18446744073709551616 → (k = 100 → finB n.toNat = true) → HT (.mk k n s []) (.basic (UInt8.ofNat k.toNat))
  | txt (k n : Int) (s : ByteArray) : (k = 115 ∨ k = 111 ∨ k = 103) → (s.size ≤ 65536 ∧ n = 0) → HT (.mk k n s []) (.basic (UInt8.ofNat k.toNat))
  | var (n : Int) (s : ByteArray) (v : V) (t : Ty) : HT v t → t.ok 32 32 32 → t.sig.length ≤ 255 → t.keyed → sigL v = t.sig → HT (.mk 118 n s [v]) .var
  | str (n : Int) (s : ByteArray) (kids : List V) (ts : List Ty) : kids ≠ [] → kids.length ≤ 1000 → kids.length = ts.length → (∀ (j : Nat) (v : V) (t : Ty), kids[j]? = some v → ts[j]? = some t → HT v t) → HT (.mk 40 n s kids) (.str ts)
  | arr (n : Int) (s : ByteArray) (kids : List V) (e : Ty) : s.data.toList = e.sig → s.size ≤ 65536 → kids.length ≤ 1000 → e.plain → e.keyed → (∀ v, v ∈ kids → HT v e) → HT (.mk 97 n s kids) (.arr e)
  | dict (n : Int) (s : ByteArray) (kids : List V) (kc : UInt8) (e : Ty) : s.data.toList = 123 :: kc :: (e.sig ++ [125]) → s.size ≤ 65536 → kids.length ≤ 1000 → keyB kc.toNat = true → kc ∈ basicL → e.plain → e.keyed → Fresh kids →
      (∀ v, v ∈ kids → ∃ n' s' a b, v = .mk 123 n' s' [a, b]) → (∀ (n' : Int) (s' : ByteArray) (a b : V), V.mk 123 n' s' [a, b] ∈ kids → HT a (.basic kc)) → (∀ (n' : Int) (s' : ByteArray) (a b : V), V.mk 123 n' s' [a, b] ∈ kids → HT b e) → HT (.mk 97 n s kids) (.dict kc e)

theorem ty_plains_of {ts : List Ty} (h : ∀ (j : Nat) (t : Ty), ts[j]? = some t → t.plain) : Ty.plains ts := by
  induction ts with
  | nil => trivial
  | cons t ts ih => exact ⟨h 0 t rfl, ih fun j t' ht => h (j + 1) t' (by simpa using ht)⟩
theorem ty_keyeds_of {ts : List Ty} (h : ∀ (j : Nat) (t : Ty), ts[j]? = some t → t.keyed) : Ty.keyeds ts := by
  induction ts with
  | nil => trivial
  | cons t ts ih => exact ⟨h 0 t rfl, ih fun j t' ht => h (j + 1) t' (by simpa using ht)⟩
theorem sigs_of : ∀ {kids : List V} {ts : List Ty}, kids.length = ts.length → (∀ (j : Nat) (v : V) (t : Ty), kids[j]? = some v → ts[j]? = some t → sigL v = t.sig) → sigsL kids = Ty.sigs ts
  | [], [], _, _ => rfl
  | [], _ :: _, h, _ => by simp at h
  | _ :: _, [], h, _ => by simp at h
  | v :: vs, t :: ts, h, hk => by
    simp only [sigsL, Ty.sigs]
    rw [hk 0 v t rfl rfl, sigs_of (by simpa using h) fun j v' t' hv ht => hk (j + 1) v' t' (by simpa using hv) (by simpa using ht)]
theorem num_sig {k n : Int} {s : ByteArray} {kids : List V} (h : k ≠ 97 ∧ k ≠ 40 ∧ k ≠ 123) : sigL (.mk k n s kids) = [UInt8.ofNat k.toNat] := by
  simp only [sigL]
  rw [if_neg h.1, if_neg h.2.1, if_neg h.2.2]
theorem HT.facts {v : V} {t : Ty} (h : HT v t) : sigL v = t.sig ∧ t.plain ∧ t.keyed := by
  induction h with
  | num k n s hk _ _ _ _ =>
    refine ⟨?_, ?_, trivial⟩
    · rw [num_sig (by omega)]; rfl
    · rcases hk with rfl | rfl | rfl | rfl | rfl | rfl | rfl | rfl | rfl | rfl <;> simp [Ty.plain, basicL]
  | txt k n s hk _ =>
    refine ⟨?_, ?_, trivial⟩
    · rw [num_sig (by omega)]; rfl
    · rcases hk with rfl | rfl | rfl <;> simp [Ty.plain, basicL]
  | var n s v t _ _ _ _ _ => exact ⟨by rw [num_sig (by decide)]; rfl, trivial, trivial⟩
  | str n s kids ts hne hlen hl hk ih =>
    refine ⟨?_, ?_, ?_⟩
    · simp only [sigL]
      rw [if_neg (by decide), if_pos trivial, sigs_of hl fun j v t hv ht => (ih j v t hv ht).1]
      rfl
    · refine ty_plains_of fun j t ht => ?_
      have hj : j < kids.length := by rw [hl]; exact (List.getElem?_eq_some_iff.1 ht).1
      exact (ih j _ t (List.getElem?_eq_getElem hj) ht).2.1
    · refine ty_keyeds_of fun j t ht => ?_
      have hj : j < kids.length := by rw [hl]; exact (List.getElem?_eq_some_iff.1 ht).1
      exact (ih j _ t (List.getElem?_eq_getElem hj) ht).2.2
  | arr n s kids e hs _ _ hp hk _ _ =>
    refine ⟨?_, hp, hk⟩
    simp only [sigL]
    rw [if_pos trivial, hs]; rfl
  | dict n s kids kc e hs _ _ hkc hkb hp hk _ _ _ _ _ _ =>
    refine ⟨?_, ⟨hkb, hp⟩, ⟨hkc, hk⟩⟩
    simp only [sigL]
    rw [if_pos trivial, hs]; rfl
mutual
def Rng : V → Prop
  | .mk k n _ kids => (0 ≤ k ∧ k ≤ 255) ∧ (0 ≤ n ∧ n < 18446744073709551616) ∧ Rngs kids
def Rngs : List V → Prop
  | [] => True
  | v :: vs => Rng v ∧ Rngs vs
end
theorem Rngs.mem : ∀ {l : List V}, Rngs l → ∀ v ∈ l, Rng v
  | x :: xs, h, v, hv => by
    simp only [Rngs] at h
    rcases List.mem_cons.1 hv with rfl | hv
    · exact h.1
    · exact Rngs.mem h.2 v hv
theorem Rng.k {v : V} (h : Rng v) : 0 ≤ v.k ∧ v.k ≤ 255 := by
  obtain ⟨k, n, s, kids⟩ := v
  simp only [Rng] at h; exact h.1
def KeyL (l : List UInt8) : Prop := ∀ (j : Nat) (c : UInt8), l[j]? = some 123 → l[j + 1]? = some c → keyB c.toNat = true
theorem KeyL.left {a b : List UInt8} (h : KeyL (a ++ b)) : KeyL a := fun j c h1 h2 => by
  have hj := (List.getElem?_eq_some_iff.1 h1).1
  have hj2 := (List.getElem?_eq_some_iff.1 h2).1
  exact h j c (by rw [List.getElem?_append_left hj]; exact h1) (by rw [List.getElem?_append_left hj2]; exact h2)
theorem KeyL.tail {a : UInt8} {b : List UInt8} (h : KeyL (a :: b)) : KeyL b := fun j c h1 h2 => h (j + 1) c (by simpa using h1) (by simpa using h2)
theorem KeyL.right {a b : List UInt8} (h : KeyL (a ++ b)) : KeyL b := by
  induction a with
  | nil => exact h
  | cons x a ih => exact ih h.tail
mutual
theorem keyed_of : ∀ (t : Ty), KeyL t.sig → t.keyed
  | .basic _, _ => trivial
  | .var, _ => trivial
  | .arr t, h => by simp only [Ty.sig] at h; exact keyed_of t h.tail
  | .dict k t, h => by
    simp only [Ty.sig] at h
    exact ⟨h 1 k rfl rfl, keyed_of t h.tail.tail.tail.left⟩
  | .str ts, h => by simp only [Ty.sig] at h; exact keyeds_of ts h.tail.left
theorem keyeds_of : ∀ (ts : List Ty), KeyL (Ty.sigs ts) → Ty.keyeds ts
  | [], _ => trivial
  | t :: ts, h => by simp only [Ty.sigs] at h; exact ⟨keyed_of t h.left, keyeds_of ts h.right⟩
end
theorem basic_mem' {k : Int} (h : basicB k = true) (hk : 0 ≤ k ∧ k ≤ 255) : UInt8.ofNat k.toNat ∈ basicL := by
  simp only [basicB, Bool.or_eq_true, beq_iff_eq] at h
  rcases h with (((((((((((rfl | rfl) | rfl) | rfl) | rfl) | rfl) | rfl) | rfl) | rfl) | rfl) | rfl) | rfl) | rfl <;> decide
theorem Tid.typed (N : Nat) : ∀ (v : V), SizeOf.sizeOf v < N → Rng v → Tid v → v.k ≠ 123 → ∃ T : Ty, T.plain ∧ sigL v = T.sig := by
  induction N with
  | zero => intro v h; omega
  | succ N ih =>
    rintro ⟨k, n, s, kids⟩ hN hR hT hk
    simp only [V.k] at hk
    simp only [Rng] at hR
    simp only [Tid] at hT
    have h3 := hT.2.2
    split at h3
    · refine ⟨.basic (UInt8.ofNat k.toNat), ?_, ?_⟩
      · rename_i h4; rcases h4 with rfl | rfl | rfl <;> simp [Ty.plain, basicL]
      · rw [num_sig (by omega)]; rfl
    · split at h3
      · subst k
        obtain ⟨⟨T, hp, he⟩, _⟩ := h3
        exact ⟨T, hp, by simp only [sigL]; rw [if_pos trivial, he]⟩
      · split at h3
        · rename_i h97 h4
          obtain rfl : k = 40 := by omega
          obtain ⟨hne, h33, hf⟩ := h3
          clear h33
          have : ∃ ts : List Ty, Ty.plains ts ∧ sigsL kids = Ty.sigs ts := by
            have hsz : ∀ v ∈ kids, SizeOf.sizeOf v < N := fun v hv => by
              have := List.sizeOf_lt_of_mem hv
              simp at hN; omega
            have hr := hR.2.2
            clear hN hT hR hne
            induction kids with
            | nil => exact ⟨[], trivial, rfl⟩
            | cons v vs ihv =>
              simp only [TidFields] at hf
              simp only [Rngs] at hr
              obtain ⟨T, hp, he⟩ := ih v (hsz v (by simp)) hr.1 hf.1.2 hf.1.1
              obtain ⟨ts, hps, hes⟩ := ihv hf.2 (fun v hv => hsz v (by simp [hv])) hr.2
              exact ⟨T :: ts, ⟨hp, hps⟩, by simp only [sigsL, Ty.sigs, he, hes]⟩
          obtain ⟨ts, hp, he⟩ := this
          exact ⟨.str ts, hp, by simp only [sigL]; rw [if_neg (by decide), if_pos trivial, he]; rfl⟩
        · split at h3
          · subst k
            exact ⟨.var, trivial, by rw [num_sig (by decide)]; rfl⟩
          · refine ⟨.basic (UInt8.ofNat k.toNat), ?_, ?_⟩
            · exact basic_mem' h3.1 hR.1
            · rw [num_sig (by omega)]; rfl
theorem sigs_one {ts : List Ty} {T : Ty} (hts : Ty.plains ts) (hT : T.plain) (h : Ty.sigs ts = T.sig) : ts = [T] := by
  cases ts with
  | nil => obtain ⟨c, r, hc, _⟩ := Ty.sig_head hT; rw [hc] at h; simp [Ty.sigs] at h
  | cons t r =>
    simp only [Ty.sigs] at h
    simp only [Ty.plains] at hts
    obtain ⟨rfl, hr⟩ := Ty.sig_inj (q := []) hts.1 hT (by simpa using h)
    cases r with
    | nil => rfl
    | cons u r =>
      simp only [Ty.plains] at hts
      obtain ⟨c, w, hc, _⟩ := Ty.sig_head hts.2.1
      simp [Ty.sigs, hc] at hr
theorem u8_back {k : Int} (h : 0 ≤ k ∧ k ≤ 255) {c : UInt8} (e : UInt8.ofNat k.toNat = c) : k = c.toNat := by
  subst e
  simp [UInt8.toNat_ofNat']
  omega
theorem txt_mem : ∀ {l : List V} {v : V}, v ∈ l → v.txt ≤ V.txts l
  | x :: l, v, hv => by
    simp only [V.txts]
    rcases List.mem_cons.1 hv with rfl | hv
    · omega
    · have := txt_mem hv; omega
theorem cnt_mem : ∀ {l : List V} {v : V}, v ∈ l → v.cnt ≤ V.cnts l
  | x :: l, v, hv => by
    simp only [V.cnts]
    rcases List.mem_cons.1 hv with rfl | hv
    · omega
    · have := cnt_mem hv; omega
theorem len_cnts : ∀ (l : List V), l.length ≤ V.cnts l
  | [] => by simp
  | .mk a b c d :: l => by have := len_cnts l; simp only [V.cnts, V.cnt, List.length_cons]; omega
theorem SteadyAll.mem : ∀ {l : List V}, SteadyAll l → ∀ v ∈ l, Steady v
  | x :: l, h, v, hv => by
    simp only [SteadyAll] at h
    rcases List.mem_cons.1 hv with rfl | hv
    · exact h.1
    · exact h.2.mem v hv
theorem types_of : ∀ {kids : List V}, (∀ v ∈ kids, ∃ T : Ty, T.plain ∧ sigL v = T.sig) → ∃ us : List Ty, Ty.plains us ∧ kids.length = us.length ∧ ∀ (j : Nat) (v : V) (t : Ty), kids[j]? = some v → us[j]? = some t → sigL v = t.sig
  | [], _ => ⟨[], trivial, rfl, by simp⟩
  | x :: l, hty => by
    obtain ⟨T, h1, h2⟩ := hty x (by simp)
    obtain ⟨us, h3, h4, h5⟩ := types_of (kids := l) fun v hv => hty v (by simp [hv])
    refine ⟨T :: us, ⟨h1, h3⟩, by simp [h4], fun j v t hv ht => ?_⟩
    cases j with
    | zero => simp at hv ht; subst hv ht; exact h2
    | succ j => exact h5 j v t (by simpa using hv) (by simpa using ht)
theorem HT_of (N : Nat) : ∀ (v : V), SizeOf.sizeOf v < N → Rng v → Tid v → Steady v → v.txt ≤ 65536 → v.cnt ≤ 1000 → v.k ≠ 123 → ∀ (t : Ty), t.plain → sigL v = t.sig → HT v t := by
  induction N with
  | zero => intro v h; omega
  | succ N ih =>
    rintro ⟨k, n, s, kids⟩ hN hR hT hS htx hct hk t htp hst
    simp only [V.k] at hk
    have hR0 := hR
    simp only [Rng] at hR
    have hkids : ∀ v ∈ kids, SizeOf.sizeOf v < N ∧ Rng v ∧ v.txt ≤ 65536 ∧ v.cnt ≤ 1000 := fun v hv => by
      have h1 := List.sizeOf_lt_of_mem hv
      have h2 := hR.2.2.mem v hv
      simp only [V.txt] at htx
      simp only [V.cnt] at hct
      have h3 : v.txt ≤ V.txts kids := txt_mem hv
      have h4 : v.cnt ≤ V.cnts kids := cnt_mem hv
      simp at hN
      exact ⟨by omega, h2, by omega, by omega⟩
    have hlen : kids.length ≤ 1000 := by
      have : kids.length ≤ V.cnts kids := len_cnts kids
      simp only [V.cnt] at hct; omega
    have hsz : s.size ≤ 65536 := by simp only [V.txt] at htx; omega
    have hsteady : ∀ v ∈ kids, Steady v := by
      simp only [Steady] at hS
      exact hS.2.2.2.mem
    have hT0 := hT
    simp only [Tid] at hT
    have h3 := hT.2.2
    split at h3
    · rename_i h4
      subst h3
      rw [num_sig (by omega)] at hst
      obtain rfl : t = .basic (UInt8.ofNat k.toNat) := Ty.sig_inj' htp (by rcases h4 with rfl | rfl | rfl <;> simp [Ty.plain, basicL]) (by rw [← hst]; rfl)
      exact .txt k n s h4 ⟨hsz, by have := hT.1; rcases h4 with rfl | rfl | rfl <;> simpa [inRangeB] using this⟩
    · rename_i hx1
      split at h3
      · subst k
        simp only [sigL] at hst
        rw [if_pos trivial] at hst
        have hkl : KeyL s.data.toList := by simp only [Steady] at hS; exact hS.2.1 trivial
        cases t with
        | basic c => simp only [Ty.sig, List.cons.injEq] at hst; exact absurd hst.1.symm (basic_ne htp).2.1
        | var => simp [Ty.sig] at hst
        | str ts => simp [Ty.sig] at hst
        | arr e =>
          simp only [Ty.sig, List.cons.injEq, true_and] at hst
          refine .arr n s kids e hst hsz hlen htp (keyed_of e (hst ▸ hkl)) fun v hv => ?_
          obtain ⟨j, hj, rfl⟩ := List.mem_iff_getElem.1 hv
          have ha := h3.2.at_ j hj
          obtain ⟨g1, g2, g3, g4⟩ := hkids _ hv
          refine ih _ g1 g2 ha.2 (hsteady _ hv) g3 g4 ?_ e htp (by rw [ha.1, hst])
          intro hc
          obtain ⟨c, r, hcr, _, _, h123⟩ := Ty.sig_head (t := e) htp
          have := sigL_head (v := kids[j])
          rw [ha.1, hst, hcr, hc] at this
          simp at this
          exact h123 this
        | dict kc e =>
          simp only [Ty.sig, List.cons.injEq, true_and] at hst
          simp only [Ty.plain] at htp
          have hkd : (Ty.dict kc e).keyed := by
            have : KeyL (97 :: s.data.toList) := fun j c h1 h2 => by
              cases j with
              | zero => simp at h1
              | succ j => exact hkl j c (by simpa using h1) (by simpa using h2)
            rw [hst] at this
            exact keyed_of (.dict kc e) this
          have hent : ∀ v ∈ kids, ∃ n' s' a b, v = V.mk 123 n' s' [a, b] ∧ HT a (.basic kc) ∧ HT b e := fun v hv => by
            obtain ⟨j, hj, rfl⟩ := List.mem_iff_getElem.1 hv
            have ha := h3.2.at_ j hj
            obtain ⟨g1, g2, g3, g4⟩ := hkids _ hv
            have gs := hsteady _ hv
            generalize kids[j] = v at *
            have hk3 : v.k = 123 := by
              have := sigL_head (v := v)
              rw [ha.1, hst] at this
              simp at this
              have := u8_back g2.k this.symm
              simpa using this
            obtain ⟨a, b, hab, hak, hbas, hTa, hTb, hb3⟩ := ha.2.entry hk3
            obtain ⟨k', n', s', kids'⟩ := v
            simp only [V.kids] at hab
            simp only [V.k] at hk3
            subst hk3 hab
            have hsg := ha.1
            rw [hst] at hsg
            simp only [sigL] at hsg
            rw [if_neg (by decide), if_neg (by decide), if_pos trivial] at hsg
            simp only [sigsL, List.append_nil, List.cons.injEq, true_and] at hsg
            simp only [Rng, Rngs] at g2
            have hak' : a.k ≠ 97 ∧ a.k ≠ 40 ∧ a.k ≠ 123 := by
              simp only [basicB, Bool.or_eq_true, beq_iff_eq] at hbas; omega
            have hsa : sigL a = [UInt8.ofNat a.k.toNat] := by
              obtain ⟨ka, na, sa, la⟩ := a
              exact num_sig hak'
            rw [hsa] at hsg
            simp only [List.cons_append, List.nil_append, List.cons.injEq] at hsg
            obtain ⟨hka, hsb⟩ := hsg
            have hsb' : sigL b = e.sig := List.append_cancel_right hsb
            simp only [V.txt, V.txts, V.cnt, V.cnts] at g3 g4
            simp at g1
            simp only [Steady, SteadyAll] at gs
            refine ⟨n', s', a, b, rfl, ?_, ?_⟩
            · exact ih a (by omega) g2.2.2.1 hTa gs.2.2.2.1 (by omega) (by omega) hak'.2.2 _ htp.1 (by rw [hsa, hka]; rfl)
            · exact ih b (by omega) g2.2.2.2.1 hTb gs.2.2.2.2.1 (by omega) (by omega) hb3 e htp.2 hsb'
          refine .dict n s kids kc e hst hsz hlen hkd.1 htp.1 htp.2 hkd.2 (by simp only [Steady] at hS; exact hS.2.2.1 (by decide)) (fun v hv => ?_) (fun n' s' a b hv => ?_) (fun n' s' a b hv => ?_)
          · obtain ⟨n', s', a, b, h, _⟩ := hent v hv; exact ⟨n', s', a, b, h⟩
          · obtain ⟨n', s', a, b, h, h1, _⟩ := hent _ hv; simp only [V.mk.injEq, List.cons.injEq, and_true, true_and] at h; obtain ⟨_, _, rfl, rfl⟩ := h; exact h1
          · obtain ⟨n', s', a, b, h, _, h1⟩ := hent _ hv; simp only [V.mk.injEq, List.cons.injEq, and_true, true_and] at h; obtain ⟨_, _, rfl, rfl⟩ := h; exact h1
      · rename_i hx2
        split at h3
        · rename_i h4
          obtain rfl : k = 40 := by omega
          obtain ⟨hne, _, hf⟩ := h3
          simp only [sigL] at hst
          rw [if_neg (by decide), if_pos trivial] at hst
          cases t with
          | basic c => simp only [Ty.sig, List.cons.injEq] at hst; exact absurd hst.1.symm (basic_ne htp).2.2.1
          | var => simp [Ty.sig] at hst
          | arr e => simp [Ty.sig] at hst
          | dict kc e => simp [Ty.sig] at hst
          | str ts =>
            simp only [Ty.sig, List.cons.injEq, true_and] at hst
            simp only [Ty.plain] at htp
            have hty : ∀ v ∈ kids, ∃ T : Ty, T.plain ∧ sigL v = T.sig := fun v hv => by
              obtain ⟨j, hj, rfl⟩ := List.mem_iff_getElem.1 hv
              obtain ⟨g1, g2, _, _⟩ := hkids _ hv
              exact Tid.typed N _ g1 g2 (hf.at_ j hj).2 (hf.at_ j hj).1
            obtain ⟨us, hup, hul, hus⟩ := types_of hty
            rw [sigs_of hul hus] at hst
            obtain ⟨rfl, _⟩ := Ty.sigs_inj (r := []) (q := []) hup htp hst
            refine .str n s kids us hne hlen hul fun j v t hv ht => ?_
            have hm : v ∈ kids := List.mem_of_getElem? hv
            obtain ⟨g1, g2, g3, g4⟩ := hkids _ hm
            obtain ⟨hj, rfl⟩ := List.getElem?_eq_some_iff.1 hv
            exact ih _ g1 g2 (hf.at_ j hj).2 (hsteady _ hm) g3 g4 (hf.at_ j hj).1 t (Ty.plains_mem hup t (List.mem_of_getElem? ht)) (hus j _ t hv ht)
        · rename_i h4
          split at h3
          · subst k
            rw [num_sig (by decide)] at hst
            obtain rfl : t = .var := Ty.sig_inj' htp trivial (by rw [← hst]; rfl)
            cases kids with
            | nil => simp [TidVar] at h3
            | cons c r =>
              simp only [TidVar] at h3
              obtain ⟨rfl, hc3, hcl, ⟨ts, hok, hts⟩, hTc⟩ := h3
              obtain ⟨g1, g2, g3, g4⟩ := hkids c (by simp)
              obtain ⟨T, hTp, hTs⟩ := Tid.typed N c g1 g2 hTc hc3
              obtain rfl := sigs_one (Ty.oks_plains hok) hTp (by rw [← hts, hTs])
              have hH := ih c g1 g2 hTc (hsteady c (by simp)) g3 g4 hc3 T hTp hTs
              exact .var n s c T hH hok.1 (by rw [← hTs]; exact hcl) hH.facts.2.2 hTs
          · obtain ⟨hb, rfl⟩ := h3
            rw [num_sig (by omega)] at hst
            obtain rfl : t = .basic (UInt8.ofNat k.toNat) := Ty.sig_inj' htp (basic_mem' hb hR.1) (by rw [← hst]; rfl)
            simp only [Steady] at hS
            refine .num k n s ?_ ⟨hT.1, hT.2.1 (by assumption) (by omega) (by omega) (by omega)⟩ hR.2.1.1 hR.2.1.2 hS.1
            simp only [basicB, Bool.or_eq_true, beq_iff_eq] at hb
            omega
end Go.Proofs.YtjbpphomlmlmaaaGreatDoor
