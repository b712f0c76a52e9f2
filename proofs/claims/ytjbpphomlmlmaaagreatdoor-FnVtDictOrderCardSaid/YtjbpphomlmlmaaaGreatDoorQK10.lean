/- The value with the entries of its dicts turned: of the same type, with the same text. -/
import Derived.Test.YtjbpphomlmlmaaaGreatDoorQH
import Derived.Test.YtjbpphomlmlmaaaGreatDoorQE17
namespace Go.Proofs.YtjbpphomlmlmaaaGreatDoor
open Go.RowKit
set_option linter.unusedVariables false
set_option linter.unusedSimpArgs false
def rotL {α : Type} (t : Nat) (l : List α) : List α := l.drop (t % l.length) ++ l.take (t % l.length)
theorem rotL_perm {α : Type} (t : Nat) (l : List α) : (rotL t l).Perm l := by
  unfold rotL
  refine List.perm_append_comm.trans ?_
  rw [List.take_append_drop]
theorem rotL_length {α : Type} (t : Nat) (l : List α) : (rotL t l).length = l.length := (rotL_perm t l).length_eq
theorem rotL_get {α : Type} (t : Nat) (l : List α) (i : Nat) (hi : i < l.length) : (rotL t l)[i]? = l[(i + t) % l.length]? := by
  unfold rotL
  have hm : t % l.length < l.length := Nat.mod_lt _ (by omega)
  rw [← Nat.add_mod_mod i t]
  generalize t % l.length = m at *
  by_cases h : i < l.length - m
  · rw [List.getElem?_append_left (by rw [List.length_drop]; exact h), List.getElem?_drop, Nat.mod_eq_of_lt (by omega), Nat.add_comm]
  · rw [List.getElem?_append_right (by rw [List.length_drop]; omega), List.length_drop, List.getElem?_take_of_lt (by omega), Nat.mod_eq_sub_mod (by omega), Nat.mod_eq_of_lt (by omega)]
    congr 1
    omega
mutual
def turned (t : Nat) : V → V
  | .mk k n s kids => .mk k n s (if k = 97 ∧ s.data.toList.head? = some 123 then rotL t (turneds t kids) else turneds t kids)
def turneds (t : Nat) : List V → List V
  | [] => []
  | v :: vs => turned t v :: turneds t vs
end
theorem turneds_eq (t : Nat) (l : List V) : turneds t l = l.map (turned t) := by
  induction l with
  | nil => simp [turneds]
  | cons v vs ih => simp [turneds, ih]
theorem tellsAll_all (l : List V) : tellsAll l = l.all tells := by
  induction l with
  | nil => simp [tellsAll]
  | cons v vs ih => simp [tellsAll, ih]
theorem txts_sum (l : List V) : V.txts l = (l.map V.txt).sum := by
  induction l with
  | nil => simp [V.txts]
  | cons v vs ih => simp [V.txts, ih]
theorem cnts_sum (l : List V) : V.cnts l = (l.map V.cnt).sum := by
  induction l with
  | nil => simp [V.cnts]
  | cons v vs ih => simp [V.cnts, ih]
theorem sort_of_perm {a b : List (List UInt8)} (h : a.Perm b) : (a.mergeSort fun x y => decide (x ≤ y)) = b.mergeSort fun x y => decide (x ≤ y) := by
  have htr : ∀ (a b c : List UInt8), decide (a ≤ b) = true → decide (b ≤ c) = true → decide (a ≤ c) = true := fun a b c h1 h2 => decide_eq_true (List.le_trans (of_decide_eq_true h1) (of_decide_eq_true h2))
  have hto : ∀ (a b : List UInt8), (decide (a ≤ b) || decide (b ≤ a)) = true := fun a b => by
    rcases List.le_total a b with h | h <;> simp [h]
  refine List.Perm.eq_of_pairwise (le := fun a b => decide (a ≤ b) = true) (fun x y _ _ h1 h2 => List.le_antisymm (of_decide_eq_true h1) (of_decide_eq_true h2)) (List.pairwise_mergeSort htr hto a) (List.pairwise_mergeSort htr hto b) ?_
  exact (List.mergeSort_perm _ _).trans (h.trans (List.mergeSort_perm _ _).symm)
/-- What a turned value keeps. -/
structure Kept (F H : Nat → List UInt8) (v u : V) (t : Ty) : Prop where
  ht : HT u t
  writ : writ F H u = writ F H v
  tells : tells u = tells v
  txt : u.txt = v.txt
  cnt : u.cnt = v.cnt
theorem turned_atom (t : Nat) (k n : Int) (s : ByteArray) : turned t (.mk k n s []) = .mk k n s [] := by
  simp [turned, turneds, rotL]
theorem turned_plain (t : Nat) {k n : Int} {s : ByteArray} {kids : List V} (h : ¬(k = 97 ∧ s.data.toList.head? = some 123)) : turned t (.mk k n s kids) = .mk k n s (kids.map (turned t)) := by
  simp only [turned]
  rw [if_neg h, turneds_eq]
theorem turned_dict (t : Nat) {n : Int} {s : ByteArray} {kids : List V} (h : s.data.toList.head? = some 123) : turned t (.mk 97 n s kids) = .mk 97 n s (rotL t (kids.map (turned t))) := by
  simp only [turned]
  rw [if_pos ⟨trivial, h⟩, turneds_eq]
/-- Kids of a value turned one by one, in another order. -/
theorem kept_of {F H : Nat → List UInt8} {t : Nat} {k n : Int} {s : ByteArray} {kids us : List V} (hp : us.Perm (kids.map (turned t))) (h : ∀ c ∈ kids, tells (turned t c) = tells c ∧ (turned t c).txt = c.txt ∧ (turned t c).cnt = c.cnt) :
    tells (.mk k n s us) = tells (.mk k n s kids) ∧ (V.mk k n s us).txt = (V.mk k n s kids).txt ∧ (V.mk k n s us).cnt = (V.mk k n s kids).cnt := by
  have hl : us.length = kids.length := by rw [hp.length_eq, List.length_map]
  refine ⟨?_, ?_, ?_⟩
  · simp only [tells]
    rw [hl, tellsAll_all, tellsAll_all, hp.all_eq, List.all_map]
    have : kids.all (tells ∘ turned t) = kids.all tells := by
      rw [Bool.eq_iff_iff, List.all_eq_true, List.all_eq_true]
      exact ⟨fun hh c hc => by rw [← (h c hc).1]; exact hh c hc, fun hh c hc => by show tells (turned t c) = true; rw [(h c hc).1]; exact hh c hc⟩
    rw [this]
  · simp only [V.txt]
    rw [txts_sum, txts_sum, (hp.map V.txt).sum_nat, List.map_map]
    congr 2
    exact List.map_congr_left fun c hc => (h c hc).2.1
  · simp only [V.cnt]
    rw [cnts_sum, cnts_sum, (hp.map V.cnt).sum_nat, List.map_map]
    congr 2
    exact List.map_congr_left fun c hc => (h c hc).2.2
theorem writs_turned {F H : Nat → List UInt8} {t : Nat} {kids : List V} (h : ∀ c ∈ kids, writ F H (turned t c) = writ F H c) : writs F H (kids.map (turned t)) = writs F H kids := by
  rw [writs_eq, writs_eq, List.map_map]
  exact List.map_congr_left fun c hc => h c hc
def keyT (v : V) : Option (Int × Int × List UInt8 × Nat) := v.kids[0]?.map fun x => (x.k, x.n, x.s.toList, x.kids.length)
theorem fresh_pw {kids : List V} {kc : UInt8} (hen : ∀ v, v ∈ kids → ∃ n' s' a b, v = .mk 123 n' s' [a, b]) (ha : ∀ (n' : Int) (s' : ByteArray) (a b : V), V.mk 123 n' s' [a, b] ∈ kids → HT a (.basic kc)) : Fresh kids ↔ kids.Pairwise fun a b => keyT a ≠ keyT b := by
  rw [List.pairwise_iff_getElem]
  constructor
  · intro hf i j hi hj hij hc
    obtain ⟨n1, s1, a1, b1, h1⟩ := hen _ (List.getElem_mem hi)
    obtain ⟨n2, s2, a2, b2, h2⟩ := hen _ (List.getElem_mem hj)
    obtain ⟨m2, q2, e2, _⟩ := (ha n2 s2 a2 b2 (h2 ▸ List.getElem_mem hj)).basic_cases
    have := hf i j _ _ hij (List.getElem?_eq_getElem hi) (List.getElem?_eq_getElem hj) (by rw [h2]; rfl) a1 a2 (by rw [h1]; rfl) (by rw [h2]; rfl)
    rw [h1, h2] at hc
    simp only [keyT, V.kids, List.getElem?_cons_zero, Option.map_some, Option.some.injEq, Prod.mk.injEq] at hc
    obtain ⟨m1, q1, e1, _⟩ := (ha n1 s1 a1 b1 (h1 ▸ List.getElem_mem hi)).basic_cases
    subst e1 e2
    simp only [V.k, V.n, V.s, V.kids] at hc
    simp [sameB, V.k, V.n, V.s, V.kids, hc.2.1, hc.2.2.1] at this
  · intro hp i j a b hij hia hjb hbk x y hx hy
    obtain ⟨hi, rfl⟩ := List.getElem?_eq_some_iff.1 hia
    obtain ⟨hj, rfl⟩ := List.getElem?_eq_some_iff.1 hjb
    have hc := hp i j hi hj hij
    obtain ⟨n1, s1, a1, b1, h1⟩ := hen _ (List.getElem_mem hi)
    obtain ⟨n2, s2, a2, b2, h2⟩ := hen _ (List.getElem_mem hj)
    rw [h1] at hx hc
    rw [h2] at hy hc
    obtain rfl : a1 = x := by simpa [V.kids] using hx
    obtain rfl : a2 = y := by simpa [V.kids] using hy
    obtain ⟨m1, q1, e1, _⟩ := (ha n1 s1 a1 b1 (h1 ▸ List.getElem_mem hi)).basic_cases
    obtain ⟨m2, q2, e2, _⟩ := (ha n2 s2 a2 b2 (h2 ▸ List.getElem_mem hj)).basic_cases
    subst e1 e2
    simp only [keyT, V.kids, List.getElem?_cons_zero, Option.map_some, V.k, V.n, V.s] at hc
    simp only [sameB, V.k, V.n, V.s, V.kids, List.length_nil, beq_self_eq_true, Bool.true_and, Bool.and_true]
    rw [Bool.and_eq_false_iff]
    by_cases hn : m2 = m1
    · right
      rw [beq_eq_false_iff_ne]
      intro hq
      exact hc (by rw [hn, hq])
    · left
      rw [beq_eq_false_iff_ne]
      exact hn
theorem kept_calls {F H : Nat → List UInt8} (t : Nat) {v : V} {ty : Ty} (h : HT v ty) : Kept F H v (turned t v) ty := by
  induction h with
  | num k n s hk hr h0 h1 hf =>
    rw [turned_atom]
    exact ⟨HT.num k n s hk hr h0 h1 hf, rfl, rfl, rfl, rfl⟩
  | txt k n s hk hr =>
    rw [turned_atom]
    exact ⟨HT.txt k n s hk hr, rfl, rfl, rfl, rfl⟩
  | var n s v τ hv hok h255 hke hs ih =>
    rw [turned_plain t (by simp)]
    have hk := kept_of (k := 118) (n := n) (s := s) (kids := [v]) (t := t) (F := F) (H := H) (List.Perm.refl _) (fun c hc => by rw [List.mem_singleton.1 hc]; exact ⟨ih.tells, ih.txt, ih.cnt⟩)
    have hsg : sigL (turned t v) = τ.sig := ih.ht.facts.1
    refine ⟨HT.var n s _ τ ih.ht hok h255 hke hsg, ?_, hk.1, hk.2.1, hk.2.2⟩
    show writ F H (.mk 118 n s [turned t v]) = _
    rw [writ_var, writ_var]
    unfold textOf
    rw [ih.tells, ih.writ, hsg, hs]
  | str n s kids ts hne hlen hl hkk ih =>
    rw [turned_plain t (by simp)]
    have hall : ∀ c ∈ kids, ∃ τ, Kept F H c (turned t c) τ := fun c hcm => by
      obtain ⟨j, hj, rfl⟩ := List.mem_iff_getElem.1 hcm
      exact ⟨_, ih j _ _ (List.getElem?_eq_getElem hj) (List.getElem?_eq_getElem (show j < ts.length by omega))⟩
    have hk := kept_of (k := 40) (n := n) (s := s) (kids := kids) (t := t) (F := F) (H := H) (List.Perm.refl _) (fun c hc => by obtain ⟨τ, hτ⟩ := hall c hc; exact ⟨hτ.tells, hτ.txt, hτ.cnt⟩)
    refine ⟨HT.str n s _ ts (by simpa using hne) (by simpa using hlen) (by simpa using hl) (fun j v τ h1 h2 => ?_), ?_, hk.1, hk.2.1, hk.2.2⟩
    · rw [List.getElem?_map] at h1
      obtain ⟨c, hc, rfl⟩ := Option.map_eq_some_iff.1 h1
      exact (ih j c τ hc h2).ht
    · rw [writ_str, writ_str, writs_turned fun c hc => by obtain ⟨τ, hτ⟩ := hall c hc; exact hτ.writ]
  | arr n s kids e hs hsz hlen hp hke hkk ih =>
    obtain ⟨c0, r, hcr, _, _, h123⟩ := Ty.sig_head (t := e) hp
    have hh : ¬s.data.toList.head? = some 123 := by rw [hs, hcr]; simpa using h123
    rw [turned_plain t (fun hc => hh hc.2)]
    have hk := kept_of (k := 97) (n := n) (s := s) (kids := kids) (t := t) (F := F) (H := H) (List.Perm.refl _) (fun c hc => ⟨(ih c hc).tells, (ih c hc).txt, (ih c hc).cnt⟩)
    refine ⟨HT.arr n s _ e hs hsz (by simpa using hlen) hp hke (fun v hv => ?_), ?_, hk.1, hk.2.1, hk.2.2⟩
    · obtain ⟨c, hc, rfl⟩ := List.mem_map.1 hv
      exact (ih c hc).ht
    · rw [writ_arr, writ_arr, writs_turned fun c hc => (ih c hc).writ]
  | dict n s kids kc e hs hsz hlen hkc hkb hp hke hfr hen ha hb iha ihb =>
    have hh : s.data.toList.head? = some 123 := by rw [hs]; rfl
    rw [turned_dict t hh]
    have hat : ∀ (n' : Int) (s' : ByteArray) (a b : V), V.mk 123 n' s' [a, b] ∈ kids → turned t a = a := fun n' s' a b hm => by
      obtain ⟨m, q, rfl, _⟩ := (ha n' s' a b hm).basic_cases
      exact turned_atom ..
    have hte : ∀ (n' : Int) (s' : ByteArray) (a b : V), turned t (V.mk 123 n' s' [a, b]) = V.mk 123 n' s' [turned t a, turned t b] := fun n' s' a b => turned_plain t (by simp)
    have hall : ∀ c ∈ kids, ∃ n' s' a b, c = .mk 123 n' s' [a, b] ∧ turned t c = .mk 123 n' s' [a, turned t b] ∧ HT a (.basic kc) ∧ Kept F H b (turned t b) e := fun c hc => by
      obtain ⟨n', s', a, b, rfl⟩ := hen c hc
      exact ⟨n', s', a, b, rfl, by rw [hte, hat n' s' a b hc], ha n' s' a b hc, ihb n' s' a b hc⟩
    have hperm := rotL_perm t (kids.map (turned t))
    have hkc3 : ∀ c ∈ kids, writ F H (turned t c) = writ F H c ∧ tells (turned t c) = tells c ∧ (turned t c).txt = c.txt ∧ (turned t c).cnt = c.cnt := fun c hc => by
      obtain ⟨n', s', a, b, rfl, h2, h3, h4⟩ := hall c hc
      rw [h2, writ_ent, writ_ent, h4.writ]
      refine ⟨rfl, ?_, ?_, ?_⟩
      · simp [tells, tellsAll, h4.tells]
      · simp [V.txt, V.txts, h4.txt]
      · simp [V.cnt, V.cnts, h4.cnt]
    have hk := kept_of (k := 97) (n := n) (s := s) (kids := kids) (t := t) (F := F) (H := H) hperm (fun c hc => (hkc3 c hc).2)
    have hmem : ∀ v, v ∈ rotL t (kids.map (turned t)) → ∃ n' s' a b, v = .mk 123 n' s' [a, turned t b] ∧ V.mk 123 n' s' [a, b] ∈ kids := fun v hv => by
      obtain ⟨c, hc, rfl⟩ := List.mem_map.1 (hperm.mem_iff.1 hv)
      obtain ⟨n', s', a, b, rfl, h2, _, _⟩ := hall c hc
      exact ⟨n', s', a, b, h2, hc⟩
    have hen' : ∀ v, v ∈ rotL t (kids.map (turned t)) → ∃ n' s' a b, v = .mk 123 n' s' [a, b] := fun v hv => by
      obtain ⟨n', s', a, b, rfl, _⟩ := hmem v hv
      exact ⟨n', s', a, _, rfl⟩
    have ha' : ∀ (n' : Int) (s' : ByteArray) (a b : V), V.mk 123 n' s' [a, b] ∈ rotL t (kids.map (turned t)) → HT a (.basic kc) := fun n' s' a b hv => by
      obtain ⟨m, q, a', b', he, hm⟩ := hmem _ hv
      cases he
      exact ha _ _ _ _ hm
    have hb' : ∀ (n' : Int) (s' : ByteArray) (a b : V), V.mk 123 n' s' [a, b] ∈ rotL t (kids.map (turned t)) → HT b e := fun n' s' a b hv => by
      obtain ⟨m, q, a', b', he, hm⟩ := hmem _ hv
      cases he
      exact (ihb _ _ _ _ hm).ht
    have hkt : ∀ c ∈ kids, keyT (turned t c) = keyT c := fun c hc => by
      obtain ⟨n', s', a, b, rfl, h2, _, _⟩ := hall c hc
      rw [h2]
      rfl
    have hfr' : Fresh (rotL t (kids.map (turned t))) := by
      rw [fresh_pw hen' ha', hperm.pairwise_iff (fun h => Ne.symm h), List.pairwise_map]
      have h1 := (fresh_pw hen ha).1 hfr
      refine List.Pairwise.imp_of_mem (fun {a b} h1 h2 h3 => ?_) h1
      rw [hkt a h1, hkt b h2]
      exact h3
    refine ⟨HT.dict n s _ kc e hs hsz (by rw [rotL_length, List.length_map]; exact hlen) hkc hkb hp hke hfr' hen' ha' hb', ?_, hk.1, hk.2.1, hk.2.2⟩
    rw [writ_arr, writ_arr, if_pos hh, if_pos hh]
    have hwp : (writs F H (rotL t (kids.map (turned t)))).Perm (writs F H kids) := by
      rw [← writs_turned fun c hc => (hkc3 c hc).1, writs_eq, writs_eq]
      exact hperm.map _
    rw [sort_of_perm hwp]
end Go.Proofs.YtjbpphomlmlmaaaGreatDoor

/- What vtTurned answers: the tree with the entries of its dicts turned, in new memory. -/
namespace Go.Proofs.YtjbpphomlmlmaaaGreatDoor
open Go.RowKit
set_option linter.unusedVariables false
set_option linter.unusedSimpArgs false
theorem info25t : (Tryz.prog.info? 25).map (fun i => (i.zero, i.size, i.bytes)) = some (some (.agg #[.int .u8 0, .int .u64 0, .string ByteArray.empty, .slice none 0 0]), 4, 56) := by kernel_rfl
theorem own_reps25 {w : World} {base : Nat} {v : Value} {vs : List V} {xs : List Value} (h : w.ownsRow base 25 4 v vs.length xs) (hr : RL (fun b => base ≤ b) w vs xs) :
    ∃ A cap, v = .slice A vs.length cap ∧ vs.length ≤ cap ∧ cap ≤ maxLen ∧ Reps (fun b => base ≤ b) w vs A 0 := by
  rcases h.2 with ⟨rfl, h0⟩ | ⟨g, cap, cur, rfl, hb, hg, hn, hc, _⟩
  · obtain rfl : vs = [] := List.eq_nil_of_length_eq_zero h0
    exact ⟨none, 0, rfl, Nat.le_refl _, by unfold maxLen; omega, by simp only [Reps]⟩
  · refine ⟨_, cap, rfl, hn, hc, hr.reps hb fun j u hj => ?_⟩
    have hj4 : j < vs.length * 4 := by rw [← h.1]; exact (List.getElem?_eq_some_iff.1 hj).1
    have := h.cellAt j hj4
    simp only [Nat.zero_mul, Nat.zero_add]
    rw [this]
    exact hj
/-- A row of values that grows, its slice held in a variable of block B. -/
structure Bt (H B : Nat) (k n : Int) (s : ByteArray) (A0 : Option Addr) (m0 cap0 : Nat) (w wr : World) (vs : List V) (v : Value) (xs : List Value) : Prop where
  own : wr.ownsRow H 25 4 v vs.length xs
  var : wr.heap[B]? = some (.cells #[.int .u8 k, .int .u64 n, .string s, v] 25 (0, 0))
  ars : RL (fun b => H ≤ b ∧ v.ownBlock ≠ some b) wr vs xs
  bel : Below w.heap.size w wr
  lo : w.heap.size ≤ B
  hi : B < H
  sz : H ≤ wr.heap.size
  ret : wr.heap[w.heap.size + 1]? = some (.cells #[.int .u8 0, .int .u64 0, .string { data := #[] }, .slice none 0 0] 25 (0, 0))
  rB : B = w.heap.size + 2
  box : wr.heap[w.heap.size]? = some (.cells #[.int .u8 k, .int .u64 n, .string s, .slice A0 m0 cap0] 25 (0, 0))
theorem Bt.next {H B : Nat} {k n : Int} {s : ByteArray} {A0 : Option Addr} {m0 cap0 : Nat} {w wr w1 w2 w4 : World} {vs : List V} {v v' : Value} {xs : List Value} {c : V} {c0 c1 c2 c3 : Value} (h : Bt H B k n s A0 m0 cap0 w wr vs v xs)
    (hb1 : Below wr.heap.size wr w1) (hA : Rep (fun b => w1.heap.size ≤ b) w2 c (.agg #[c0, c1, c2, c3])) (hb2 : Below w1.heap.size w1 w2)
    (hown : w4.ownsRow H 25 4 v' (vs.length + 1) (xs ++ [c0, c1, c2, c3])) (hg : (w2.alloc (.cells #[c0, c1, c2, c3] 25)).grownBy w4 v.ownBlock) (ha : v'.ownBlock = v.ownBlock ∨ v'.ownBlock = some (w2.alloc (.cells #[c0, c1, c2, c3] 25)).heap.size) : Bt H B k n s A0 m0 cap0 w (w4.setCell ⟨B, 3, none⟩ v') (vs ++ [c]) v' (xs ++ [c0, c1, c2, c3]) := by
  have hs1 := hb1.size
  have hs2 := hb2.size
  have hs3 : (w2.alloc (.cells #[c0, c1, c2, c3] 25)).heap.size = w2.heap.size + 1 := by simp
  have hsg := hg.size
  have hBlt : B < wr.heap.size := (Array.getElem?_eq_some_iff.1 h.var).1
  have hvB : v.ownBlock ≠ some B := fun hc => by have := own_base' h.own hc; have := h.hi; omega
  have hb12 := below_then hb1 hb1.size hb2
  have keep : ∀ b, b < wr.heap.size → v.ownBlock ≠ some b → b ≠ B → (w4.setCell ⟨B, 3, none⟩ v').heap[b]? = wr.heap[b]? := fun b hb hv hne => by
    rw [Below.heap_setCell w4 ⟨B, 3, none⟩ v' b hne, hg.block b (by omega) (fun hc => hv hc.symm), Below.heap_alloc w2 _ b (by omega)]
    exact hb12.block b hb
  have keep2 : ∀ b, b < w2.heap.size → w1.heap.size ≤ b → (w4.setCell ⟨B, 3, none⟩ v').heap[b]? = w2.heap[b]? := fun b hb hv => by
    rw [Below.heap_setCell w4 ⟨B, 3, none⟩ v' b (show b ≠ B by omega), hg.block b (by omega) (fun hc => by have := own_lt h.own hc.symm; omega), Below.heap_alloc w2 _ b (by omega)]
  have hsize : (w4.setCell ⟨B, 3, none⟩ v').heap.size = w4.heap.size := by simp [World.setCell]
  refine ⟨?_, ?_, ?_, ?_, h.lo, h.hi, ?_, ?_, h.rB, ?_⟩
  · rw [List.length_append]
    exact own_set hown B 3 v' (fun hc => by
      rcases ha with ha | ha
      · rw [ha] at hc; exact hvB hc
      · rw [ha] at hc; have := Option.some.inj hc; omega)
  · have hB4 : w4.heap[B]? = some (.cells #[.int .u8 k, .int .u64 n, .string s, v] 25 (0, 0)) := by
      rw [hg.block B (by omega) (fun hc => hvB hc.symm), Below.heap_alloc w2 _ B (by omega), hb12.block B hBlt]
      exact h.var
    have := row_setC hB4 3 v'
    simpa using this
  · refine RL.snoc ?_ (h.ars.keep (fun b hb hS => ⟨keep b hb hS.2 (by have := h.hi; omega), hS.1, ?_⟩) (by omega))
    · refine ((hA.mono (fun b hb hS => (show w1.heap.size ≤ b ∧ b < w2.heap.size from ⟨hS, hb⟩))).keep (fun b hb hS => keep2 b hb hS.1)).mono fun b hb hS => ⟨by have := h.sz; omega, ?_⟩
      rcases ha with ha | ha
      · rw [ha]; intro hc; have := own_lt h.own hc; omega
      · rw [ha]; intro hc; have := Option.some.inj hc; omega
    · rcases ha with ha | ha
      · rw [ha]; exact hS.2
      · rw [ha]; intro hc; have := Option.some.inj hc; omega
  · have hlo := h.lo
    exact ((((h.bel.trans (hb12.mono h.bel.size)).alloc (by have := h.bel.size; omega) _).grown hg (by have := h.bel.size; omega) (fun k hk => by have := own_base' h.own hk; have := h.hi; omega)).setCell (p := ⟨B, 3, none⟩) hlo _)
  · have := h.sz; omega
  · have hrb := h.rB
    have hhi := h.hi
    refine (keep (w.heap.size + 1) (by omega) (fun hc => ?_) (by omega)).trans h.ret
    have := own_base' h.own hc; omega
  · have hrb := h.rB
    have hhi := h.hi
    refine (keep w.heap.size (by omega) (fun hc => ?_) (by omega)).trans h.box
    have := own_base' h.own hc; omega
theorem Bt.mid {H B : Nat} {k n : Int} {s : ByteArray} {A0 : Option Addr} {m0 cap0 : Nat} {w wr w1 w2 w4 : World} {vs : List V} {v : Value} {xs : List Value} {o' : Obj} (h : Bt H B k n s A0 m0 cap0 w wr vs v xs)
    (hb1 : Below wr.heap.size wr w1) (hb2 : Below w1.heap.size w1 w2) (hg : (w2.alloc o').grownBy w4 v.ownBlock) (b : Nat) (o : Obj) (hb : b < w1.heap.size) (hv : v.ownBlock ≠ some b) (ho : w1.heap[b]? = some o) : w4.heap[b]? = some o := by
  have hs2 := hb2.size
  have hs3 : (w2.alloc o').heap.size = w2.heap.size + 1 := by simp
  rw [hg.block b (by omega) (fun hc => hv hc.symm), Below.heap_alloc w2 _ b (by omega), hb2.block b hb, ho]
def VtR (v : V) (w : World) (e : Ending) (w' : World) : Prop := ∃ y, e = .returned y ∧ Rep (fun b => w.heap.size ≤ b) w' v y ∧ Below w.heap.size w w'
def VtOk (t : Nat) (v : V) : Prop := ∀ (S : Nat → Prop) (x : Value) (w : World), Rep S w v x → Calls Tryz.prog 10 #[x, .int .i64 t] w (VtR (turned t v) w)
set_option maxRecDepth 100000 in
set_option maxHeartbeats 6400000 in
theorem vt_a (t : Nat) (ht : t < 256) (k n : Int) (hk : k ≠ 97) (s : ByteArray) (kids L : List V) (hlen : kids.length ≤ 1000) (hLl : L.length = kids.length) (hL : ∀ j (hj : j < kids.length), ∃ (h1 : j < kids.length) (h2 : j < L.length), L[j] = turned t (kids[j])) (ih : ∀ c ∈ kids, VtOk t c)
    (S : Nat → Prop) (x : Value) (w : World) (hr : Rep S w (.mk k n s kids) x) : Calls Tryz.prog 10 #[x, .int .i64 t] w (VtR (.mk k n s L) w) := by
  obtain ⟨i0, hi0, hz0, hz1, hz2⟩ := info_parts info25t
  simp only [Rep] at hr
  obtain ⟨A, cap, rfl, h1, h2, hk0, hn0, hs0, hkids⟩ := hr
  have hB0 : Bt (w.heap.size + 3) (w.heap.size + 2) (k) n (s) A kids.length cap w (((w.alloc (.cells #[.int .u8 k, .int .u64 n, .string s, .slice A kids.length cap] 25)).alloc (.cells #[.int .u8 0, .int .u64 0, .string { data := #[] }, .slice none 0 0] 25)).alloc (.cells #[.int .u8 k, .int .u64 n, .string s, .slice none 0 0] 25)) [] (.slice none 0 0) [] := by
    refine ⟨World.ownsRow_nil _ _ _ _, ?_, rfl, (((Below.refl _ _).alloc (Nat.le_refl _) _).alloc (by simp) _).alloc (by simp; omega) _, by omega, by omega, by simp, ?_, rfl, ?_⟩
    · have := heap_alloc_new ((w.alloc (.cells #[.int .u8 k, .int .u64 n, .string s, .slice A kids.length cap] 25)).alloc (.cells #[.int .u8 0, .int .u64 0, .string { data := #[] }, .slice none 0 0] 25)) (.cells #[.int .u8 k, .int .u64 n, .string s, .slice none 0 0] 25)
      simpa using this
    · rw [Below.heap_alloc _ _ _ (by simp)]
      have := heap_alloc_new (w.alloc (.cells #[.int .u8 k, .int .u64 n, .string s, .slice A kids.length cap] 25)) (.cells #[.int .u8 0, .int .u64 0, .string { data := #[] }, .slice none 0 0] 25)
      simpa using this
    · rw [Below.heap_alloc _ _ _ (by simp; omega), Below.heap_alloc _ _ _ (by simp)]
      exact heap_alloc_new w _
  have hk97 : (k == 97) = false := by rw [beq_eq_false_iff_ne]; exact hk
  go_enter Tryz.func10, Tryz.ntmps10
  go_wp2_with fail
  go_loopw [18] (fun i wr => ∃ (j : Nat) (vs : List V) (v : Value) (xs : List Value), j ≤ kids.length ∧ i = .int .i64 j ∧ vs = L.take j ∧ Bt (w.heap.size + 3) (w.heap.size + 2) (k) n (s) A kids.length cap w wr vs v xs) (fun i _ => kids.length - (intOf i).toNat)
  case atStart => exact ⟨0, _, _, _, Nat.zero_le _, rfl, rfl, by simpa using hB0⟩
  case round =>
    clear hB0
    obtain ⟨j, vs, v, xs, hj, rfl, hvs, hB⟩ := hrel
    have hvl : vs.length = j := by rw [hvs, List.length_take, Nat.min_eq_left (by omega)]
    have hbsz := hB.sz
    by_cases hlt : j < kids.length
    · have hltk : decide (j < kids.length) = true := by simp; omega
      have hyl2 : vs.length ≤ 1000 := by omega
      have HVL := Lib.hid hvl
      have HVS := Lib.hid hvs.symm
      clear hvl hvs
      obtain ⟨hjj, hjL, hLj⟩ := hL j hlt
      obtain ⟨b, o, _, _, rfl, _, k0, _⟩ := hkids.kid j hjj
      have hkw : b < w.heap.size := World.block_lt_of_cell? w _ k0
      clear k0
      obtain ⟨b', o', A', cap', hbo, _, k0, k1, k2, k3, hv⟩ := (hkids.keep fun b hlt _ => hB.bel.block b hlt).kid j hjj
      cases hbo
      have hcin : kids[j] ∈ kids := List.getElem_mem hjj
      have hih := ih _ hcin
      generalize hc : kids[j] = c at *
      generalize hd : turned t c = d at *
      have hb1 : Below wr.heap.size wr wr.drew := (Below.refl _ _).drew
      have hcall := hih _ _ _ (hv.below hb1)
      unfold VtR at hcall
      rw [hd] at hcall
      have HC := Lib.hid hLj
      have hBlt : w.heap.size + 2 < wr.heap.size := (Array.getElem?_eq_some_iff.1 hB.var).1
      have hvB : v.ownBlock ≠ some (w.heap.size + 2) := fun hc => by have := own_base' hB.own hc; omega
      have hvw : v.ownBlock ≠ some (w.heap.size) := fun hc => by have := own_base' hB.own hc; omega
      have hvb0 : w.heap.size < wr.heap.size := by omega
      have hkb : b < wr.heap.size := by omega
      have hkB : b ≠ w.heap.size + 2 := by omega
      have hvk : v.ownBlock ≠ some b := fun hc => by have := own_base' hB.own hc; omega
      obtain ⟨q0, q1, q2, q3⟩ := kid_cells hB.box
      have v1 : wr.drew.heap[w.heap.size + 2]? = _ := hB.var
      have r1 : wr.drew.cell? ⟨w.heap.size + 2, 3, none⟩ = some v := by rw [cell_of_row _ _ _ _ _ _ v1]; rfl
      have hS : ∀ w' : World, w'.heap[b]? = wr.heap[b]? → w'.heap[w.heap.size]? = wr.heap[w.heap.size]? → (w'.cell? ⟨w.heap.size, 3, none⟩ = some (.slice (some ⟨b, o, none⟩) kids.length cap) ∧ w'.cell? ⟨b, o + j * 4, none⟩ = some (.int .u8 c.k) ∧ w'.cell? ⟨b, o + j * 4 + 1, none⟩ = some (.int .u64 c.n) ∧ w'.cell? ⟨b, o + j * 4 + 2, none⟩ = some (.string c.s) ∧ w'.cell? ⟨b, o + j * 4 + 3, none⟩ = some (.slice A' c.kids.length cap')) := fun w' h1 h2 =>
        ⟨(World.cell?_of_block (a := ⟨w.heap.size, 3, none⟩) h2).trans q3, (World.cell?_of_block (a := ⟨b, _, none⟩) h1).trans k0, (World.cell?_of_block (a := ⟨b, _, none⟩) h1).trans k1, (World.cell?_of_block (a := ⟨b, _, none⟩) h1).trans k2, (World.cell?_of_block (a := ⟨b, _, none⟩) h1).trans k3⟩
      have HS := Lib.hid hS
      clear hc hd hcin hih hLj hL hS
      go_wp2_with fail
      refine wp_region_held_drew (S := fun w' => w'.cell? ⟨w.heap.size, 3, none⟩ = some (.slice (some ⟨b, o, none⟩) kids.length cap) ∧ w'.cell? ⟨b, o + j * 4, none⟩ = some (.int .u8 c.k) ∧ w'.cell? ⟨b, o + j * 4 + 1, none⟩ = some (.int .u64 c.n) ∧ w'.cell? ⟨b, o + j * 4 + 2, none⟩ = some (.string c.s) ∧ w'.cell? ⟨b, o + j * 4 + 3, none⟩ = some (.slice A' c.kids.length cap')) (by kernel_rfl) (HS.out _ rfl rfl) (fun hHeld => ?_)
      refine wpAnyH_take (i := 0) (oi := _) (v := ?_) rfl (by kernel_rfl) (by kernel_rfl) (by kernel_rfl) (fun _ _ _ h => h) (Or.inl ⟨by rfl, ?_⟩) (by assumption) ?_
      rotate_left
      · intro w hSw
        (try dsimp only at hSw)
        go_simp
        all_goals (with_reducible rfl)
      try simp only [Act.put, List.setIfInBounds_toArray, List.set_cons_zero, List.set_cons_succ]
      refine wpAnyH_take (i := 2) (oi := _) (v := ?_) rfl (by kernel_rfl) (by kernel_rfl) (by kernel_rfl) (fun _ _ _ h => h) (Or.inl ⟨by rfl, ?_⟩) (by assumption) ?_
      rotate_left
      · intro w hSw
        (try dsimp only at hSw)
        go_simp
        all_goals (with_reducible rfl)
      try simp only [Act.put, List.setIfInBounds_toArray, List.set_cons_zero, List.set_cons_succ]
      refine wpAnyH_take (i := 3) (oi := _) (v := ?_) rfl (by kernel_rfl) (by kernel_rfl) (by kernel_rfl) (fun _ _ _ h => h) (Or.inl ⟨by rfl, ?_⟩) (by assumption) ?_
      rotate_left
      · intro w hSw
        (try dsimp only at hSw)
        go_simp
        all_goals (with_reducible rfl)
      try simp only [Act.put, List.setIfInBounds_toArray, List.set_cons_zero, List.set_cons_succ]
      refine wpAnyH_take (i := 4) (oi := _) (v := ?_) rfl (by kernel_rfl) (by kernel_rfl) (by kernel_rfl) (fun _ _ _ h => h) (Or.inl ⟨by rfl, ?_⟩) (by assumption) ?_
      rotate_left
      · intro w hSw
        (try dsimp only at hSw)
        go_simp
        all_goals (with_reducible rfl)
      try simp only [Act.put, List.setIfInBounds_toArray, List.set_cons_zero, List.set_cons_succ]
      refine wpAnyH_take (i := 5) (oi := _) (v := ?_) rfl (by kernel_rfl) (by kernel_rfl) (by kernel_rfl) (fun _ _ _ h => h) (Or.inl ⟨by rfl, ?_⟩) (by assumption) ?_
      rotate_left
      · intro w hSw
        (try dsimp only at hSw)
        go_simp
        all_goals (with_reducible rfl)
      try simp only [Act.put, List.setIfInBounds_toArray, List.set_cons_zero, List.set_cons_succ]
      refine wpAnyH_take (i := 6) (oi := _) (v := ?_) rfl (by kernel_rfl) (by kernel_rfl) (by kernel_rfl) (fun _ _ _ h => h) (Or.inl ⟨by rfl, ?_⟩) (by assumption) ?_
      rotate_left
      · intro w hSw
        (try dsimp only at hSw)
        go_simp
        all_goals (with_reducible rfl)
      try simp only [Act.put, List.setIfInBounds_toArray, List.set_cons_zero, List.set_cons_succ]
      refine wpAnyH_take (i := 7) (oi := _) (v := ?_) rfl (by kernel_rfl) (by kernel_rfl) (by kernel_rfl) (fun _ _ _ h => h) (Or.inl ⟨by rfl, ?_⟩) (by assumption) ?_
      rotate_left
      · intro w hSw
        (try dsimp only at hSw)
        go_simp
        all_goals (with_reducible rfl)
      try simp only [Act.put, List.setIfInBounds_toArray, List.set_cons_zero, List.set_cons_succ]
      refine wpAnyH_ready (rs := [1, 8]) (by kernel_rfl) (by simp) (AllReadyH.cons (o := _) rfl (fun K hK => ?_) (AllReadyH.cons (o := _) rfl (fun K hK => ?_) AllReadyH.nil))
      · go_simp
        refine hK.out _ _ (HS.out _ rfl rfl) (fun hHeld => ?_)
        clear hK K
        try simp only [Act.put, List.setIfInBounds_toArray, List.set_cons_zero, List.set_cons_succ]
        refine wpAnyH_ready (rs := [8]) (by kernel_rfl) (by simp) (AllReadyH.cons (o := _) rfl (fun K hK => ?_) AllReadyH.nil)
        go_simp
        refine hcall.mono ?_
        rintro _ w2 ⟨y, rfl, hA, hb2⟩
        obtain ⟨A3, cap3, rfl⟩ := hA.form
        have p2 := fun (b : Nat) (hb : b < wr.heap.size) => (hb2.block b (by have := hb1.size; omega)).trans (hb1.block b hb)
        have p3 := fun (b : Nat) (hb : b < wr.heap.size) => (Below.heap_alloc w2 (.cells #[.int .u8 d.k, .int .u64 d.n, .string d.s, .slice A3 d.kids.length cap3] 25) b (by have := hb1.size; have := hb2.size; omega)).trans (p2 b hb)
        have r2 : w2.cell? ⟨w.heap.size + 2, 3, none⟩ = some v := by rw [cell_of_row _ _ _ _ _ _ ((p2 _ hBlt).trans hB.var)]; rfl
        have r3 : (w2.alloc (.cells #[.int .u8 d.k, .int .u64 d.n, .string d.s, .slice A3 d.kids.length cap3] 25)).cell? ⟨w.heap.size + 2, 3, none⟩ = some v := by rw [cell_of_row _ _ _ _ _ _ ((p3 _ hBlt).trans hB.var)]; rfl
        have hown3 : (w2.alloc (.cells #[.int .u8 d.k, .int .u64 d.n, .string d.s, .slice A3 d.kids.length cap3] 25)).ownsRow (w.heap.size + 3) 25 4 v vs.length xs := own_keep hB.own p3
        have hsz2 : w.heap.size + 3 ≤ w2.heap.size := by have := hb1.size; have := hb2.size; have := hB.sz; omega
        refine hK.out _ _ (HS.out _ (p2 _ hkb) (p2 _ hvb0)) (fun hHeld => ?_)
        clear hK K
        try simp only [Act.put, List.setIfInBounds_toArray, List.set_cons_zero, List.set_cons_succ]
        refine wpAnyH_ready (rs := [9]) (by kernel_rfl) (by simp) (AllReadyH.cons (o := _) rfl (fun K hK => ?_) AllReadyH.nil)
        go_simp
        refine hK.out _ _ (HS.out _ (p3 _ hkb) (p3 _ hvb0)) (fun hHeld => ?_)
        clear hK K
        try simp only [Act.put, List.setIfInBounds_toArray, List.set_cons_zero, List.set_cons_succ]
        refine wpAnyH_ready (rs := [10]) (by kernel_rfl) (by simp) (AllReadyH.cons (o := _) rfl (fun K hK => ?_) AllReadyH.nil)
        refine step_append_lies _ rfl _ _ 23 rfl (w.heap.size + 3) 25 i0 _ 4 56 Tryz.underlying23 hi0 hz0 hz1 hz2 rfl (by decide) v vs.length xs rfl hown3 ⟨_, 0, none⟩ 1 1 [.int .u8 d.k, .int .u64 d.n, .string d.s, .slice A3 d.kids.length cap3] rfl rfl (World.news_of_block (heap_alloc_new w2 _)) (by simp [Value.oneCell']) (by decide) (by unfold maxLen; omega) (by omega) (by simp; omega) _ rfl ?_
        intro g cap4 w4 hown4 hgrow hat hlt4
        have c4 := hB.mid hb1 hb2 hgrow (w.heap.size + 2) _ (by have := hBlt; have := hb1.size; omega) hvB v1
        have e4 := fun b hb hv => (hB.mid hb1 hb2 hgrow b _ (by have := hb1.size; omega) hv ((hb1.block b hb).trans (Array.getElem?_eq_getElem hb))).trans (Array.getElem?_eq_getElem hb).symm
        have s4 : w4.cell? ⟨w.heap.size + 2, 3, none⟩ = some v := by rw [cell_of_row _ _ _ _ _ _ c4]; rfl
        have z4 := frozen_of_row w4 (w.heap.size + 2) 3 _ _ c4
        refine hK.out _ _ (HS.out _ (e4 _ hkb hvk) (e4 _ hvb0 hvw)) (fun hHeld => ?_)
        clear hK K
        try simp only [Act.put, List.setIfInBounds_toArray, List.set_cons_zero, List.set_cons_succ]
        refine wpAnyH_take (i := 11) (oi := _) (v := ?_) rfl (by kernel_rfl) (by kernel_rfl) (by kernel_rfl) (fun _ _ _ h => h) (Or.inl ⟨by rfl, ?_⟩) (by assumption) ?_
        rotate_left
        · intro w hSw
          (try dsimp only at hSw)
          go_simp
          all_goals (with_reducible rfl)
        try simp only [Act.put, List.setIfInBounds_toArray, List.set_cons_zero, List.set_cons_succ]
        refine wpAnyH_ready (rs := [12]) (by kernel_rfl) (by simp) (AllReadyH.cons (o := _) rfl (fun K hK => ?_) AllReadyH.nil)
        go_simp
        have e5 := fun (b : Nat) (hb : b < wr.heap.size) (hv : v.ownBlock ≠ some b) (hne : b ≠ w.heap.size + 2) => (Below.heap_setCell w4 ⟨w.heap.size + 2, 3, none⟩ (.slice (some ⟨g, 0, none⟩) (vs.length + 1) cap4) b hne).trans (e4 b hb hv)
        refine hK.out _ _ (HS.out _ (e5 _ hkb hvk hkB) (e5 _ hvb0 hvw (by omega))) (fun hHeld => ?_)
        clear hK K
        try simp only [Act.put, List.setIfInBounds_toArray, List.set_cons_zero, List.set_cons_succ]
        refine wpAnyH_done (by kernel_rfl) ?_ _
        have hN := hB.next hb1 hA hb2 hown4 hgrow (by rcases hat with hat | hat; exact .inl hat.symm; exact .inr (by simp [Value.ownBlock, hat])) 
        clear HS
        go_wp2_with fail
        go_roundw
        case rel => exact ⟨j + 1, _, _, _, by omega, by go_num, by rw [List.take_succ_eq_append_getElem (by omega), HVS.out, HC.out], hN⟩
        case measure => simp [intOf]; omega
      · go_simp
        refine hcall.mono ?_
        rintro _ w2 ⟨y, rfl, hA, hb2⟩
        obtain ⟨A3, cap3, rfl⟩ := hA.form
        have p2 := fun (b : Nat) (hb : b < wr.heap.size) => (hb2.block b (by have := hb1.size; omega)).trans (hb1.block b hb)
        have p3 := fun (b : Nat) (hb : b < wr.heap.size) => (Below.heap_alloc w2 (.cells #[.int .u8 d.k, .int .u64 d.n, .string d.s, .slice A3 d.kids.length cap3] 25) b (by have := hb1.size; have := hb2.size; omega)).trans (p2 b hb)
        have r2 : w2.cell? ⟨w.heap.size + 2, 3, none⟩ = some v := by rw [cell_of_row _ _ _ _ _ _ ((p2 _ hBlt).trans hB.var)]; rfl
        have r3 : (w2.alloc (.cells #[.int .u8 d.k, .int .u64 d.n, .string d.s, .slice A3 d.kids.length cap3] 25)).cell? ⟨w.heap.size + 2, 3, none⟩ = some v := by rw [cell_of_row _ _ _ _ _ _ ((p3 _ hBlt).trans hB.var)]; rfl
        have hown3 : (w2.alloc (.cells #[.int .u8 d.k, .int .u64 d.n, .string d.s, .slice A3 d.kids.length cap3] 25)).ownsRow (w.heap.size + 3) 25 4 v vs.length xs := own_keep hB.own p3
        have hsz2 : w.heap.size + 3 ≤ w2.heap.size := by have := hb1.size; have := hb2.size; have := hB.sz; omega
        refine hK.out _ _ (HS.out _ (p2 _ hkb) (p2 _ hvb0)) (fun hHeld => ?_)
        clear hK K
        try simp only [Act.put, List.setIfInBounds_toArray, List.set_cons_zero, List.set_cons_succ]
        refine wpAnyH_ready (rs := [1, 9]) (by kernel_rfl) (by simp) (AllReadyH.cons (o := _) rfl (fun K hK => ?_) (AllReadyH.cons (o := _) rfl (fun K hK => ?_) AllReadyH.nil))
        · go_simp
          refine hK.out _ _ (HS.out _ (p2 _ hkb) (p2 _ hvb0)) (fun hHeld => ?_)
          clear hK K
          try simp only [Act.put, List.setIfInBounds_toArray, List.set_cons_zero, List.set_cons_succ]
          refine wpAnyH_ready (rs := [9]) (by kernel_rfl) (by simp) (AllReadyH.cons (o := _) rfl (fun K hK => ?_) AllReadyH.nil)
          go_simp
          refine hK.out _ _ (HS.out _ (p3 _ hkb) (p3 _ hvb0)) (fun hHeld => ?_)
          clear hK K
          try simp only [Act.put, List.setIfInBounds_toArray, List.set_cons_zero, List.set_cons_succ]
          refine wpAnyH_ready (rs := [10]) (by kernel_rfl) (by simp) (AllReadyH.cons (o := _) rfl (fun K hK => ?_) AllReadyH.nil)
          refine step_append_lies _ rfl _ _ 23 rfl (w.heap.size + 3) 25 i0 _ 4 56 Tryz.underlying23 hi0 hz0 hz1 hz2 rfl (by decide) v vs.length xs rfl hown3 ⟨_, 0, none⟩ 1 1 [.int .u8 d.k, .int .u64 d.n, .string d.s, .slice A3 d.kids.length cap3] rfl rfl (World.news_of_block (heap_alloc_new w2 _)) (by simp [Value.oneCell']) (by decide) (by unfold maxLen; omega) (by omega) (by simp; omega) _ rfl ?_
          intro g cap4 w4 hown4 hgrow hat hlt4
          have c4 := hB.mid hb1 hb2 hgrow (w.heap.size + 2) _ (by have := hBlt; have := hb1.size; omega) hvB v1
          have e4 := fun b hb hv => (hB.mid hb1 hb2 hgrow b _ (by have := hb1.size; omega) hv ((hb1.block b hb).trans (Array.getElem?_eq_getElem hb))).trans (Array.getElem?_eq_getElem hb).symm
          have s4 : w4.cell? ⟨w.heap.size + 2, 3, none⟩ = some v := by rw [cell_of_row _ _ _ _ _ _ c4]; rfl
          have z4 := frozen_of_row w4 (w.heap.size + 2) 3 _ _ c4
          refine hK.out _ _ (HS.out _ (e4 _ hkb hvk) (e4 _ hvb0 hvw)) (fun hHeld => ?_)
          clear hK K
          try simp only [Act.put, List.setIfInBounds_toArray, List.set_cons_zero, List.set_cons_succ]
          refine wpAnyH_take (i := 11) (oi := _) (v := ?_) rfl (by kernel_rfl) (by kernel_rfl) (by kernel_rfl) (fun _ _ _ h => h) (Or.inl ⟨by rfl, ?_⟩) (by assumption) ?_
          rotate_left
          · intro w hSw
            (try dsimp only at hSw)
            go_simp
            all_goals (with_reducible rfl)
          try simp only [Act.put, List.setIfInBounds_toArray, List.set_cons_zero, List.set_cons_succ]
          refine wpAnyH_ready (rs := [12]) (by kernel_rfl) (by simp) (AllReadyH.cons (o := _) rfl (fun K hK => ?_) AllReadyH.nil)
          go_simp
          have e5 := fun (b : Nat) (hb : b < wr.heap.size) (hv : v.ownBlock ≠ some b) (hne : b ≠ w.heap.size + 2) => (Below.heap_setCell w4 ⟨w.heap.size + 2, 3, none⟩ (.slice (some ⟨g, 0, none⟩) (vs.length + 1) cap4) b hne).trans (e4 b hb hv)
          refine hK.out _ _ (HS.out _ (e5 _ hkb hvk hkB) (e5 _ hvb0 hvw (by omega))) (fun hHeld => ?_)
          clear hK K
          try simp only [Act.put, List.setIfInBounds_toArray, List.set_cons_zero, List.set_cons_succ]
          refine wpAnyH_done (by kernel_rfl) ?_ _
          have hN := hB.next hb1 hA hb2 hown4 hgrow (by rcases hat with hat | hat; exact .inl hat.symm; exact .inr (by simp [Value.ownBlock, hat])) 
          clear HS
          go_wp2_with fail
          go_roundw
          case rel => exact ⟨j + 1, _, _, _, by omega, by go_num, by rw [List.take_succ_eq_append_getElem (by omega), HVS.out, HC.out], hN⟩
          case measure => simp [intOf]; omega
        · go_simp
          refine hK.out _ _ (HS.out _ (p3 _ hkb) (p3 _ hvb0)) (fun hHeld => ?_)
          clear hK K
          try simp only [Act.put, List.setIfInBounds_toArray, List.set_cons_zero, List.set_cons_succ]
          refine wpAnyH_ready (rs := [1]) (by kernel_rfl) (by simp) (AllReadyH.cons (o := _) rfl (fun K hK => ?_) AllReadyH.nil)
          go_simp
          refine hK.out _ _ (HS.out _ (p3 _ hkb) (p3 _ hvb0)) (fun hHeld => ?_)
          clear hK K
          try simp only [Act.put, List.setIfInBounds_toArray, List.set_cons_zero, List.set_cons_succ]
          refine wpAnyH_ready (rs := [10]) (by kernel_rfl) (by simp) (AllReadyH.cons (o := _) rfl (fun K hK => ?_) AllReadyH.nil)
          refine step_append_lies _ rfl _ _ 23 rfl (w.heap.size + 3) 25 i0 _ 4 56 Tryz.underlying23 hi0 hz0 hz1 hz2 rfl (by decide) v vs.length xs rfl hown3 ⟨_, 0, none⟩ 1 1 [.int .u8 d.k, .int .u64 d.n, .string d.s, .slice A3 d.kids.length cap3] rfl rfl (World.news_of_block (heap_alloc_new w2 _)) (by simp [Value.oneCell']) (by decide) (by unfold maxLen; omega) (by omega) (by simp; omega) _ rfl ?_
          intro g cap4 w4 hown4 hgrow hat hlt4
          have c4 := hB.mid hb1 hb2 hgrow (w.heap.size + 2) _ (by have := hBlt; have := hb1.size; omega) hvB v1
          have e4 := fun b hb hv => (hB.mid hb1 hb2 hgrow b _ (by have := hb1.size; omega) hv ((hb1.block b hb).trans (Array.getElem?_eq_getElem hb))).trans (Array.getElem?_eq_getElem hb).symm
          have s4 : w4.cell? ⟨w.heap.size + 2, 3, none⟩ = some v := by rw [cell_of_row _ _ _ _ _ _ c4]; rfl
          have z4 := frozen_of_row w4 (w.heap.size + 2) 3 _ _ c4
          refine hK.out _ _ (HS.out _ (e4 _ hkb hvk) (e4 _ hvb0 hvw)) (fun hHeld => ?_)
          clear hK K
          try simp only [Act.put, List.setIfInBounds_toArray, List.set_cons_zero, List.set_cons_succ]
          refine wpAnyH_take (i := 11) (oi := _) (v := ?_) rfl (by kernel_rfl) (by kernel_rfl) (by kernel_rfl) (fun _ _ _ h => h) (Or.inl ⟨by rfl, ?_⟩) (by assumption) ?_
          rotate_left
          · intro w hSw
            (try dsimp only at hSw)
            go_simp
            all_goals (with_reducible rfl)
          try simp only [Act.put, List.setIfInBounds_toArray, List.set_cons_zero, List.set_cons_succ]
          refine wpAnyH_ready (rs := [12]) (by kernel_rfl) (by simp) (AllReadyH.cons (o := _) rfl (fun K hK => ?_) AllReadyH.nil)
          go_simp
          have e5 := fun (b : Nat) (hb : b < wr.heap.size) (hv : v.ownBlock ≠ some b) (hne : b ≠ w.heap.size + 2) => (Below.heap_setCell w4 ⟨w.heap.size + 2, 3, none⟩ (.slice (some ⟨g, 0, none⟩) (vs.length + 1) cap4) b hne).trans (e4 b hb hv)
          refine hK.out _ _ (HS.out _ (e5 _ hkb hvk hkB) (e5 _ hvb0 hvw (by omega))) (fun hHeld => ?_)
          clear hK K
          try simp only [Act.put, List.setIfInBounds_toArray, List.set_cons_zero, List.set_cons_succ]
          refine wpAnyH_done (by kernel_rfl) ?_ _
          have hN := hB.next hb1 hA hb2 hown4 hgrow (by rcases hat with hat | hat; exact .inl hat.symm; exact .inr (by simp [Value.ownBlock, hat])) 
          clear HS
          go_wp2_with fail
          go_roundw
          case rel => exact ⟨j + 1, _, _, _, by omega, by go_num, by rw [List.take_succ_eq_append_getElem (by omega), HVS.out, HC.out], hN⟩
          case measure => simp [intOf]; omega
    · obtain rfl : kids.length = j := by omega
      have hltk : decide (kids.length < kids.length) = false := by simp
      rw [List.take_of_length_le (by omega)] at hvs
      subst hvs
      obtain ⟨r0, r1, r2, r3⟩ := kid_cells hB.var
      obtain ⟨A2, cap2, rfl, g1, g2, g3⟩ := own_reps25 hB.own (hB.ars.keep (fun b _ hb => ⟨rfl, hb.1⟩) (Nat.le_refl _))
      have hR := hB.ret
      obtain ⟨t0, t1, t2, t3⟩ := kid_cells hR
      have f0 := fun o => frozen_of_row wr (w.heap.size + 1) o _ _ hR
      have far : ∀ (q : Nat) (a b c d : Value), q ≠ w.heap.size + 1 → ((((wr.setCell ⟨w.heap.size + 1, 0, none⟩ a).setCell ⟨w.heap.size + 1, 1, none⟩ b).setCell ⟨w.heap.size + 1, 2, none⟩ c).setCell ⟨w.heap.size + 1, 3, none⟩ d).heap[q]? = wr.heap[q]? := fun q a b c d hq => by
        rw [Below.heap_setCell _ ⟨w.heap.size + 1, 3, none⟩ _ q hq, Below.heap_setCell _ ⟨w.heap.size + 1, 2, none⟩ _ q hq, Below.heap_setCell _ ⟨w.heap.size + 1, 1, none⟩ _ q hq, Below.heap_setCell _ ⟨w.heap.size + 1, 0, none⟩ _ q hq]
      clear hL hLl hvl
      go_wp2_with fail
      have h3 := row_setC (row_setC (row_setC (row_setC hR 0 (.int .u8 (k))) 1 (.int .u64 n)) 2 (.string (s))) 3 (.slice A2 vs.length cap2)
      have hlo : w.heap.size ≤ w.heap.size + 1 := by omega
      refine bodyPost_ret (results_cell_row rfl _ _ (w.heap.size + 1) 25 #[.int .u8 (k), .int .u64 n, .string (s), .slice A2 vs.length cap2] (0, 0) _ rfl h3 Tryz.underlying25 rfl (by kernel_rfl)) rfl ⟨.agg #[.int .u8 (k), .int .u64 n, .string (s), .slice A2 vs.length cap2], rfl, ?_, (((hB.bel.setCell (p := ⟨w.heap.size + 1, 0, none⟩) hlo _).setCell (p := ⟨w.heap.size + 1, 1, none⟩) hlo _).setCell (p := ⟨w.heap.size + 1, 2, none⟩) hlo _).setCell (p := ⟨w.heap.size + 1, 3, none⟩) hlo _⟩
      have g4 := (g3.keep (fun b _ hb => far b (.int .u8 (k)) (.int .u64 n) (.string (s)) (.slice A2 vs.length cap2) (by omega))).mono (fun b _ hb => (show w.heap.size ≤ b by omega))
      simp only [Rep]
      exact ⟨A2, cap2, rfl, g1, by unfold maxLen at g2; omega, hk0, hn0, hs0, g4⟩
set_option maxRecDepth 100000 in
set_option maxHeartbeats 6400000 in
theorem vt_c (t : Nat) (ht : t < 256) (n : Int) (c0 : UInt8) (hc0 : c0 ≠ 123) (rr : List UInt8) (kids L : List V) (hlen : kids.length ≤ 1000) (hLl : L.length = kids.length) (hL : ∀ j (hj : j < kids.length), ∃ (h1 : j < kids.length) (h2 : j < L.length), L[j] = turned t (kids[j])) (ih : ∀ c ∈ kids, VtOk t c)
    (S : Nat → Prop) (x : Value) (w : World) (hr : Rep S w (.mk 97 n (bs (c0 :: rr)) kids) x) : Calls Tryz.prog 10 #[x, .int .i64 t] w (VtR (.mk 97 n (bs (c0 :: rr)) L) w) := by
  obtain ⟨i0, hi0, hz0, hz1, hz2⟩ := info_parts info25t
  simp only [Rep] at hr
  obtain ⟨A, cap, rfl, h1, h2, hk0, hn0, hs0, hkids⟩ := hr
  have hB0 : Bt (w.heap.size + 3) (w.heap.size + 2) (97) n ((bs (c0 :: rr))) A kids.length cap w (((w.alloc (.cells #[.int .u8 97, .int .u64 n, .string (bs (c0 :: rr)), .slice A kids.length cap] 25)).alloc (.cells #[.int .u8 0, .int .u64 0, .string { data := #[] }, .slice none 0 0] 25)).alloc (.cells #[.int .u8 97, .int .u64 n, .string (bs (c0 :: rr)), .slice none 0 0] 25)) [] (.slice none 0 0) [] := by
    refine ⟨World.ownsRow_nil _ _ _ _, ?_, rfl, (((Below.refl _ _).alloc (Nat.le_refl _) _).alloc (by simp) _).alloc (by simp; omega) _, by omega, by omega, by simp, ?_, rfl, ?_⟩
    · have := heap_alloc_new ((w.alloc (.cells #[.int .u8 97, .int .u64 n, .string (bs (c0 :: rr)), .slice A kids.length cap] 25)).alloc (.cells #[.int .u8 0, .int .u64 0, .string { data := #[] }, .slice none 0 0] 25)) (.cells #[.int .u8 97, .int .u64 n, .string (bs (c0 :: rr)), .slice none 0 0] 25)
      simpa using this
    · rw [Below.heap_alloc _ _ _ (by simp)]
      have := heap_alloc_new (w.alloc (.cells #[.int .u8 97, .int .u64 n, .string (bs (c0 :: rr)), .slice A kids.length cap] 25)) (.cells #[.int .u8 0, .int .u64 0, .string { data := #[] }, .slice none 0 0] 25)
      simpa using this
    · rw [Below.heap_alloc _ _ _ (by simp; omega), Below.heap_alloc _ _ _ (by simp)]
      exact heap_alloc_new w _
  have hcc : ((c0.toNat : Int) == 123) = false := by rw [beq_eq_false_iff_ne]; intro hx; exact hc0 (UInt8.toNat_inj.1 (by show c0.toNat = 123; omega))
  go_enter Tryz.func10, Tryz.ntmps10
  go_wp2_with fail
  go_loopw [18] (fun i wr => ∃ (j : Nat) (vs : List V) (v : Value) (xs : List Value), j ≤ kids.length ∧ i = .int .i64 j ∧ vs = L.take j ∧ Bt (w.heap.size + 3) (w.heap.size + 2) (97) n ((bs (c0 :: rr))) A kids.length cap w wr vs v xs) (fun i _ => kids.length - (intOf i).toNat)
  case atStart => exact ⟨0, _, _, _, Nat.zero_le _, rfl, rfl, by simpa using hB0⟩
  case round =>
    clear hB0
    obtain ⟨j, vs, v, xs, hj, rfl, hvs, hB⟩ := hrel
    have hvl : vs.length = j := by rw [hvs, List.length_take, Nat.min_eq_left (by omega)]
    have hbsz := hB.sz
    by_cases hlt : j < kids.length
    · have hltk : decide (j < kids.length) = true := by simp; omega
      have hyl2 : vs.length ≤ 1000 := by omega
      have HVL := Lib.hid hvl
      have HVS := Lib.hid hvs.symm
      clear hvl hvs
      obtain ⟨hjj, hjL, hLj⟩ := hL j hlt
      obtain ⟨b, o, _, _, rfl, _, k0, _⟩ := hkids.kid j hjj
      have hkw : b < w.heap.size := World.block_lt_of_cell? w _ k0
      clear k0
      obtain ⟨b', o', A', cap', hbo, _, k0, k1, k2, k3, hv⟩ := (hkids.keep fun b hlt _ => hB.bel.block b hlt).kid j hjj
      cases hbo
      have hcin : kids[j] ∈ kids := List.getElem_mem hjj
      have hih := ih _ hcin
      generalize hc : kids[j] = c at *
      generalize hd : turned t c = d at *
      have hb1 : Below wr.heap.size wr wr.drew := (Below.refl _ _).drew
      have hcall := hih _ _ _ (hv.below hb1)
      unfold VtR at hcall
      rw [hd] at hcall
      have HC := Lib.hid hLj
      have hBlt : w.heap.size + 2 < wr.heap.size := (Array.getElem?_eq_some_iff.1 hB.var).1
      have hvB : v.ownBlock ≠ some (w.heap.size + 2) := fun hc => by have := own_base' hB.own hc; omega
      have hvw : v.ownBlock ≠ some (w.heap.size) := fun hc => by have := own_base' hB.own hc; omega
      have hvb0 : w.heap.size < wr.heap.size := by omega
      have hkb : b < wr.heap.size := by omega
      have hkB : b ≠ w.heap.size + 2 := by omega
      have hvk : v.ownBlock ≠ some b := fun hc => by have := own_base' hB.own hc; omega
      obtain ⟨q0, q1, q2, q3⟩ := kid_cells hB.box
      have v1 : wr.drew.heap[w.heap.size + 2]? = _ := hB.var
      have r1 : wr.drew.cell? ⟨w.heap.size + 2, 3, none⟩ = some v := by rw [cell_of_row _ _ _ _ _ _ v1]; rfl
      have hS : ∀ w' : World, w'.heap[b]? = wr.heap[b]? → w'.heap[w.heap.size]? = wr.heap[w.heap.size]? → (w'.cell? ⟨w.heap.size, 3, none⟩ = some (.slice (some ⟨b, o, none⟩) kids.length cap) ∧ w'.cell? ⟨b, o + j * 4, none⟩ = some (.int .u8 c.k) ∧ w'.cell? ⟨b, o + j * 4 + 1, none⟩ = some (.int .u64 c.n) ∧ w'.cell? ⟨b, o + j * 4 + 2, none⟩ = some (.string c.s) ∧ w'.cell? ⟨b, o + j * 4 + 3, none⟩ = some (.slice A' c.kids.length cap')) := fun w' h1 h2 =>
        ⟨(World.cell?_of_block (a := ⟨w.heap.size, 3, none⟩) h2).trans q3, (World.cell?_of_block (a := ⟨b, _, none⟩) h1).trans k0, (World.cell?_of_block (a := ⟨b, _, none⟩) h1).trans k1, (World.cell?_of_block (a := ⟨b, _, none⟩) h1).trans k2, (World.cell?_of_block (a := ⟨b, _, none⟩) h1).trans k3⟩
      have HS := Lib.hid hS
      clear hc hd hcin hih hLj hL hS
      go_wp2_with fail
      refine wp_region_held_drew (S := fun w' => w'.cell? ⟨w.heap.size, 3, none⟩ = some (.slice (some ⟨b, o, none⟩) kids.length cap) ∧ w'.cell? ⟨b, o + j * 4, none⟩ = some (.int .u8 c.k) ∧ w'.cell? ⟨b, o + j * 4 + 1, none⟩ = some (.int .u64 c.n) ∧ w'.cell? ⟨b, o + j * 4 + 2, none⟩ = some (.string c.s) ∧ w'.cell? ⟨b, o + j * 4 + 3, none⟩ = some (.slice A' c.kids.length cap')) (by kernel_rfl) (HS.out _ rfl rfl) (fun hHeld => ?_)
      refine wpAnyH_take (i := 0) (oi := _) (v := ?_) rfl (by kernel_rfl) (by kernel_rfl) (by kernel_rfl) (fun _ _ _ h => h) (Or.inl ⟨by rfl, ?_⟩) (by assumption) ?_
      rotate_left
      · intro w hSw
        (try dsimp only at hSw)
        go_simp
        all_goals (with_reducible rfl)
      try simp only [Act.put, List.setIfInBounds_toArray, List.set_cons_zero, List.set_cons_succ]
      refine wpAnyH_take (i := 2) (oi := _) (v := ?_) rfl (by kernel_rfl) (by kernel_rfl) (by kernel_rfl) (fun _ _ _ h => h) (Or.inl ⟨by rfl, ?_⟩) (by assumption) ?_
      rotate_left
      · intro w hSw
        (try dsimp only at hSw)
        go_simp
        all_goals (with_reducible rfl)
      try simp only [Act.put, List.setIfInBounds_toArray, List.set_cons_zero, List.set_cons_succ]
      refine wpAnyH_take (i := 3) (oi := _) (v := ?_) rfl (by kernel_rfl) (by kernel_rfl) (by kernel_rfl) (fun _ _ _ h => h) (Or.inl ⟨by rfl, ?_⟩) (by assumption) ?_
      rotate_left
      · intro w hSw
        (try dsimp only at hSw)
        go_simp
        all_goals (with_reducible rfl)
      try simp only [Act.put, List.setIfInBounds_toArray, List.set_cons_zero, List.set_cons_succ]
      refine wpAnyH_take (i := 4) (oi := _) (v := ?_) rfl (by kernel_rfl) (by kernel_rfl) (by kernel_rfl) (fun _ _ _ h => h) (Or.inl ⟨by rfl, ?_⟩) (by assumption) ?_
      rotate_left
      · intro w hSw
        (try dsimp only at hSw)
        go_simp
        all_goals (with_reducible rfl)
      try simp only [Act.put, List.setIfInBounds_toArray, List.set_cons_zero, List.set_cons_succ]
      refine wpAnyH_take (i := 5) (oi := _) (v := ?_) rfl (by kernel_rfl) (by kernel_rfl) (by kernel_rfl) (fun _ _ _ h => h) (Or.inl ⟨by rfl, ?_⟩) (by assumption) ?_
      rotate_left
      · intro w hSw
        (try dsimp only at hSw)
        go_simp
        all_goals (with_reducible rfl)
      try simp only [Act.put, List.setIfInBounds_toArray, List.set_cons_zero, List.set_cons_succ]
      refine wpAnyH_take (i := 6) (oi := _) (v := ?_) rfl (by kernel_rfl) (by kernel_rfl) (by kernel_rfl) (fun _ _ _ h => h) (Or.inl ⟨by rfl, ?_⟩) (by assumption) ?_
      rotate_left
      · intro w hSw
        (try dsimp only at hSw)
        go_simp
        all_goals (with_reducible rfl)
      try simp only [Act.put, List.setIfInBounds_toArray, List.set_cons_zero, List.set_cons_succ]
      refine wpAnyH_take (i := 7) (oi := _) (v := ?_) rfl (by kernel_rfl) (by kernel_rfl) (by kernel_rfl) (fun _ _ _ h => h) (Or.inl ⟨by rfl, ?_⟩) (by assumption) ?_
      rotate_left
      · intro w hSw
        (try dsimp only at hSw)
        go_simp
        all_goals (with_reducible rfl)
      try simp only [Act.put, List.setIfInBounds_toArray, List.set_cons_zero, List.set_cons_succ]
      refine wpAnyH_ready (rs := [1, 8]) (by kernel_rfl) (by simp) (AllReadyH.cons (o := _) rfl (fun K hK => ?_) (AllReadyH.cons (o := _) rfl (fun K hK => ?_) AllReadyH.nil))
      · go_simp
        refine hK.out _ _ (HS.out _ rfl rfl) (fun hHeld => ?_)
        clear hK K
        try simp only [Act.put, List.setIfInBounds_toArray, List.set_cons_zero, List.set_cons_succ]
        refine wpAnyH_ready (rs := [8]) (by kernel_rfl) (by simp) (AllReadyH.cons (o := _) rfl (fun K hK => ?_) AllReadyH.nil)
        go_simp
        refine hcall.mono ?_
        rintro _ w2 ⟨y, rfl, hA, hb2⟩
        obtain ⟨A3, cap3, rfl⟩ := hA.form
        have p2 := fun (b : Nat) (hb : b < wr.heap.size) => (hb2.block b (by have := hb1.size; omega)).trans (hb1.block b hb)
        have p3 := fun (b : Nat) (hb : b < wr.heap.size) => (Below.heap_alloc w2 (.cells #[.int .u8 d.k, .int .u64 d.n, .string d.s, .slice A3 d.kids.length cap3] 25) b (by have := hb1.size; have := hb2.size; omega)).trans (p2 b hb)
        have r2 : w2.cell? ⟨w.heap.size + 2, 3, none⟩ = some v := by rw [cell_of_row _ _ _ _ _ _ ((p2 _ hBlt).trans hB.var)]; rfl
        have r3 : (w2.alloc (.cells #[.int .u8 d.k, .int .u64 d.n, .string d.s, .slice A3 d.kids.length cap3] 25)).cell? ⟨w.heap.size + 2, 3, none⟩ = some v := by rw [cell_of_row _ _ _ _ _ _ ((p3 _ hBlt).trans hB.var)]; rfl
        have hown3 : (w2.alloc (.cells #[.int .u8 d.k, .int .u64 d.n, .string d.s, .slice A3 d.kids.length cap3] 25)).ownsRow (w.heap.size + 3) 25 4 v vs.length xs := own_keep hB.own p3
        have hsz2 : w.heap.size + 3 ≤ w2.heap.size := by have := hb1.size; have := hb2.size; have := hB.sz; omega
        refine hK.out _ _ (HS.out _ (p2 _ hkb) (p2 _ hvb0)) (fun hHeld => ?_)
        clear hK K
        try simp only [Act.put, List.setIfInBounds_toArray, List.set_cons_zero, List.set_cons_succ]
        refine wpAnyH_ready (rs := [9]) (by kernel_rfl) (by simp) (AllReadyH.cons (o := _) rfl (fun K hK => ?_) AllReadyH.nil)
        go_simp
        refine hK.out _ _ (HS.out _ (p3 _ hkb) (p3 _ hvb0)) (fun hHeld => ?_)
        clear hK K
        try simp only [Act.put, List.setIfInBounds_toArray, List.set_cons_zero, List.set_cons_succ]
        refine wpAnyH_ready (rs := [10]) (by kernel_rfl) (by simp) (AllReadyH.cons (o := _) rfl (fun K hK => ?_) AllReadyH.nil)
        refine step_append_lies _ rfl _ _ 23 rfl (w.heap.size + 3) 25 i0 _ 4 56 Tryz.underlying23 hi0 hz0 hz1 hz2 rfl (by decide) v vs.length xs rfl hown3 ⟨_, 0, none⟩ 1 1 [.int .u8 d.k, .int .u64 d.n, .string d.s, .slice A3 d.kids.length cap3] rfl rfl (World.news_of_block (heap_alloc_new w2 _)) (by simp [Value.oneCell']) (by decide) (by unfold maxLen; omega) (by omega) (by simp; omega) _ rfl ?_
        intro g cap4 w4 hown4 hgrow hat hlt4
        have c4 := hB.mid hb1 hb2 hgrow (w.heap.size + 2) _ (by have := hBlt; have := hb1.size; omega) hvB v1
        have e4 := fun b hb hv => (hB.mid hb1 hb2 hgrow b _ (by have := hb1.size; omega) hv ((hb1.block b hb).trans (Array.getElem?_eq_getElem hb))).trans (Array.getElem?_eq_getElem hb).symm
        have s4 : w4.cell? ⟨w.heap.size + 2, 3, none⟩ = some v := by rw [cell_of_row _ _ _ _ _ _ c4]; rfl
        have z4 := frozen_of_row w4 (w.heap.size + 2) 3 _ _ c4
        refine hK.out _ _ (HS.out _ (e4 _ hkb hvk) (e4 _ hvb0 hvw)) (fun hHeld => ?_)
        clear hK K
        try simp only [Act.put, List.setIfInBounds_toArray, List.set_cons_zero, List.set_cons_succ]
        refine wpAnyH_take (i := 11) (oi := _) (v := ?_) rfl (by kernel_rfl) (by kernel_rfl) (by kernel_rfl) (fun _ _ _ h => h) (Or.inl ⟨by rfl, ?_⟩) (by assumption) ?_
        rotate_left
        · intro w hSw
          (try dsimp only at hSw)
          go_simp
          all_goals (with_reducible rfl)
        try simp only [Act.put, List.setIfInBounds_toArray, List.set_cons_zero, List.set_cons_succ]
        refine wpAnyH_ready (rs := [12]) (by kernel_rfl) (by simp) (AllReadyH.cons (o := _) rfl (fun K hK => ?_) AllReadyH.nil)
        go_simp
        have e5 := fun (b : Nat) (hb : b < wr.heap.size) (hv : v.ownBlock ≠ some b) (hne : b ≠ w.heap.size + 2) => (Below.heap_setCell w4 ⟨w.heap.size + 2, 3, none⟩ (.slice (some ⟨g, 0, none⟩) (vs.length + 1) cap4) b hne).trans (e4 b hb hv)
        refine hK.out _ _ (HS.out _ (e5 _ hkb hvk hkB) (e5 _ hvb0 hvw (by omega))) (fun hHeld => ?_)
        clear hK K
        try simp only [Act.put, List.setIfInBounds_toArray, List.set_cons_zero, List.set_cons_succ]
        refine wpAnyH_done (by kernel_rfl) ?_ _
        have hN := hB.next hb1 hA hb2 hown4 hgrow (by rcases hat with hat | hat; exact .inl hat.symm; exact .inr (by simp [Value.ownBlock, hat])) 
        clear HS
        go_wp2_with fail
        go_roundw
        case rel => exact ⟨j + 1, _, _, _, by omega, by go_num, by rw [List.take_succ_eq_append_getElem (by omega), HVS.out, HC.out], hN⟩
        case measure => simp [intOf]; omega
      · go_simp
        refine hcall.mono ?_
        rintro _ w2 ⟨y, rfl, hA, hb2⟩
        obtain ⟨A3, cap3, rfl⟩ := hA.form
        have p2 := fun (b : Nat) (hb : b < wr.heap.size) => (hb2.block b (by have := hb1.size; omega)).trans (hb1.block b hb)
        have p3 := fun (b : Nat) (hb : b < wr.heap.size) => (Below.heap_alloc w2 (.cells #[.int .u8 d.k, .int .u64 d.n, .string d.s, .slice A3 d.kids.length cap3] 25) b (by have := hb1.size; have := hb2.size; omega)).trans (p2 b hb)
        have r2 : w2.cell? ⟨w.heap.size + 2, 3, none⟩ = some v := by rw [cell_of_row _ _ _ _ _ _ ((p2 _ hBlt).trans hB.var)]; rfl
        have r3 : (w2.alloc (.cells #[.int .u8 d.k, .int .u64 d.n, .string d.s, .slice A3 d.kids.length cap3] 25)).cell? ⟨w.heap.size + 2, 3, none⟩ = some v := by rw [cell_of_row _ _ _ _ _ _ ((p3 _ hBlt).trans hB.var)]; rfl
        have hown3 : (w2.alloc (.cells #[.int .u8 d.k, .int .u64 d.n, .string d.s, .slice A3 d.kids.length cap3] 25)).ownsRow (w.heap.size + 3) 25 4 v vs.length xs := own_keep hB.own p3
        have hsz2 : w.heap.size + 3 ≤ w2.heap.size := by have := hb1.size; have := hb2.size; have := hB.sz; omega
        refine hK.out _ _ (HS.out _ (p2 _ hkb) (p2 _ hvb0)) (fun hHeld => ?_)
        clear hK K
        try simp only [Act.put, List.setIfInBounds_toArray, List.set_cons_zero, List.set_cons_succ]
        refine wpAnyH_ready (rs := [1, 9]) (by kernel_rfl) (by simp) (AllReadyH.cons (o := _) rfl (fun K hK => ?_) (AllReadyH.cons (o := _) rfl (fun K hK => ?_) AllReadyH.nil))
        · go_simp
          refine hK.out _ _ (HS.out _ (p2 _ hkb) (p2 _ hvb0)) (fun hHeld => ?_)
          clear hK K
          try simp only [Act.put, List.setIfInBounds_toArray, List.set_cons_zero, List.set_cons_succ]
          refine wpAnyH_ready (rs := [9]) (by kernel_rfl) (by simp) (AllReadyH.cons (o := _) rfl (fun K hK => ?_) AllReadyH.nil)
          go_simp
          refine hK.out _ _ (HS.out _ (p3 _ hkb) (p3 _ hvb0)) (fun hHeld => ?_)
          clear hK K
          try simp only [Act.put, List.setIfInBounds_toArray, List.set_cons_zero, List.set_cons_succ]
          refine wpAnyH_ready (rs := [10]) (by kernel_rfl) (by simp) (AllReadyH.cons (o := _) rfl (fun K hK => ?_) AllReadyH.nil)
          refine step_append_lies _ rfl _ _ 23 rfl (w.heap.size + 3) 25 i0 _ 4 56 Tryz.underlying23 hi0 hz0 hz1 hz2 rfl (by decide) v vs.length xs rfl hown3 ⟨_, 0, none⟩ 1 1 [.int .u8 d.k, .int .u64 d.n, .string d.s, .slice A3 d.kids.length cap3] rfl rfl (World.news_of_block (heap_alloc_new w2 _)) (by simp [Value.oneCell']) (by decide) (by unfold maxLen; omega) (by omega) (by simp; omega) _ rfl ?_
          intro g cap4 w4 hown4 hgrow hat hlt4
          have c4 := hB.mid hb1 hb2 hgrow (w.heap.size + 2) _ (by have := hBlt; have := hb1.size; omega) hvB v1
          have e4 := fun b hb hv => (hB.mid hb1 hb2 hgrow b _ (by have := hb1.size; omega) hv ((hb1.block b hb).trans (Array.getElem?_eq_getElem hb))).trans (Array.getElem?_eq_getElem hb).symm
          have s4 : w4.cell? ⟨w.heap.size + 2, 3, none⟩ = some v := by rw [cell_of_row _ _ _ _ _ _ c4]; rfl
          have z4 := frozen_of_row w4 (w.heap.size + 2) 3 _ _ c4
          refine hK.out _ _ (HS.out _ (e4 _ hkb hvk) (e4 _ hvb0 hvw)) (fun hHeld => ?_)
          clear hK K
          try simp only [Act.put, List.setIfInBounds_toArray, List.set_cons_zero, List.set_cons_succ]
          refine wpAnyH_take (i := 11) (oi := _) (v := ?_) rfl (by kernel_rfl) (by kernel_rfl) (by kernel_rfl) (fun _ _ _ h => h) (Or.inl ⟨by rfl, ?_⟩) (by assumption) ?_
          rotate_left
          · intro w hSw
            (try dsimp only at hSw)
            go_simp
            all_goals (with_reducible rfl)
          try simp only [Act.put, List.setIfInBounds_toArray, List.set_cons_zero, List.set_cons_succ]
          refine wpAnyH_ready (rs := [12]) (by kernel_rfl) (by simp) (AllReadyH.cons (o := _) rfl (fun K hK => ?_) AllReadyH.nil)
          go_simp
          have e5 := fun (b : Nat) (hb : b < wr.heap.size) (hv : v.ownBlock ≠ some b) (hne : b ≠ w.heap.size + 2) => (Below.heap_setCell w4 ⟨w.heap.size + 2, 3, none⟩ (.slice (some ⟨g, 0, none⟩) (vs.length + 1) cap4) b hne).trans (e4 b hb hv)
          refine hK.out _ _ (HS.out _ (e5 _ hkb hvk hkB) (e5 _ hvb0 hvw (by omega))) (fun hHeld => ?_)
          clear hK K
          try simp only [Act.put, List.setIfInBounds_toArray, List.set_cons_zero, List.set_cons_succ]
          refine wpAnyH_done (by kernel_rfl) ?_ _
          have hN := hB.next hb1 hA hb2 hown4 hgrow (by rcases hat with hat | hat; exact .inl hat.symm; exact .inr (by simp [Value.ownBlock, hat])) 
          clear HS
          go_wp2_with fail
          go_roundw
          case rel => exact ⟨j + 1, _, _, _, by omega, by go_num, by rw [List.take_succ_eq_append_getElem (by omega), HVS.out, HC.out], hN⟩
          case measure => simp [intOf]; omega
        · go_simp
          refine hK.out _ _ (HS.out _ (p3 _ hkb) (p3 _ hvb0)) (fun hHeld => ?_)
          clear hK K
          try simp only [Act.put, List.setIfInBounds_toArray, List.set_cons_zero, List.set_cons_succ]
          refine wpAnyH_ready (rs := [1]) (by kernel_rfl) (by simp) (AllReadyH.cons (o := _) rfl (fun K hK => ?_) AllReadyH.nil)
          go_simp
          refine hK.out _ _ (HS.out _ (p3 _ hkb) (p3 _ hvb0)) (fun hHeld => ?_)
          clear hK K
          try simp only [Act.put, List.setIfInBounds_toArray, List.set_cons_zero, List.set_cons_succ]
          refine wpAnyH_ready (rs := [10]) (by kernel_rfl) (by simp) (AllReadyH.cons (o := _) rfl (fun K hK => ?_) AllReadyH.nil)
          refine step_append_lies _ rfl _ _ 23 rfl (w.heap.size + 3) 25 i0 _ 4 56 Tryz.underlying23 hi0 hz0 hz1 hz2 rfl (by decide) v vs.length xs rfl hown3 ⟨_, 0, none⟩ 1 1 [.int .u8 d.k, .int .u64 d.n, .string d.s, .slice A3 d.kids.length cap3] rfl rfl (World.news_of_block (heap_alloc_new w2 _)) (by simp [Value.oneCell']) (by decide) (by unfold maxLen; omega) (by omega) (by simp; omega) _ rfl ?_
          intro g cap4 w4 hown4 hgrow hat hlt4
          have c4 := hB.mid hb1 hb2 hgrow (w.heap.size + 2) _ (by have := hBlt; have := hb1.size; omega) hvB v1
          have e4 := fun b hb hv => (hB.mid hb1 hb2 hgrow b _ (by have := hb1.size; omega) hv ((hb1.block b hb).trans (Array.getElem?_eq_getElem hb))).trans (Array.getElem?_eq_getElem hb).symm
          have s4 : w4.cell? ⟨w.heap.size + 2, 3, none⟩ = some v := by rw [cell_of_row _ _ _ _ _ _ c4]; rfl
          have z4 := frozen_of_row w4 (w.heap.size + 2) 3 _ _ c4
          refine hK.out _ _ (HS.out _ (e4 _ hkb hvk) (e4 _ hvb0 hvw)) (fun hHeld => ?_)
          clear hK K
          try simp only [Act.put, List.setIfInBounds_toArray, List.set_cons_zero, List.set_cons_succ]
          refine wpAnyH_take (i := 11) (oi := _) (v := ?_) rfl (by kernel_rfl) (by kernel_rfl) (by kernel_rfl) (fun _ _ _ h => h) (Or.inl ⟨by rfl, ?_⟩) (by assumption) ?_
          rotate_left
          · intro w hSw
            (try dsimp only at hSw)
            go_simp
            all_goals (with_reducible rfl)
          try simp only [Act.put, List.setIfInBounds_toArray, List.set_cons_zero, List.set_cons_succ]
          refine wpAnyH_ready (rs := [12]) (by kernel_rfl) (by simp) (AllReadyH.cons (o := _) rfl (fun K hK => ?_) AllReadyH.nil)
          go_simp
          have e5 := fun (b : Nat) (hb : b < wr.heap.size) (hv : v.ownBlock ≠ some b) (hne : b ≠ w.heap.size + 2) => (Below.heap_setCell w4 ⟨w.heap.size + 2, 3, none⟩ (.slice (some ⟨g, 0, none⟩) (vs.length + 1) cap4) b hne).trans (e4 b hb hv)
          refine hK.out _ _ (HS.out _ (e5 _ hkb hvk hkB) (e5 _ hvb0 hvw (by omega))) (fun hHeld => ?_)
          clear hK K
          try simp only [Act.put, List.setIfInBounds_toArray, List.set_cons_zero, List.set_cons_succ]
          refine wpAnyH_done (by kernel_rfl) ?_ _
          have hN := hB.next hb1 hA hb2 hown4 hgrow (by rcases hat with hat | hat; exact .inl hat.symm; exact .inr (by simp [Value.ownBlock, hat])) 
          clear HS
          go_wp2_with fail
          go_roundw
          case rel => exact ⟨j + 1, _, _, _, by omega, by go_num, by rw [List.take_succ_eq_append_getElem (by omega), HVS.out, HC.out], hN⟩
          case measure => simp [intOf]; omega
    · obtain rfl : kids.length = j := by omega
      have hltk : decide (kids.length < kids.length) = false := by simp
      rw [List.take_of_length_le (by omega)] at hvs
      subst hvs
      obtain ⟨r0, r1, r2, r3⟩ := kid_cells hB.var
      obtain ⟨A2, cap2, rfl, g1, g2, g3⟩ := own_reps25 hB.own (hB.ars.keep (fun b _ hb => ⟨rfl, hb.1⟩) (Nat.le_refl _))
      have hR := hB.ret
      obtain ⟨t0, t1, t2, t3⟩ := kid_cells hR
      have f0 := fun o => frozen_of_row wr (w.heap.size + 1) o _ _ hR
      have far : ∀ (q : Nat) (a b c d : Value), q ≠ w.heap.size + 1 → ((((wr.setCell ⟨w.heap.size + 1, 0, none⟩ a).setCell ⟨w.heap.size + 1, 1, none⟩ b).setCell ⟨w.heap.size + 1, 2, none⟩ c).setCell ⟨w.heap.size + 1, 3, none⟩ d).heap[q]? = wr.heap[q]? := fun q a b c d hq => by
        rw [Below.heap_setCell _ ⟨w.heap.size + 1, 3, none⟩ _ q hq, Below.heap_setCell _ ⟨w.heap.size + 1, 2, none⟩ _ q hq, Below.heap_setCell _ ⟨w.heap.size + 1, 1, none⟩ _ q hq, Below.heap_setCell _ ⟨w.heap.size + 1, 0, none⟩ _ q hq]
      clear hL hLl hvl
      go_wp2_with fail
      have h3 := row_setC (row_setC (row_setC (row_setC hR 0 (.int .u8 (97))) 1 (.int .u64 n)) 2 (.string ((bs (c0 :: rr))))) 3 (.slice A2 vs.length cap2)
      have hlo : w.heap.size ≤ w.heap.size + 1 := by omega
      refine bodyPost_ret (results_cell_row rfl _ _ (w.heap.size + 1) 25 #[.int .u8 (97), .int .u64 n, .string ((bs (c0 :: rr))), .slice A2 vs.length cap2] (0, 0) _ rfl h3 Tryz.underlying25 rfl (by kernel_rfl)) rfl ⟨.agg #[.int .u8 (97), .int .u64 n, .string ((bs (c0 :: rr))), .slice A2 vs.length cap2], rfl, ?_, (((hB.bel.setCell (p := ⟨w.heap.size + 1, 0, none⟩) hlo _).setCell (p := ⟨w.heap.size + 1, 1, none⟩) hlo _).setCell (p := ⟨w.heap.size + 1, 2, none⟩) hlo _).setCell (p := ⟨w.heap.size + 1, 3, none⟩) hlo _⟩
      have g4 := (g3.keep (fun b _ hb => far b (.int .u8 (97)) (.int .u64 n) (.string ((bs (c0 :: rr)))) (.slice A2 vs.length cap2) (by omega))).mono (fun b _ hb => (show w.heap.size ≤ b by omega))
      simp only [Rep]
      exact ⟨A2, cap2, rfl, g1, by unfold maxLen at g2; omega, hk0, hn0, hs0, g4⟩
set_option maxRecDepth 100000 in
set_option maxHeartbeats 6400000 in
theorem vt_d (t : Nat) (ht : t < 256) (n : Int) (rr : List UInt8) (kids L : List V) (hlen : kids.length ≤ 1000) (hLl : L.length = kids.length) (hL : ∀ j (hj : j < kids.length), ∃ (h1 : ((j + t) % kids.length) < kids.length) (h2 : j < L.length), L[j] = turned t (kids[((j + t) % kids.length)])) (ih : ∀ c ∈ kids, VtOk t c)
    (S : Nat → Prop) (x : Value) (w : World) (hr : Rep S w (.mk 97 n (bs (123 :: rr)) kids) x) : Calls Tryz.prog 10 #[x, .int .i64 t] w (VtR (.mk 97 n (bs (123 :: rr)) L) w) := by
  obtain ⟨i0, hi0, hz0, hz1, hz2⟩ := info_parts info25t
  simp only [Rep] at hr
  obtain ⟨A, cap, rfl, h1, h2, hk0, hn0, hs0, hkids⟩ := hr
  have hB0 : Bt (w.heap.size + 3) (w.heap.size + 2) (97) n ((bs (123 :: rr))) A kids.length cap w (((w.alloc (.cells #[.int .u8 97, .int .u64 n, .string (bs (123 :: rr)), .slice A kids.length cap] 25)).alloc (.cells #[.int .u8 0, .int .u64 0, .string { data := #[] }, .slice none 0 0] 25)).alloc (.cells #[.int .u8 97, .int .u64 n, .string (bs (123 :: rr)), .slice none 0 0] 25)) [] (.slice none 0 0) [] := by
    refine ⟨World.ownsRow_nil _ _ _ _, ?_, rfl, (((Below.refl _ _).alloc (Nat.le_refl _) _).alloc (by simp) _).alloc (by simp; omega) _, by omega, by omega, by simp, ?_, rfl, ?_⟩
    · have := heap_alloc_new ((w.alloc (.cells #[.int .u8 97, .int .u64 n, .string (bs (123 :: rr)), .slice A kids.length cap] 25)).alloc (.cells #[.int .u8 0, .int .u64 0, .string { data := #[] }, .slice none 0 0] 25)) (.cells #[.int .u8 97, .int .u64 n, .string (bs (123 :: rr)), .slice none 0 0] 25)
      simpa using this
    · rw [Below.heap_alloc _ _ _ (by simp)]
      have := heap_alloc_new (w.alloc (.cells #[.int .u8 97, .int .u64 n, .string (bs (123 :: rr)), .slice A kids.length cap] 25)) (.cells #[.int .u8 0, .int .u64 0, .string { data := #[] }, .slice none 0 0] 25)
      simpa using this
    · rw [Below.heap_alloc _ _ _ (by simp; omega), Below.heap_alloc _ _ _ (by simp)]
      exact heap_alloc_new w _
  go_enter Tryz.func10, Tryz.ntmps10
  go_wp2_with fail
  go_loopw [18] (fun i wr => ∃ (j : Nat) (vs : List V) (v : Value) (xs : List Value), j ≤ kids.length ∧ i = .int .i64 j ∧ vs = L.take j ∧ Bt (w.heap.size + 3) (w.heap.size + 2) (97) n ((bs (123 :: rr))) A kids.length cap w wr vs v xs) (fun i _ => kids.length - (intOf i).toNat)
  case atStart => exact ⟨0, _, _, _, Nat.zero_le _, rfl, rfl, by simpa using hB0⟩
  case round =>
    clear hB0
    obtain ⟨j, vs, v, xs, hj, rfl, hvs, hB⟩ := hrel
    have hvl : vs.length = j := by rw [hvs, List.length_take, Nat.min_eq_left (by omega)]
    have hbsz := hB.sz
    by_cases hlt : j < kids.length
    · have hltk : decide (j < kids.length) = true := by simp; omega
      have hyl2 : vs.length ≤ 1000 := by omega
      have HVL := Lib.hid hvl
      have HVS := Lib.hid hvs.symm
      clear hvl hvs
      obtain ⟨hjj, hjL, hLj⟩ := hL j hlt
      obtain ⟨jj, hjj2, hq, hLj2⟩ : ∃ jj, ∃ (h : jj < kids.length), ((j : Int) + (t : Int)) % (kids.length : Int) = (jj : Int) ∧ L[j] = turned t kids[jj] := ⟨(j + t) % kids.length, hjj, by push_cast; rfl, hLj⟩
      clear hLj hjj
      have hjj := hjj2
      have hLj := hLj2
      clear hLj2
      obtain ⟨b, o, _, _, rfl, _, k0, _⟩ := hkids.kid jj hjj
      have hkw : b < w.heap.size := World.block_lt_of_cell? w _ k0
      clear k0
      obtain ⟨b', o', A', cap', hbo, _, k0, k1, k2, k3, hv⟩ := (hkids.keep fun b hlt _ => hB.bel.block b hlt).kid jj hjj
      cases hbo
      have hcin : kids[jj] ∈ kids := List.getElem_mem hjj
      have hih := ih _ hcin
      generalize hc : kids[jj] = c at *
      generalize hd : turned t c = d at *
      have hb1 : Below wr.heap.size wr wr.drew := (Below.refl _ _).drew
      have hcall := hih _ _ _ (hv.below hb1)
      unfold VtR at hcall
      rw [hd] at hcall
      have HC := Lib.hid hLj
      have hBlt : w.heap.size + 2 < wr.heap.size := (Array.getElem?_eq_some_iff.1 hB.var).1
      have hvB : v.ownBlock ≠ some (w.heap.size + 2) := fun hc => by have := own_base' hB.own hc; omega
      have hvw : v.ownBlock ≠ some (w.heap.size) := fun hc => by have := own_base' hB.own hc; omega
      have hvb0 : w.heap.size < wr.heap.size := by omega
      have hkb : b < wr.heap.size := by omega
      have hkB : b ≠ w.heap.size + 2 := by omega
      have hvk : v.ownBlock ≠ some b := fun hc => by have := own_base' hB.own hc; omega
      obtain ⟨q0, q1, q2, q3⟩ := kid_cells hB.box
      have v1 : wr.drew.heap[w.heap.size + 2]? = _ := hB.var
      have r1 : wr.drew.cell? ⟨w.heap.size + 2, 3, none⟩ = some v := by rw [cell_of_row _ _ _ _ _ _ v1]; rfl
      have hS : ∀ w' : World, w'.heap[b]? = wr.heap[b]? → w'.heap[w.heap.size]? = wr.heap[w.heap.size]? → (w'.cell? ⟨w.heap.size, 3, none⟩ = some (.slice (some ⟨b, o, none⟩) kids.length cap) ∧ w'.cell? ⟨b, o + jj * 4, none⟩ = some (.int .u8 c.k) ∧ w'.cell? ⟨b, o + jj * 4 + 1, none⟩ = some (.int .u64 c.n) ∧ w'.cell? ⟨b, o + jj * 4 + 2, none⟩ = some (.string c.s) ∧ w'.cell? ⟨b, o + jj * 4 + 3, none⟩ = some (.slice A' c.kids.length cap')) := fun w' h1 h2 =>
        ⟨(World.cell?_of_block (a := ⟨w.heap.size, 3, none⟩) h2).trans q3, (World.cell?_of_block (a := ⟨b, _, none⟩) h1).trans k0, (World.cell?_of_block (a := ⟨b, _, none⟩) h1).trans k1, (World.cell?_of_block (a := ⟨b, _, none⟩) h1).trans k2, (World.cell?_of_block (a := ⟨b, _, none⟩) h1).trans k3⟩
      have HS := Lib.hid hS
      clear hc hd hcin hih hLj hL hS
      go_wp2_with fail
      refine wp_region_held_drew (S := fun w' => w'.cell? ⟨w.heap.size, 3, none⟩ = some (.slice (some ⟨b, o, none⟩) kids.length cap) ∧ w'.cell? ⟨b, o + jj * 4, none⟩ = some (.int .u8 c.k) ∧ w'.cell? ⟨b, o + jj * 4 + 1, none⟩ = some (.int .u64 c.n) ∧ w'.cell? ⟨b, o + jj * 4 + 2, none⟩ = some (.string c.s) ∧ w'.cell? ⟨b, o + jj * 4 + 3, none⟩ = some (.slice A' c.kids.length cap')) (by kernel_rfl) (HS.out _ rfl rfl) (fun hHeld => ?_)
      refine wpAnyH_take (i := 0) (oi := _) (v := ?_) rfl (by kernel_rfl) (by kernel_rfl) (by kernel_rfl) (fun _ _ _ h => h) (Or.inl ⟨by rfl, ?_⟩) (by assumption) ?_
      rotate_left
      · intro w hSw
        (try dsimp only at hSw)
        go_simp
        all_goals (with_reducible rfl)
      try simp only [Act.put, List.setIfInBounds_toArray, List.set_cons_zero, List.set_cons_succ]
      refine wpAnyH_take (i := 2) (oi := _) (v := ?_) rfl (by kernel_rfl) (by kernel_rfl) (by kernel_rfl) (fun _ _ _ h => h) (Or.inl ⟨by rfl, ?_⟩) (by assumption) ?_
      rotate_left
      · intro w hSw
        (try dsimp only at hSw)
        go_simp
        all_goals (with_reducible rfl)
      try simp only [Act.put, List.setIfInBounds_toArray, List.set_cons_zero, List.set_cons_succ]
      refine wpAnyH_take (i := 3) (oi := _) (v := ?_) rfl (by kernel_rfl) (by kernel_rfl) (by kernel_rfl) (fun _ _ _ h => h) (Or.inl ⟨by rfl, ?_⟩) (by assumption) ?_
      rotate_left
      · intro w hSw
        (try dsimp only at hSw)
        go_simp
        all_goals (with_reducible rfl)
      try simp only [Act.put, List.setIfInBounds_toArray, List.set_cons_zero, List.set_cons_succ]
      refine wpAnyH_take (i := 4) (oi := _) (v := ?_) rfl (by kernel_rfl) (by kernel_rfl) (by kernel_rfl) (fun _ _ _ h => h) (Or.inl ⟨by rfl, ?_⟩) (by assumption) ?_
      rotate_left
      · intro w hSw
        (try dsimp only at hSw)
        go_simp
        all_goals (with_reducible rfl)
      try simp only [Act.put, List.setIfInBounds_toArray, List.set_cons_zero, List.set_cons_succ]
      refine wpAnyH_take (i := 5) (oi := _) (v := ?_) rfl (by kernel_rfl) (by kernel_rfl) (by kernel_rfl) (fun _ _ _ h => h) (Or.inl ⟨by rfl, ?_⟩) (by assumption) ?_
      rotate_left
      · intro w hSw
        (try dsimp only at hSw)
        go_simp
        all_goals (with_reducible rfl)
      try simp only [Act.put, List.setIfInBounds_toArray, List.set_cons_zero, List.set_cons_succ]
      refine wpAnyH_take (i := 6) (oi := _) (v := ?_) rfl (by kernel_rfl) (by kernel_rfl) (by kernel_rfl) (fun _ _ _ h => h) (Or.inl ⟨by rfl, ?_⟩) (by assumption) ?_
      rotate_left
      · intro w hSw
        (try dsimp only at hSw)
        go_simp
        all_goals (with_reducible rfl)
      try simp only [Act.put, List.setIfInBounds_toArray, List.set_cons_zero, List.set_cons_succ]
      refine wpAnyH_take (i := 7) (oi := _) (v := ?_) rfl (by kernel_rfl) (by kernel_rfl) (by kernel_rfl) (fun _ _ _ h => h) (Or.inl ⟨by rfl, ?_⟩) (by assumption) ?_
      rotate_left
      · intro w hSw
        (try dsimp only at hSw)
        go_simp
        all_goals (with_reducible rfl)
      try simp only [Act.put, List.setIfInBounds_toArray, List.set_cons_zero, List.set_cons_succ]
      refine wpAnyH_ready (rs := [1, 8]) (by kernel_rfl) (by simp) (AllReadyH.cons (o := _) rfl (fun K hK => ?_) (AllReadyH.cons (o := _) rfl (fun K hK => ?_) AllReadyH.nil))
      · go_simp
        refine hK.out _ _ (HS.out _ rfl rfl) (fun hHeld => ?_)
        clear hK K
        try simp only [Act.put, List.setIfInBounds_toArray, List.set_cons_zero, List.set_cons_succ]
        refine wpAnyH_ready (rs := [8]) (by kernel_rfl) (by simp) (AllReadyH.cons (o := _) rfl (fun K hK => ?_) AllReadyH.nil)
        go_simp
        refine hcall.mono ?_
        rintro _ w2 ⟨y, rfl, hA, hb2⟩
        obtain ⟨A3, cap3, rfl⟩ := hA.form
        have p2 := fun (b : Nat) (hb : b < wr.heap.size) => (hb2.block b (by have := hb1.size; omega)).trans (hb1.block b hb)
        have p3 := fun (b : Nat) (hb : b < wr.heap.size) => (Below.heap_alloc w2 (.cells #[.int .u8 d.k, .int .u64 d.n, .string d.s, .slice A3 d.kids.length cap3] 25) b (by have := hb1.size; have := hb2.size; omega)).trans (p2 b hb)
        have r2 : w2.cell? ⟨w.heap.size + 2, 3, none⟩ = some v := by rw [cell_of_row _ _ _ _ _ _ ((p2 _ hBlt).trans hB.var)]; rfl
        have r3 : (w2.alloc (.cells #[.int .u8 d.k, .int .u64 d.n, .string d.s, .slice A3 d.kids.length cap3] 25)).cell? ⟨w.heap.size + 2, 3, none⟩ = some v := by rw [cell_of_row _ _ _ _ _ _ ((p3 _ hBlt).trans hB.var)]; rfl
        have hown3 : (w2.alloc (.cells #[.int .u8 d.k, .int .u64 d.n, .string d.s, .slice A3 d.kids.length cap3] 25)).ownsRow (w.heap.size + 3) 25 4 v vs.length xs := own_keep hB.own p3
        have hsz2 : w.heap.size + 3 ≤ w2.heap.size := by have := hb1.size; have := hb2.size; have := hB.sz; omega
        refine hK.out _ _ (HS.out _ (p2 _ hkb) (p2 _ hvb0)) (fun hHeld => ?_)
        clear hK K
        try simp only [Act.put, List.setIfInBounds_toArray, List.set_cons_zero, List.set_cons_succ]
        refine wpAnyH_ready (rs := [9]) (by kernel_rfl) (by simp) (AllReadyH.cons (o := _) rfl (fun K hK => ?_) AllReadyH.nil)
        go_simp
        refine hK.out _ _ (HS.out _ (p3 _ hkb) (p3 _ hvb0)) (fun hHeld => ?_)
        clear hK K
        try simp only [Act.put, List.setIfInBounds_toArray, List.set_cons_zero, List.set_cons_succ]
        refine wpAnyH_ready (rs := [10]) (by kernel_rfl) (by simp) (AllReadyH.cons (o := _) rfl (fun K hK => ?_) AllReadyH.nil)
        refine step_append_lies _ rfl _ _ 23 rfl (w.heap.size + 3) 25 i0 _ 4 56 Tryz.underlying23 hi0 hz0 hz1 hz2 rfl (by decide) v vs.length xs rfl hown3 ⟨_, 0, none⟩ 1 1 [.int .u8 d.k, .int .u64 d.n, .string d.s, .slice A3 d.kids.length cap3] rfl rfl (World.news_of_block (heap_alloc_new w2 _)) (by simp [Value.oneCell']) (by decide) (by unfold maxLen; omega) (by omega) (by simp; omega) _ rfl ?_
        intro g cap4 w4 hown4 hgrow hat hlt4
        have c4 := hB.mid hb1 hb2 hgrow (w.heap.size + 2) _ (by have := hBlt; have := hb1.size; omega) hvB v1
        have e4 := fun b hb hv => (hB.mid hb1 hb2 hgrow b _ (by have := hb1.size; omega) hv ((hb1.block b hb).trans (Array.getElem?_eq_getElem hb))).trans (Array.getElem?_eq_getElem hb).symm
        have s4 : w4.cell? ⟨w.heap.size + 2, 3, none⟩ = some v := by rw [cell_of_row _ _ _ _ _ _ c4]; rfl
        have z4 := frozen_of_row w4 (w.heap.size + 2) 3 _ _ c4
        refine hK.out _ _ (HS.out _ (e4 _ hkb hvk) (e4 _ hvb0 hvw)) (fun hHeld => ?_)
        clear hK K
        try simp only [Act.put, List.setIfInBounds_toArray, List.set_cons_zero, List.set_cons_succ]
        refine wpAnyH_take (i := 11) (oi := _) (v := ?_) rfl (by kernel_rfl) (by kernel_rfl) (by kernel_rfl) (fun _ _ _ h => h) (Or.inl ⟨by rfl, ?_⟩) (by assumption) ?_
        rotate_left
        · intro w hSw
          (try dsimp only at hSw)
          go_simp
          all_goals (with_reducible rfl)
        try simp only [Act.put, List.setIfInBounds_toArray, List.set_cons_zero, List.set_cons_succ]
        refine wpAnyH_ready (rs := [12]) (by kernel_rfl) (by simp) (AllReadyH.cons (o := _) rfl (fun K hK => ?_) AllReadyH.nil)
        go_simp
        have e5 := fun (b : Nat) (hb : b < wr.heap.size) (hv : v.ownBlock ≠ some b) (hne : b ≠ w.heap.size + 2) => (Below.heap_setCell w4 ⟨w.heap.size + 2, 3, none⟩ (.slice (some ⟨g, 0, none⟩) (vs.length + 1) cap4) b hne).trans (e4 b hb hv)
        refine hK.out _ _ (HS.out _ (e5 _ hkb hvk hkB) (e5 _ hvb0 hvw (by omega))) (fun hHeld => ?_)
        clear hK K
        try simp only [Act.put, List.setIfInBounds_toArray, List.set_cons_zero, List.set_cons_succ]
        refine wpAnyH_done (by kernel_rfl) ?_ _
        have hN := hB.next hb1 hA hb2 hown4 hgrow (by rcases hat with hat | hat; exact .inl hat.symm; exact .inr (by simp [Value.ownBlock, hat])) 
        clear HS
        go_wp2_with fail
        go_roundw
        case rel => exact ⟨j + 1, _, _, _, by omega, by go_num, by rw [List.take_succ_eq_append_getElem (by omega), HVS.out, HC.out], hN⟩
        case measure => simp [intOf]; omega
      · go_simp
        refine hcall.mono ?_
        rintro _ w2 ⟨y, rfl, hA, hb2⟩
        obtain ⟨A3, cap3, rfl⟩ := hA.form
        have p2 := fun (b : Nat) (hb : b < wr.heap.size) => (hb2.block b (by have := hb1.size; omega)).trans (hb1.block b hb)
        have p3 := fun (b : Nat) (hb : b < wr.heap.size) => (Below.heap_alloc w2 (.cells #[.int .u8 d.k, .int .u64 d.n, .string d.s, .slice A3 d.kids.length cap3] 25) b (by have := hb1.size; have := hb2.size; omega)).trans (p2 b hb)
        have r2 : w2.cell? ⟨w.heap.size + 2, 3, none⟩ = some v := by rw [cell_of_row _ _ _ _ _ _ ((p2 _ hBlt).trans hB.var)]; rfl
        have r3 : (w2.alloc (.cells #[.int .u8 d.k, .int .u64 d.n, .string d.s, .slice A3 d.kids.length cap3] 25)).cell? ⟨w.heap.size + 2, 3, none⟩ = some v := by rw [cell_of_row _ _ _ _ _ _ ((p3 _ hBlt).trans hB.var)]; rfl
        have hown3 : (w2.alloc (.cells #[.int .u8 d.k, .int .u64 d.n, .string d.s, .slice A3 d.kids.length cap3] 25)).ownsRow (w.heap.size + 3) 25 4 v vs.length xs := own_keep hB.own p3
        have hsz2 : w.heap.size + 3 ≤ w2.heap.size := by have := hb1.size; have := hb2.size; have := hB.sz; omega
        refine hK.out _ _ (HS.out _ (p2 _ hkb) (p2 _ hvb0)) (fun hHeld => ?_)
        clear hK K
        try simp only [Act.put, List.setIfInBounds_toArray, List.set_cons_zero, List.set_cons_succ]
        refine wpAnyH_ready (rs := [1, 9]) (by kernel_rfl) (by simp) (AllReadyH.cons (o := _) rfl (fun K hK => ?_) (AllReadyH.cons (o := _) rfl (fun K hK => ?_) AllReadyH.nil))
        · go_simp
          refine hK.out _ _ (HS.out _ (p2 _ hkb) (p2 _ hvb0)) (fun hHeld => ?_)
          clear hK K
          try simp only [Act.put, List.setIfInBounds_toArray, List.set_cons_zero, List.set_cons_succ]
          refine wpAnyH_ready (rs := [9]) (by kernel_rfl) (by simp) (AllReadyH.cons (o := _) rfl (fun K hK => ?_) AllReadyH.nil)
          go_simp
          refine hK.out _ _ (HS.out _ (p3 _ hkb) (p3 _ hvb0)) (fun hHeld => ?_)
          clear hK K
          try simp only [Act.put, List.setIfInBounds_toArray, List.set_cons_zero, List.set_cons_succ]
          refine wpAnyH_ready (rs := [10]) (by kernel_rfl) (by simp) (AllReadyH.cons (o := _) rfl (fun K hK => ?_) AllReadyH.nil)
          refine step_append_lies _ rfl _ _ 23 rfl (w.heap.size + 3) 25 i0 _ 4 56 Tryz.underlying23 hi0 hz0 hz1 hz2 rfl (by decide) v vs.length xs rfl hown3 ⟨_, 0, none⟩ 1 1 [.int .u8 d.k, .int .u64 d.n, .string d.s, .slice A3 d.kids.length cap3] rfl rfl (World.news_of_block (heap_alloc_new w2 _)) (by simp [Value.oneCell']) (by decide) (by unfold maxLen; omega) (by omega) (by simp; omega) _ rfl ?_
          intro g cap4 w4 hown4 hgrow hat hlt4
          have c4 := hB.mid hb1 hb2 hgrow (w.heap.size + 2) _ (by have := hBlt; have := hb1.size; omega) hvB v1
          have e4 := fun b hb hv => (hB.mid hb1 hb2 hgrow b _ (by have := hb1.size; omega) hv ((hb1.block b hb).trans (Array.getElem?_eq_getElem hb))).trans (Array.getElem?_eq_getElem hb).symm
          have s4 : w4.cell? ⟨w.heap.size + 2, 3, none⟩ = some v := by rw [cell_of_row _ _ _ _ _ _ c4]; rfl
          have z4 := frozen_of_row w4 (w.heap.size + 2) 3 _ _ c4
          refine hK.out _ _ (HS.out _ (e4 _ hkb hvk) (e4 _ hvb0 hvw)) (fun hHeld => ?_)
          clear hK K
          try simp only [Act.put, List.setIfInBounds_toArray, List.set_cons_zero, List.set_cons_succ]
          refine wpAnyH_take (i := 11) (oi := _) (v := ?_) rfl (by kernel_rfl) (by kernel_rfl) (by kernel_rfl) (fun _ _ _ h => h) (Or.inl ⟨by rfl, ?_⟩) (by assumption) ?_
          rotate_left
          · intro w hSw
            (try dsimp only at hSw)
            go_simp
            all_goals (with_reducible rfl)
          try simp only [Act.put, List.setIfInBounds_toArray, List.set_cons_zero, List.set_cons_succ]
          refine wpAnyH_ready (rs := [12]) (by kernel_rfl) (by simp) (AllReadyH.cons (o := _) rfl (fun K hK => ?_) AllReadyH.nil)
          go_simp
          have e5 := fun (b : Nat) (hb : b < wr.heap.size) (hv : v.ownBlock ≠ some b) (hne : b ≠ w.heap.size + 2) => (Below.heap_setCell w4 ⟨w.heap.size + 2, 3, none⟩ (.slice (some ⟨g, 0, none⟩) (vs.length + 1) cap4) b hne).trans (e4 b hb hv)
          refine hK.out _ _ (HS.out _ (e5 _ hkb hvk hkB) (e5 _ hvb0 hvw (by omega))) (fun hHeld => ?_)
          clear hK K
          try simp only [Act.put, List.setIfInBounds_toArray, List.set_cons_zero, List.set_cons_succ]
          refine wpAnyH_done (by kernel_rfl) ?_ _
          have hN := hB.next hb1 hA hb2 hown4 hgrow (by rcases hat with hat | hat; exact .inl hat.symm; exact .inr (by simp [Value.ownBlock, hat])) 
          clear HS
          go_wp2_with fail
          go_roundw
          case rel => exact ⟨j + 1, _, _, _, by omega, by go_num, by rw [List.take_succ_eq_append_getElem (by omega), HVS.out, HC.out], hN⟩
          case measure => simp [intOf]; omega
        · go_simp
          refine hK.out _ _ (HS.out _ (p3 _ hkb) (p3 _ hvb0)) (fun hHeld => ?_)
          clear hK K
          try simp only [Act.put, List.setIfInBounds_toArray, List.set_cons_zero, List.set_cons_succ]
          refine wpAnyH_ready (rs := [1]) (by kernel_rfl) (by simp) (AllReadyH.cons (o := _) rfl (fun K hK => ?_) AllReadyH.nil)
          go_simp
          refine hK.out _ _ (HS.out _ (p3 _ hkb) (p3 _ hvb0)) (fun hHeld => ?_)
          clear hK K
          try simp only [Act.put, List.setIfInBounds_toArray, List.set_cons_zero, List.set_cons_succ]
          refine wpAnyH_ready (rs := [10]) (by kernel_rfl) (by simp) (AllReadyH.cons (o := _) rfl (fun K hK => ?_) AllReadyH.nil)
          refine step_append_lies _ rfl _ _ 23 rfl (w.heap.size + 3) 25 i0 _ 4 56 Tryz.underlying23 hi0 hz0 hz1 hz2 rfl (by decide) v vs.length xs rfl hown3 ⟨_, 0, none⟩ 1 1 [.int .u8 d.k, .int .u64 d.n, .string d.s, .slice A3 d.kids.length cap3] rfl rfl (World.news_of_block (heap_alloc_new w2 _)) (by simp [Value.oneCell']) (by decide) (by unfold maxLen; omega) (by omega) (by simp; omega) _ rfl ?_
          intro g cap4 w4 hown4 hgrow hat hlt4
          have c4 := hB.mid hb1 hb2 hgrow (w.heap.size + 2) _ (by have := hBlt; have := hb1.size; omega) hvB v1
          have e4 := fun b hb hv => (hB.mid hb1 hb2 hgrow b _ (by have := hb1.size; omega) hv ((hb1.block b hb).trans (Array.getElem?_eq_getElem hb))).trans (Array.getElem?_eq_getElem hb).symm
          have s4 : w4.cell? ⟨w.heap.size + 2, 3, none⟩ = some v := by rw [cell_of_row _ _ _ _ _ _ c4]; rfl
          have z4 := frozen_of_row w4 (w.heap.size + 2) 3 _ _ c4
          refine hK.out _ _ (HS.out _ (e4 _ hkb hvk) (e4 _ hvb0 hvw)) (fun hHeld => ?_)
          clear hK K
          try simp only [Act.put, List.setIfInBounds_toArray, List.set_cons_zero, List.set_cons_succ]
          refine wpAnyH_take (i := 11) (oi := _) (v := ?_) rfl (by kernel_rfl) (by kernel_rfl) (by kernel_rfl) (fun _ _ _ h => h) (Or.inl ⟨by rfl, ?_⟩) (by assumption) ?_
          rotate_left
          · intro w hSw
            (try dsimp only at hSw)
            go_simp
            all_goals (with_reducible rfl)
          try simp only [Act.put, List.setIfInBounds_toArray, List.set_cons_zero, List.set_cons_succ]
          refine wpAnyH_ready (rs := [12]) (by kernel_rfl) (by simp) (AllReadyH.cons (o := _) rfl (fun K hK => ?_) AllReadyH.nil)
          go_simp
          have e5 := fun (b : Nat) (hb : b < wr.heap.size) (hv : v.ownBlock ≠ some b) (hne : b ≠ w.heap.size + 2) => (Below.heap_setCell w4 ⟨w.heap.size + 2, 3, none⟩ (.slice (some ⟨g, 0, none⟩) (vs.length + 1) cap4) b hne).trans (e4 b hb hv)
          refine hK.out _ _ (HS.out _ (e5 _ hkb hvk hkB) (e5 _ hvb0 hvw (by omega))) (fun hHeld => ?_)
          clear hK K
          try simp only [Act.put, List.setIfInBounds_toArray, List.set_cons_zero, List.set_cons_succ]
          refine wpAnyH_done (by kernel_rfl) ?_ _
          have hN := hB.next hb1 hA hb2 hown4 hgrow (by rcases hat with hat | hat; exact .inl hat.symm; exact .inr (by simp [Value.ownBlock, hat])) 
          clear HS
          go_wp2_with fail
          go_roundw
          case rel => exact ⟨j + 1, _, _, _, by omega, by go_num, by rw [List.take_succ_eq_append_getElem (by omega), HVS.out, HC.out], hN⟩
          case measure => simp [intOf]; omega
    · obtain rfl : kids.length = j := by omega
      have hltk : decide (kids.length < kids.length) = false := by simp
      rw [List.take_of_length_le (by omega)] at hvs
      subst hvs
      obtain ⟨r0, r1, r2, r3⟩ := kid_cells hB.var
      obtain ⟨A2, cap2, rfl, g1, g2, g3⟩ := own_reps25 hB.own (hB.ars.keep (fun b _ hb => ⟨rfl, hb.1⟩) (Nat.le_refl _))
      have hR := hB.ret
      obtain ⟨t0, t1, t2, t3⟩ := kid_cells hR
      have f0 := fun o => frozen_of_row wr (w.heap.size + 1) o _ _ hR
      have far : ∀ (q : Nat) (a b c d : Value), q ≠ w.heap.size + 1 → ((((wr.setCell ⟨w.heap.size + 1, 0, none⟩ a).setCell ⟨w.heap.size + 1, 1, none⟩ b).setCell ⟨w.heap.size + 1, 2, none⟩ c).setCell ⟨w.heap.size + 1, 3, none⟩ d).heap[q]? = wr.heap[q]? := fun q a b c d hq => by
        rw [Below.heap_setCell _ ⟨w.heap.size + 1, 3, none⟩ _ q hq, Below.heap_setCell _ ⟨w.heap.size + 1, 2, none⟩ _ q hq, Below.heap_setCell _ ⟨w.heap.size + 1, 1, none⟩ _ q hq, Below.heap_setCell _ ⟨w.heap.size + 1, 0, none⟩ _ q hq]
      clear hL hLl hvl
      go_wp2_with fail
      have h3 := row_setC (row_setC (row_setC (row_setC hR 0 (.int .u8 (97))) 1 (.int .u64 n)) 2 (.string ((bs (123 :: rr))))) 3 (.slice A2 vs.length cap2)
      have hlo : w.heap.size ≤ w.heap.size + 1 := by omega
      refine bodyPost_ret (results_cell_row rfl _ _ (w.heap.size + 1) 25 #[.int .u8 (97), .int .u64 n, .string ((bs (123 :: rr))), .slice A2 vs.length cap2] (0, 0) _ rfl h3 Tryz.underlying25 rfl (by kernel_rfl)) rfl ⟨.agg #[.int .u8 (97), .int .u64 n, .string ((bs (123 :: rr))), .slice A2 vs.length cap2], rfl, ?_, (((hB.bel.setCell (p := ⟨w.heap.size + 1, 0, none⟩) hlo _).setCell (p := ⟨w.heap.size + 1, 1, none⟩) hlo _).setCell (p := ⟨w.heap.size + 1, 2, none⟩) hlo _).setCell (p := ⟨w.heap.size + 1, 3, none⟩) hlo _⟩
      have g4 := (g3.keep (fun b _ hb => far b (.int .u8 (97)) (.int .u64 n) (.string ((bs (123 :: rr)))) (.slice A2 vs.length cap2) (by omega))).mono (fun b _ hb => (show w.heap.size ≤ b by omega))
      simp only [Rep]
      exact ⟨A2, cap2, rfl, g1, by unfold maxLen at g2; omega, hk0, hn0, hs0, g4⟩
end Go.Proofs.YtjbpphomlmlmaaaGreatDoor

/- The law FnVtDictOrder answers true. -/
namespace Go.Proofs.YtjbpphomlmlmaaaGreatDoor
open Go.RowKit
set_option linter.unusedVariables false
set_option linter.unusedSimpArgs false
theorem vt_plain (t : Nat) (ht : t < 256) (k n : Int) (s : ByteArray) (kids : List V) (hk : k ≠ 97) (hl : kids.length ≤ 1000) (ih : ∀ c ∈ kids, VtOk t c) : VtOk t (.mk k n s kids) := by
  intro S x w hr
  rw [turned_plain t (fun hc => hk hc.1)]
  exact vt_a t ht k n hk s kids (kids.map (turned t)) hl (by simp) (fun j hj => ⟨hj, by simpa using hj, by simp⟩) ih S x w hr
theorem vt_calls (t : Nat) (ht : t < 256) {v : V} {ty : Ty} (h : HT v ty) : VtOk t v := by
  induction h with
  | num k n s hk _ _ _ _ => exact vt_plain t ht k n s [] (by omega) (by simp) (by simp)
  | txt k n s hk _ => exact vt_plain t ht k n s [] (by omega) (by simp) (by simp)
  | var n s v τ hv hok h255 _ _ ih => exact vt_plain t ht 118 n s [v] (by decide) (by simp) (by simpa using ih)
  | str n s kids ts hne hlen hl hk ih =>
    refine vt_plain t ht 40 n s kids (by decide) hlen fun c hc => ?_
    obtain ⟨j, hj, rfl⟩ := List.mem_iff_getElem.1 hc
    exact ih j _ (ts[j]'(by omega)) (List.getElem?_eq_getElem hj) (List.getElem?_eq_getElem (by omega))
  | arr n s kids e hs hsz hlen hp hke hk ih =>
    obtain ⟨c0, r, hcr, _, _, h123⟩ := Ty.sig_head (t := e) hp
    obtain rfl : s = bs (c0 :: r) := ba_ext (by rw [hs, hcr]; rfl)
    intro S x w hr
    rw [turned_plain t (fun hc => h123 (by have := hc.2; simpa [bs] using this))]
    exact vt_c t ht n c0 h123 r kids (kids.map (turned t)) hlen (by simp) (fun j hj => ⟨hj, by simpa using hj, by simp⟩) ih S x w hr
  | dict n s kids kc e hs hsz hlen hkc hkb hp hke hfr hen ha hb iha ihb =>
    obtain rfl : s = bs (123 :: kc :: (e.sig ++ [125])) := ba_ext (by rw [hs]; rfl)
    intro S x w hr
    rw [turned_dict t rfl]
    refine vt_d t ht n _ kids (rotL t (kids.map (turned t))) hlen (by rw [rotL_length]; simp) (fun j hj => ?_) (fun c hc => ?_) S x w hr
    · have hm : (j + t) % kids.length < kids.length := Nat.mod_lt _ (by omega)
      have hl : j < (rotL t (kids.map (turned t))).length := by rw [rotL_length]; simpa using hj
      refine ⟨hm, hl, ?_⟩
      have := rotL_get t (kids.map (turned t)) j (by simpa using hj)
      rw [List.getElem?_eq_getElem hl, List.length_map, List.getElem?_map, List.getElem?_eq_getElem hm] at this
      simpa using this
    · obtain ⟨n', s', a, b, rfl⟩ := hen c hc
      refine vt_plain t ht 123 n' s' [a, b] (by decide) (by simp) fun c' hc' => ?_
      simp only [List.mem_cons, List.not_mem_nil, or_false] at hc'
      rcases hc' with rfl | rfl
      · exact iha n' s' _ b hc
      · exact ihb n' s' a _ hc
set_option maxRecDepth 100000 in
set_option maxHeartbeats 6400000 in
theorem order_walk (G : Prop) (k n : Int) (s : ByteArray) (A : Option Addr) (m cap : Nat) (t : Nat) (ht : t < 256) (q0 : UInt8) (q : List UInt8) (w : World)
    (h7 : ∀ w', Below w.heap.size w w' → Calls Tryz.prog 7 #[.agg #[.int .u8 k, .int .u64 n, .string s, .slice A m cap]] w' (Tells True w'))
    (h8 : ∀ w', Below w.heap.size w w' → Calls Tryz.prog 8 #[.agg #[.int .u8 k, .int .u64 n, .string s, .slice A m cap]] w' (Tells G w'))
    (h9 : G → ∀ w', Below w.heap.size w w' → Calls Tryz.prog 9 #[.agg #[.int .u8 k, .int .u64 n, .string s, .slice A m cap]] w' fun e w1 => e = .returned (.tuple #[.string (bs (q0 :: q)), .bool true]) ∧ Below w'.heap.size w' w1)
    (h10 : G → ∀ w', Below w.heap.size w w' → Calls Tryz.prog 10 #[.agg #[.int .u8 k, .int .u64 n, .string s, .slice A m cap], .int .i64 t] w' fun e w1 => ∃ y, e = .returned y ∧ Below w'.heap.size w' w1 ∧
      Calls Tryz.prog 9 #[y] w1 fun e w2 => e = .returned (.tuple #[.string (bs (q0 :: q)), .bool true]) ∧ Below w1.heap.size w1 w2) :
    Calls Tryz.prog 3 #[.agg #[.int .u8 k, .int .u64 n, .string s, .slice A m cap], .int .u8 t] w fun e w' => e = .returned (.bool true) ∧ Below w.heap.size w w' := by
  have hB0 : Below w.heap.size w (w.alloc (.cells #[.int .u8 k, .int .u64 n, .string s, .slice A m cap] 25)) := (Below.refl w.heap.size w).alloc (Nat.le_refl _) _
  have hH0 := heap_alloc_new w (.cells #[.int .u8 k, .int .u64 n, .string s, .slice A m cap] 25)
  have hS0 : w.heap.size < (w.alloc (.cells #[.int .u8 k, .int .u64 n, .string s, .slice A m cap] 25)).heap.size := by simp
  go_enter Tryz.func3, Tryz.ntmps3
  go_wp2_with fail
  refine (h7 _ hB0).mono ?_
  rintro _ w1 ⟨b1, rfl, _, hb1⟩
  have hB1 := hB0.trans (hb1.mono hB0.size)
  have hH1 := (hb1.block _ hS0).trans hH0
  have hS1 := Nat.lt_of_lt_of_le hS0 hb1.size
  clear h7 hb1
  obtain ⟨p0, p1, p2, p3⟩ := four_cells hH1
  cases b1
  · go_wp2_with fail
    go_ret
    exact ⟨rfl, hB1⟩
  go_wp2_with fail
  refine (h8 _ hB1).mono ?_
  rintro _ w2 ⟨b2, rfl, hG, hb2⟩
  have hB2 := hB1.trans (hb2.mono hB1.size)
  have hH2 := (hb2.block _ hS1).trans hH1
  have hS2 := Nat.lt_of_lt_of_le hS1 hb2.size
  clear h8 hb2 p0 p1 p2 p3
  obtain ⟨p0, p1, p2, p3⟩ := four_cells hH2
  cases b2
  · go_wp2_with fail
    go_ret
    exact ⟨rfl, hB2⟩
  have hG' := hG rfl
  clear hG
  go_wp2_with fail
  refine (h9 hG' _ hB2).mono ?_
  rintro _ w3 ⟨rfl, hb3⟩
  have hB3 := hB2.trans (hb3.mono hB2.size)
  have hH3 := (hb3.block _ hS2).trans hH2
  have hS3 := Nat.lt_of_lt_of_le hS2 hb3.size
  clear h9 hb3 p0 p1 p2 p3
  obtain ⟨p0, p1, p2, p3⟩ := four_cells hH3
  go_wp2_with fail
  refine (h10 hG' _ hB3).mono ?_
  rintro _ w4 ⟨y, rfl, hb4, h⟩
  have hB4 := hB3.trans (hb4.mono hB3.size)
  clear h10 p0 p1 p2 p3
  go_wp2_with fail
  refine h.mono ?_
  rintro _ w5 ⟨rfl, hb5⟩
  have hB5 := hB4.trans (hb5.mono hB4.size)
  go_wp2_with fail
  go_ret
  exact ⟨rfl, hB5⟩
/-- The law FnVtDictOrder answers true. -/
theorem vtOrder_calls (v : V) (t : Nat) (ht : t < 256) (S : Nat → Prop) (x : Value) (w : World) (hw : Base2 w) (hr : Rep S w v x) : Calls Tryz.prog 3 #[x, .int .u8 t] w fun e w' => e = .returned (.bool true) ∧ Below w.heap.size w w' := by
  obtain ⟨F, H, hF⟩ := fh_exists
  have hr0 := hr
  have hkeep : ∀ w', Below w.heap.size w w' → Rep S w' v x := fun w' hb => hr0.keep fun b hlt _ => hb.block b hlt
  have hx : ∃ k n s A m cap, x = .agg #[.int .u8 k, .int .u64 n, .string s, .slice A m cap] := by
    obtain ⟨k, n, s, kids⟩ := v
    simp only [Rep] at hr
    obtain ⟨A, cap, rfl, _⟩ := hr
    exact ⟨k, n, s, A, kids.length, cap, rfl⟩
  obtain ⟨k, n, s, A, m, cap, rfl⟩ := hx
  have hne : Good v → ∃ q0 q, textOf v (writ F H v) = q0 :: q := fun hg => by
    obtain ⟨t, h, hok, h255, ht, hc⟩ := good_of hr0 hg
    have := writ_ne (H := H) hF.fne h
    unfold textOf
    split
    · obtain ⟨q0, q, hq⟩ := List.exists_cons_of_ne_nil this
      exact ⟨q0, q, hq⟩
    · exact ⟨_, _, rfl⟩
  obtain ⟨q0, q, hq⟩ : ∃ q0 q, Good v → textOf v (writ F H v) = q0 :: q := by
    by_cases hg : Good v
    · obtain ⟨q0, q, hq⟩ := hne hg
      exact ⟨q0, q, fun _ => hq⟩
    · exact ⟨0, [], fun h => absurd h hg⟩
  refine order_walk (Good v) k n s A m cap t ht q0 q w (fun w' hb => fits_calls v S _ w' (hkeep w' hb)) (fun w' hb => prints_calls v S _ w' (hw.below hb).base (hkeep w' hb)) ?_ ?_
  · intro hg w' hb
    obtain ⟨τ, h, hok, h255, ht, hc⟩ := good_of hr0 hg
    rw [← hq hg]
    exact vtString_calls hF h hok h255 ht hc S _ w' (hw.below hb) (hkeep w' hb)
  · intro hg w' hb
    obtain ⟨τ, h, hok, h255, htx, hc⟩ := good_of hr0 hg
    have hk := kept_calls (F := F) (H := H) t h
    refine (vt_calls t ht h S _ w' (hkeep w' hb)).mono ?_
    rintro _ w1 ⟨y, rfl, hy, hb1⟩
    refine ⟨y, rfl, hb1, ?_⟩
    have e1 : textOf (turned t v) (writ F H (turned t v)) = q0 :: q := by
      rw [← hq hg]
      unfold textOf
      rw [hk.tells, hk.writ, hk.ht.facts.1, h.facts.1]
    rw [← e1]
    exact vtString_calls hF hk.ht hok h255 (by rw [hk.txt]; exact htx) (by rw [hk.cnt]; exact hc) _ y w1 ((hw.below hb).below hb1) hy
end Go.Proofs.YtjbpphomlmlmaaaGreatDoor
