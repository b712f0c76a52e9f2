/- An argument as it reads is a tree of the proofs. -/
import Derived.Test.YtjbpphomlmlmaaaGreatDoorQK1
import Derived.ChangeArms
import Derived.Deep.Slices
import Derived.SizedLaws
namespace Go.Proofs.YtjbpphomlmlmaaaGreatDoor
open Go.RowKit Go.Deep
set_option linter.unusedVariables false
theorem cells25 : Tryz.prog.cellsOf 25 = 4 := by kernel_rfl
theorem cellsA : Tryz.prog.cellsOf 5 = 1 ∧ Tryz.prog.cellsOf 22 = 1 ∧ Tryz.prog.cellsOf 9 = 1 ∧ Tryz.prog.cellsOf 23 = 1 := ⟨by kernel_rfl, by kernel_rfl, by kernel_rfl, by kernel_rfl⟩
theorem reps_mk {S : Nat → Prop} {w : World} : ∀ {kids : List V} {A : Option Addr} {i : Nat}, (∀ (j : Nat) (v : V), kids[j]? = some v → ∃ b o c0 c1 c2 c3, A = some ⟨b, o, none⟩ ∧ S b ∧ w.cell? ⟨b, o + (i + j) * 4, none⟩ = some c0 ∧ w.cell? ⟨b, o + (i + j) * 4 + 1, none⟩ = some c1 ∧ w.cell? ⟨b, o + (i + j) * 4 + 2, none⟩ = some c2 ∧ w.cell? ⟨b, o + (i + j) * 4 + 3, none⟩ = some c3 ∧
      Rep S w v (.agg #[c0, c1, c2, c3])) → Reps S w kids A i
  | [], _, _, _ => by simp only [Reps]
  | v :: vs, A, i, h => by
    simp only [Reps]
    refine ⟨by simpa using h 0 v rfl, reps_mk fun j u hu => ?_⟩
    have := h (j + 1) u (by simpa using hu)
    simpa [Nat.add_assoc, Nat.add_comm 1 j] using this
theorem cells4 {W : World} {a : Addr} {cs : List Value} (h : W.cells? 0 a 4 = some cs) : ∃ c0 c1 c2 c3, cs = [c0, c1, c2, c3] ∧ a.spot = none ∧ W.cell? ⟨a.block, a.off, none⟩ = some c0 ∧ W.cell? ⟨a.block, a.off + 1, none⟩ = some c1 ∧ W.cell? ⟨a.block, a.off + 2, none⟩ = some c2 ∧ W.cell? ⟨a.block, a.off + 3, none⟩ = some c3 := by
  obtain ⟨_, hlen, hc⟩ := World.cells?_some h
  match cs, hlen with
  | [c0, c1, c2, c3], _ =>
    have h0 := hc 0 (by omega)
    have h1 := hc 1 (by omega)
    have h2 := hc 2 (by omega)
    have h3 := hc 3 (by omega)
    have hs : a.spot = none := World.cell?_spot (by simpa [Addr.add] using h0)
    obtain ⟨b, o, sp⟩ := a
    simp only at hs
    subst hs
    exact ⟨c0, c1, c2, c3, rfl, rfl, by simpa [Addr.add] using h0, by simpa [Addr.add] using h1, by simpa [Addr.add] using h2, by simpa [Addr.add] using h3⟩
theorem weights_mem_all {H : Type} {P : Program} {e : TypeId} : ∀ {l : List (DataW H)} {i : Nat} {d : DataW H}, l[i]? = some d → ∀ n ∈ d.weights P e, n ∈ DataW.weightsAll P e l
  | d :: r, 0, d', h, n, hn => by
    obtain rfl : d = d' := by simpa using h
    simp only [DataW.weightsAll]
    exact List.mem_append_left _ hn
  | d :: r, i + 1, d', h, n, hn => by
    simp only [DataW.weightsAll]
    exact List.mem_append_right _ (weights_mem_all (i := i) (by simpa using h) n hn)
instance : Inhabited V := ⟨.mk 0 0 ByteArray.empty []⟩
theorem agg_weights {H : Type} (parts : List (DataW H)) : (DataW.agg parts).weights Tryz.prog 25 = DataW.weightsEach Tryz.prog [5, 22, 9, 23] parts := by
  simp only [DataW.weights, Tryz.underlying25]
  rfl
theorem slice_weights {H : Type} (elems rest : List (DataW H)) : ∀ n ∈ DataW.weightsAll Tryz.prog 25 elems, n ∈ (DataW.slice elems rest).weights Tryz.prog 23 := by
  intro n hn
  simp only [DataW.weights, Tryz.underlying23]
  exact List.mem_cons_of_mem _ (List.mem_append_left _ hn)
set_option maxRecDepth 100000 in
theorem rep_of {H : Type} {enc : TypeId × Value → H} {W : World} : ∀ (fuel : Nat) (cs : List Value) (x : DataW H × List MemPlace), DataW.trod enc Tryz.prog W 0 (fun _ => true) true fuel 25 cs = some x → (∀ q ∈ x.1.weights Tryz.prog 25, q ≤ 140737488351232) →
    ∃ v : V, Rep (fun _ => True) W v (.agg cs.toArray)
  | fuel, cs, x, h, hw => by
    obtain ⟨xs, n, hn, rfl, hl, hlen, hf⟩ := DataW.trod_struct Tryz.underlying25 h
    rw [cells25] at hl
    match cs, hl with
    | [c0, c1, c2, c3], _ =>
      have f0 : DataW.trod enc Tryz.prog W 0 (fun _ => true) true n 5 (([c0, c1, c2, c3].drop 0).take (Tryz.prog.cellsOf 5)) = xs[0]? := hf 0 _ rfl
      have f1 : DataW.trod enc Tryz.prog W 0 (fun _ => true) true n 22 (([c0, c1, c2, c3].drop 1).take (Tryz.prog.cellsOf 22)) = xs[1]? := hf 1 _ rfl
      have f2 : DataW.trod enc Tryz.prog W 0 (fun _ => true) true n 9 (([c0, c1, c2, c3].drop 2).take (Tryz.prog.cellsOf 9)) = xs[2]? := hf 2 _ rfl
      have f3 : DataW.trod enc Tryz.prog W 0 (fun _ => true) true n 23 (([c0, c1, c2, c3].drop 3).take (Tryz.prog.cellsOf 23)) = xs[3]? := hf 3 _ rfl
      rw [cellsA.1] at f0
      rw [cellsA.2.1] at f1
      rw [cellsA.2.2.1] at f2
      rw [cellsA.2.2.2] at f3
      simp only [List.drop_zero, List.drop_succ_cons, List.take_succ_cons, List.take_zero] at f0 f1 f2 f3
      have hlen4 : xs.length = 4 := hlen
      rw [List.getElem?_eq_getElem (by omega)] at f0 f1 f2 f3
      obtain ⟨k, e0, _, w0⟩ := DataW.trod_int Tryz.underlying5 f0
      obtain ⟨m, e1, _, w1⟩ := DataW.trod_int Tryz.underlying22 f1
      obtain ⟨s, e2, x2, _⟩ := DataW.trod_string Tryz.underlying9 f2
      rw [agg_weights] at hw
      have w2 : s.size ≤ 140737488351232 := by
        refine hw _ (DataW.weights_mem_each (j := 2) (t := 9) (d := .lit (.string s.data.toList)) rfl ?_ _ ?_)
        · rw [List.getElem?_map, List.getElem?_eq_getElem (by omega), x2]; rfl
        · simp only [DataW.weights]
          exact List.mem_singleton.2 rfl
      obtain rfl : c0 = .int .u8 k := by simpa using e0
      obtain rfl : c1 = .int .u64 m := by simpa using e1
      obtain rfl : c2 = .string s := by simpa using e2
      simp only [Lit.wf, Bool.and_eq_true, decide_eq_true_eq] at w0 w1
      have hk : 0 ≤ k ∧ k ≤ 255 := by simpa [IntKind.has, IntKind.min, IntKind.max, IntKind.bits, IntKind.signed] using w0
      have hm : 0 ≤ m ∧ m < 18446744073709551616 := by simp [IntKind.min, IntKind.max, IntKind.bits, IntKind.signed] at w1; omega
      rcases DataW.trod_slice Tryz.underlying23 f3 with ⟨e3, _⟩ | ⟨a, len, cap, elems, rest, n', hn', e3, x3, _, hlc, hcm, hel, he, _, _⟩
      · obtain rfl : c3 = .slice none 0 0 := by simpa using e3
        exact ⟨.mk k m s [], by simp only [Rep, Reps]; exact ⟨none, 0, rfl, by simp, by simp, hk, hm, w2, trivial⟩⟩
      · obtain rfl : c3 = .slice (some a) len cap := by simpa using e3
        have hkid : ∀ i, i < len → ∃ v : V, ∃ d0 d1 d2 d3, a.spot = none ∧ W.cell? ⟨a.block, a.off + i * 4, none⟩ = some d0 ∧ W.cell? ⟨a.block, a.off + i * 4 + 1, none⟩ = some d1 ∧ W.cell? ⟨a.block, a.off + i * 4 + 2, none⟩ = some d2 ∧ W.cell? ⟨a.block, a.off + i * 4 + 3, none⟩ = some d3 ∧ Rep (fun _ => True) W v (.agg #[d0, d1, d2, d3]) := fun i hi => by
          have := he i hi
          rw [List.getElem?_eq_getElem (by omega), Option.bind_eq_some_iff] at this
          obtain ⟨cs', g1, g2⟩ := this
          rw [cells25] at g1
          obtain ⟨d0, d1, d2, d3, rfl, q, q0, q1, q2, q3⟩ := cells4 g1
          have hwi : ∀ q ∈ (elems[i]'(by omega)).1.weights Tryz.prog 25, q ≤ 140737488351232 := fun q hq => by
            refine hw _ (DataW.weights_mem_each (j := 3) (t := 23) (d := .slice (elems.map (·.1)) (rest.map (·.1))) rfl ?_ _ (slice_weights _ _ _ (weights_mem_all (i := i) ?_ _ hq)))
            · rw [List.getElem?_map, List.getElem?_eq_getElem (by omega), x3]; rfl
            · rw [List.getElem?_map, List.getElem?_eq_getElem (by omega)]; rfl
          obtain ⟨v, hv⟩ := rep_of n' _ _ g2 hwi
          have hsp : a.spot = none := by
            by_cases hi0 : i = 0
            · subst hi0; simpa [Addr.add] using q
            · have h00 := he 0 (by omega)
              rw [List.getElem?_eq_getElem (by omega), Option.bind_eq_some_iff] at h00
              obtain ⟨cs0, g10, _⟩ := h00
              rw [cells25] at g10
              obtain ⟨_, _, _, _, _, q', _⟩ := cells4 g10
              simpa [Addr.add] using q'
          have hadd : (a.add (i * 4)).block = a.block ∧ (a.add (i * 4)).off = a.off + i * 4 := by
            unfold Addr.add; split <;> simp_all
          rw [hadd.1, hadd.2] at q0 q1 q2 q3
          exact ⟨v, d0, d1, d2, d3, hsp, q0, q1, q2, q3, hv⟩
        obtain ⟨f, hfv⟩ := choose_lt (p := fun i v => ∃ d0 d1 d2 d3, a.spot = none ∧ W.cell? ⟨a.block, a.off + i * 4, none⟩ = some d0 ∧ W.cell? ⟨a.block, a.off + i * 4 + 1, none⟩ = some d1 ∧ W.cell? ⟨a.block, a.off + i * 4 + 2, none⟩ = some d2 ∧ W.cell? ⟨a.block, a.off + i * 4 + 3, none⟩ = some d3 ∧ Rep (fun _ => True) W v (.agg #[d0, d1, d2, d3])) hkid
        refine ⟨.mk k m s ((List.range len).map f), ?_⟩
        simp only [Rep]
        refine ⟨some a, cap, by simp, by simpa using hlc, by unfold maxLen at hcm; omega, hk, hm, w2, reps_mk fun j v hv => ?_⟩
        have hj : j < len := by have := (List.getElem?_eq_some_iff.1 hv).1; simpa using this
        have hvv : f j = v := by simpa [hj] using hv
        obtain ⟨d0, d1, d2, d3, hsp, q0, q1, q2, q3, hr⟩ := hfv j hj
        rw [hvv] at hr
        obtain ⟨b, o, sp⟩ := a
        simp only at hsp
        subst hsp
        exact ⟨b, o, d0, d1, d2, d3, rfl, trivial, by simpa using q0, by simpa using q1, by simpa using q2, by simpa using q3, hr⟩
  termination_by fuel => fuel
  decreasing_by omega
end Go.Proofs.YtjbpphomlmlmaaaGreatDoor
