/- The value that the door makes. -/
import Derived.Test.YtjbpphomlmlmaaaGreatDoorQE12
namespace Go.Proofs.YtjbpphomlmlmaaaGreatDoor
open Go.RowKit
set_option linter.unusedVariables false
theorem di_calls {v : V} {t : Ty} (h : HT v t) : t.ok 32 32 32 → t.sig.length ≤ 255 → DiOk v := by
  induction h with
  | num k n s hk _ _ _ _ =>
    intro _ _ S x w hr
    simp only [Rep] at hr
    obtain ⟨A, cap, rfl, _⟩ := hr
    refine (di_num k n s (by omega) _ w ⟨A, _, cap, rfl⟩).mono ?_
    rintro e w' ⟨rfl, hb⟩
    refine ⟨_, rfl, ?_, hb⟩
    simp only [AR]
    rw [if_neg (by omega), if_neg (by omega), if_neg (by omega), if_neg (by omega)]
    trivial
  | txt k n s hk _ =>
    intro _ _ S x w hr
    simp only [Rep] at hr
    obtain ⟨A, cap, rfl, _⟩ := hr
    refine (di_num k n s (by omega) _ w ⟨A, _, cap, rfl⟩).mono ?_
    rintro e w' ⟨rfl, hb⟩
    refine ⟨_, rfl, ?_, hb⟩
    simp only [AR]
    rw [if_neg (by omega), if_neg (by omega), if_neg (by omega), if_neg (by omega)]
    trivial
  | var n s v t hv hok h255 _ _ ih =>
    intro _ _
    exact di_var n s v t hv hok h255 (ih hok h255)
  | str n s kids ts hne hlen hl hk ih =>
    intro hok h255
    simp only [Ty.ok] at hok
    simp only [Ty.sig, List.length_cons, List.length_append, List.length_nil] at h255
    have hget : ∀ c ∈ kids, ∃ (j : Nat) (t : Ty), kids[j]? = some c ∧ ts[j]? = some t := fun c hc => by
      obtain ⟨j, hj, rfl⟩ := List.mem_iff_getElem.1 hc
      exact ⟨j, ts[j]'(by omega), List.getElem?_eq_getElem hj, List.getElem?_eq_getElem (by omega)⟩
    refine di_str n s kids hlen (fun c hc => ?_) (fun c hc => ?_)
    · obtain ⟨j, t, h1, h2⟩ := hget c hc
      exact (hk j c t h1 h2).kind
    · obtain ⟨j, t, h1, h2⟩ := hget c hc
      have hm := List.mem_of_getElem? h2
      exact ih j c t h1 h2 (Ty.ok_mono (oks_mem hok.2.2.2.2 t hm) (by omega) (by omega) (by omega)) (by have := sig_mem_len hm; omega)
  | arr n s kids e hs hsz hlen hp hke hk ih =>
    intro hok h255
    simp only [Ty.ok] at hok
    simp only [Ty.sig, List.length_cons] at h255
    have hoke : e.ok 32 32 32 := Ty.ok_mono hok.2.2.2 (by omega) (by omega) (by omega)
    obtain rfl : s = bs e.sig := ba_ext (by rw [hs]; rfl)
    exact di_list n e hp hoke (by omega) kids hlen (fun c hc => (hk c hc).kind) (fun c hc => ih c hc hoke (by omega))
  | dict n s kids kc e hs hsz hlen hkc hkb hp hke hfr hen ha hb iha ihb =>
    intro hok h255
    have hok' := hok
    simp only [Ty.ok] at hok
    have h255' := h255
    simp only [Ty.sig, List.length_cons, List.length_append, List.length_nil] at h255
    have hoke : e.ok 32 32 32 := Ty.ok_mono hok.2.2.2.2 (by omega) (by omega) (by omega)
    obtain rfl : s = bs (123 :: kc :: (e.sig ++ [125])) := ba_ext (by rw [hs]; rfl)
    refine di_dict n kc e hkb hkc hp hok' h255' kids hlen hfr fun v hv => ?_
    obtain ⟨n', s', a, b, rfl⟩ := hen v hv
    exact ⟨n', s', a, b, rfl, ha n' s' a b hv, hb n' s' a b hv, iha n' s' a b hv ⟨hkb, by omega, by omega, by omega⟩ (by simp [Ty.sig]), ihb n' s' a b hv hoke (by omega)⟩
end Go.Proofs.YtjbpphomlmlmaaaGreatDoor
