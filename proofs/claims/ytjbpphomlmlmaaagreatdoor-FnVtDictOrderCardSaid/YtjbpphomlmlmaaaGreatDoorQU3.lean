/- FnVtDictOrder holds, whatever the value and the turn: over the rows' own premises (the listed variables read as the program's text lays them). -/
import Derived.Test.YtjbpphomlmlmaaaGreatDoorQK10
import Derived.Test.YtjbpphomlmlmaaaGreatDoorQJ1
import Derived.Test.YtjbpphomlmlmaaaGreatDoorQR1
import Derived.Test.YtjbpphomlmlmaaaGreatDoorCards
import Derived.Test.YtjbpphomlmlmaaaGreatDoorTie
import Derived.OpenShut
import Derived.LaidMore
import Derived.Lay
import Derived.ReadAgain
import Derived.SevenTiedAt
import Derived.Stop.Joined
namespace Go.Proofs.YtjbpphomlmlmaaaGreatDoor
open Go.ChangeShapes Go.WideShapes Go.ChangeAt Go.RowKit
set_option linter.unusedVariables false
theorem ownK : ownKnob Tryz.prog.godebug = none := by kernel_rfl
theorem kidsK : Kids Tryz.prog (· < Tryz.prog.types.size) := kids_rows (by kernel_rfl) (by kernel_rfl)
theorem fullK : ∀ t e, t < Tryz.prog.types.size → Tryz.prog.underlying t = some (.slice e) → 0 < Tryz.prog.cellsOf e := slices_full_of Tryz.prog (by kernel_rfl)
/-- What is said behind a call that turned nothing below: its own new blocks may be marked. -/
theorem post_below {H : Type} {enc : TypeId × Value → H} {P : Program} {f : Func} {s : ChangeSpec} {apart fresh handsOn again : Bool} {W W' : World} {args : Array Value} {v : Value} {ds gs : List (DataW H)} {before pa pv : List MemPlace}
    (hW : DataW.Whole enc P f.params.toList s.vars apart W args.toList ds gs before)
    (hres : ∀ (b : Nat) (sp : Nat → Bool) (hd : Bool), DataW.TrodAll enc P W' b sp hd f.resultTypes.toList (v.resultList f.resultTypes.size) (s.fn H (ds ++ gs)).results [])
    (hargs : ∀ sp : Nat → Bool, (∀ p ∈ before, sp p.block = true) → DataW.TrodAll enc P W' 0 sp true f.params.toList args.toList (s.fn H (ds ++ gs)).args pa)
    (hvars : ∀ sp : Nat → Bool, (∀ p ∈ before, sp p.block = true) → DataW.TrodVars enc P W' sp s.vars (s.fn H (ds ++ gs)).vars pv)
    (hps : before = pa ++ pv) (hb : Below W.heap.size W W')
    (hok : ∀ (j : Nat) (t : TypeId) (r : Value), f.resultTypes[j]? = some t → (v.resultList f.resultTypes.size)[j]? = some r → Value.okWide P W' .any 0 t r) :
    s.post enc P f apart fresh handsOn again W args v W' := by
  have hold : ∀ p ∈ before, (fun b => decide (b < W.heap.size)) p.block = true := fun p hp => by simpa using hW.lt p hp
  have hlt : ∀ p ∈ before, p.block < W.heap.size := hW.lt
  refine ⟨ds, gs, before, [], pa, pv, hW, hres _ _ _, hargs _ hold, hvars _ hold, World.keptBut_mono (fun p hp => ⟨hp, ?_⟩) (hb.frame (· ∈ before)), fun _ => ?_⟩
  · rw [hps, List.mem_append] at hp
    exact Or.inr hp
  · obtain ⟨_, _, _, _, _, hz, hn⟩ := hW
    refine ⟨hok, _, _, ([] ++ pa) ++ pv, ⟨[] ++ pa, pv, trodAll_append (hargs _ (fun _ _ => rfl)) (hres _ _ _), hvars _ (fun _ _ => rfl), rfl, ?_, ?_⟩, ?_⟩
    · intro b off hp
      have hm : MemPlace.cell b off ∈ before := by rw [hps]; simpa using hp
      rw [hb.frozen (p := ⟨b, off, none⟩) (hlt _ hm)]
      exact hz b off hm
    · intro ha
      have := hn ha
      rw [hps] at this
      simpa using this
    · intro p hp _
      rw [hps]
      simpa using hp
set_option maxRecDepth 100000 in
/-- The argument of a law of one value: a tree of the proofs; and it reads again as it did. -/
theorem arg_one {H : Type} {enc : TypeId × Value → H} {W : World} {base : Nat} {v0 : Value} {d0 : DataW H} {p0 : List MemPlace} (hval : Value.okWide Tryz.prog W .any base 25 v0) (h0 : DataW.Trod enc Tryz.prog W 0 (fun _ => true) true 25 v0 d0 p0)
    (hw : ∀ q ∈ d0.weights Tryz.prog 25, q ≤ 140737488351232) : ∃ v : V, Rep (fun _ => True) W v v0 := by
  obtain ⟨cs, rfl, _, _⟩ : ∃ cs, v0 = .agg cs ∧ cs.size = Tryz.prog.cellsOf 25 ∧ Row.okWide Tryz.prog W .any base 25 cs := by
    unfold Value.okWide at hval
    rw [Tryz.underlying25] at hval
    exact hval
  obtain ⟨fuel, hf⟩ := h0
  obtain ⟨v, hv⟩ := rep_of fuel _ _ hf hw
  exact ⟨v, by simpa [Value.cells] using hv⟩
theorem arg_again {H : Type} {enc : TypeId × Value → H} {W W' : World} {t : TypeId} (ht : t < Tryz.prog.types.size) {v0 : Value} {d0 : DataW H} {p0 : List MemPlace} (h0 : DataW.Trod enc Tryz.prog W 0 (fun _ => true) true t v0 d0 p0) (hb : Below W.heap.size W W') (hlt : ∀ p ∈ p0, p.block < W.heap.size)
    (sp : Nat → Bool) (hsp : ∀ p ∈ p0, sp p.block = true) : DataW.Trod enc Tryz.prog W' 0 sp true t v0 d0 p0 := by
  obtain ⟨fuel, hf⟩ := h0
  exact DataW.Trod.respare kidsK fullK ht ⟨fuel, DataW.trod_carry fuel _ _ _ hf fun p hp => hb.same (hlt p hp)⟩ hsp
set_option maxRecDepth 100000 in
theorem order_contract {H : Type} {enc : TypeId × Value → H} (W : World) (base : Nat) (args : Array Value) (ds gs : List (DataW H)) (before : List MemPlace)
    (hval0 : ∀ (j : Nat) t v, Tryz.f3.params[j]? = some t → args[j]? = some v → Value.okWide Tryz.prog W .any base t v)
    (hW : DataW.Whole enc Tryz.prog Tryz.f3.params.toList Rows.fnVtDictOrderSpec.vars false W args.toList ds gs before)
    (hwt : (DataW.weightsEach Tryz.prog (Tryz.f3.params.toList ++ Rows.fnVtDictOrderSpec.plain.varTypes Tryz.prog) (ds ++ gs)).all (· ≤ reachBytes) = true)
    (hL : laidMetH Tryz.prog Rows.fnVtDictOrderRow.laid W) :
    Calls Tryz.prog 3 args W fun e W' => ∃ v, e = .returned v ∧ Rows.fnVtDictOrderSpec.post enc Tryz.prog Tryz.f3 false true false false W args v W' := by
  have hW' := hW
  obtain ⟨p, q, hA0, hV, rfl, _, _⟩ := hW
  have hA : DataW.TrodAll enc Tryz.prog W 0 (fun _ => true) true Tryz.f3.params.toList args.toList ds p := hA0
  have hval := hval0
  rw [Tryz.params3] at hA hval hwt
  obtain ⟨v0, v1, d0, d1, p0, p1, rfl, rfl, rfl, h0, h1⟩ := trodAll_two hA
  obtain ⟨rfl, rfl⟩ := trodVars_none hV
  have hlt := hW'.lt
  simp only [List.append_nil] at hW' hlt
  obtain ⟨n, rfl, rfl, rfl, hwf⟩ := open_int Tryz.underlying5 (hval 1 5 v1 rfl rfl) h1
  simp only [List.append_nil] at hW' hlt
  obtain ⟨t, ht, rfl⟩ : ∃ t : Nat, t < 256 ∧ n = (t : Int) := by
    have hn : 0 ≤ n ∧ n < 256 := by
      have hwf' := hwf
      simp only [Lit.wf, Bool.and_eq_true, decide_eq_true_eq] at hwf'
      simp [IntKind.min, IntKind.max, IntKind.bits, IntKind.signed] at hwf'
      omega
    exact ⟨n.toNat, by omega, by omega⟩
  obtain ⟨v, hr⟩ := arg_one (hval 0 25 v0 rfl rfl) h0 fun m hm => by
    have h1 := List.all_eq_true.1 hwt m (DataW.weights_mem_each (j := 0) (t := 25) (d := d0) rfl rfl m hm)
    exact of_decide_eq_true h1
  refine (vtOrder_calls v t ht _ v0 W (base2_of hL) hr).mono ?_
  rintro e W' ⟨rfl, hb⟩
  refine ⟨_, rfl, post_below (pa := p0) (pv := []) hW' (fun _ _ _ => trodAll_mk1 (shut_bool Tryz.underlying4 _)) (fun sp hsp => ?_) (fun _ _ => rfl) (by simp) hb (ok_one (by kernel_rfl) rfl (okWide_bool_mk Tryz.underlying4 _))⟩
  rw [Tryz.params3]
  have := trodAll_mk2 (arg_again (of_decide_eq_true (by kernel_rfl)) h0 hb hlt sp hsp) (shut_int (enc := enc) (w := W') (base := 0) (spare := sp) (held := true) Tryz.underlying5 hwf)
  rw [List.append_nil] at this
  exact this
/-- The first world: the variables as the program's text lays them. -/
noncomputable abbrev W0 (os : Os) : World := World.laidAll Tryz.prog os Rows.fnVtDictOrderRow.laid
/-- The value of the witness: a bool that is false. -/
abbrev arg0 : Value := .agg #[.int .u8 98, .int .u64 0, .string ⟨#[]⟩, .slice none 0 0]
theorem laid_met (os : Os) (args : Array Value) : laidMetH Tryz.prog Rows.fnVtDictOrderRow.laid ((W0 os).forCall (fun _ _ => 0) ⟨#[], args, []⟩).memory := by
  rw [MakeChecks.laidMetH_plain _ _ _ (by kernel_rfl)]
  exact laidMet_laidAll _ (by kernel_rfl) (by kernel_rfl)
set_option maxRecDepth 100000 in
theorem order_lifted (os : Os) (started : os.Started) (H : Type) (enc : TypeId × Value → H) :
    ReturnsInHanded {} Tryz.checked os 3 .any (fun w args => (Rows.fnVtDictOrderSpec.pre enc Tryz.prog Tryz.f3 Rows.fnVtDictOrderRow.domain false w args ∧ laidMetH Tryz.prog Rows.fnVtDictOrderRow.laid w) ∧ sizedMet enc Tryz.prog Tryz.f3 (OpenSpec.ofChange Rows.fnVtDictOrderSpec) false w args)
      (Rows.fnVtDictOrderSpec.post enc Tryz.prog Tryz.f3 false true false false) := by
  refine returnsInHanded_of_change_and (C := Tryz.checked) (X := fun w _ => laidMetH Tryz.prog Rows.fnVtDictOrderRow.laid w) (fun _ _ _ hh h => h.of_heap hh) ownK started (by kernel_rfl) Tryz.func3
    (ChangeSpec.witness_shaped (enc := enc) (C := Tryz.checked) (os := os) (X := fun w _ => laidMetH Tryz.prog Rows.fnVtDictOrderRow.laid w) false (W0 os) #[arg0, .int .u8 0] 8 (World.laidAll_os _ _ _)
      (World.shaped_of_ZipB (by kernel_rfl) (by kernel_rfl)) (by kernel_rfl) (by kernel_rfl) (by kernel_rfl) (laid_met os _)) ?_
  intro W base args ds gs before hval0 hW _ hwt hL _
  exact order_contract W base args ds gs before hval0 hW hwt hL
theorem order_said : Rows.FnVtDictOrderSaid :=
  OpenClaim.holds_of_wide 3 Tryz.f3 rfl rfl rfl rfl rfl rfl rfl ⟨rfl, rfl, rfl, rfl, rfl⟩ rfl rfl rfl rfl rfl (by kernel_rfl) Tryz.func3 (by kernel_rfl)
    (of_decide_eq_true (by kernel_rfl)) (by unfold Func.isWrapper; first | (rw [if_pos (by decide +kernel)]; kernel_rfl) | (rw [if_neg (by decide +kernel)]; exact ⟨rfl, rfl⟩))
    (fun os started H enc _ => order_lifted os started H enc)
/-- No parameter wants a stand-in; the program's own looks are off. -/
theorem plain_one (l : List TypeId) (hall : (l.all fun u => !Tryz.prog.wantsStandIn u) = true) (fn : Func) (hp : fn.params.toList = l) : ∀ (j : Nat) t, fn.params[j]? = some t → Tryz.prog.wantsStandIn t = false := by
  intro j t ht
  have hm : t ∈ l := by rw [← hp]; simpa using Array.mem_of_getElem? ht
  simpa using List.all_eq_true.1 hall t hm
theorem order_plain (f : FuncId) (fn : Func) (hf : Tryz.pinned.checked.prog.funcNamed "pub-barouche/laws.FnVtDictOrder" = some f) (hfn : Tryz.pinned.checked.prog.funcs[f]? = some fn) :
    true = Tryz.pinned.checked.prog.looks [] ∧ ∀ (j : Nat) t, fn.params[j]? = some t → Tryz.pinned.checked.prog.wantsStandIn t = false := by
  obtain rfl : f = 3 := Option.some.inj ((show Tryz.prog.funcNamed "pub-barouche/laws.FnVtDictOrder" = some 3 by kernel_rfl).symm.trans hf) |>.symm
  obtain rfl : fn = Tryz.f3 := (Option.some.inj (Tryz.func3.symm.trans hfn)).symm
  exact ⟨by kernel_rfl, plain_one [25, 5] (by kernel_rfl) Tryz.f3 (by rw [Tryz.params3])⟩
theorem order_holds : Rows.FnVtDictOrderCardSaid :=
  Claim7.holds_tied_plain_at .later [] _ _ _ _ order_said (fun _ h => by cases h) (by kernel_rfl) (fun _ h => by cases h) fnVtDictOrder_row_tie rfl ⟨rfl, rfl⟩ (by kernel_rfl) rfl order_plain (by kernel_rfl)
#print axioms order_holds
end Go.Proofs.YtjbpphomlmlmaaaGreatDoor
