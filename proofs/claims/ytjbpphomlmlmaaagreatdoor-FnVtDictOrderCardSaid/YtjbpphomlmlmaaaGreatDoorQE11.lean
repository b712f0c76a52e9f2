/- Dicts: the keys differ; an empty dict. -/
import Derived.Test.YtjbpphomlmlmaaaGreatDoorQE10
import Derived.Lib.IfaceEq
namespace Go.Proofs.YtjbpphomlmlmaaaGreatDoor
open Go.RowKit
set_option linter.unusedVariables false
set_option linter.unusedSimpArgs false
theorem eql_str {tx : TypeId} (a b : ByteArray) (hc : (Tryz.prog.info? tx).map (·.comparable) = some true) (hx : Tryz.prog.underlying tx = some .string) (w : World) :
    (binOp .eql 20 (.iface tx (.string a)) (.iface tx (.string b))).run Tryz.prog w = .ok (.bool (a == b)) w := by
  cases hi : Tryz.prog.info? tx with
  | none => simp [hi] at hc
  | some i =>
    have hcc : i.comparable = true := by simpa [hi] using hc
    have h : ∀ d : Nat, (Op.equalIn (d + 2) 20 (.iface tx (.string a)) (.iface tx (.string b))).run Tryz.prog w = .ok (a == b) w := fun d => by
      simp [Op.equalIn, run_underlying Tryz.underlying20, run_underlying hx, typeInfo, hi, hcc]
    simp only [binOp]
    simp [Op.equal, Op.maxDepth, h 9998]
theorem ba_beq_false {a b : ByteArray} (h : (b.toList == a.toList) = false) : (a == b) = false := by
  show (a.data == b.data) = false
  rw [ByteArray.toList_eq, ByteArray.toList_eq] at h
  rw [← Array.beq_toList]
  cases hq : (a.data.toList == b.data.toList) with
  | false => rfl
  | true =>
    rw [beq_iff_eq] at hq
    rw [hq] at h
    simp at h
theorem HT.basic_cases {u : V} {k : UInt8} (h : HT u (.basic k)) : ∃ (n : Int) (s : ByteArray), u = .mk k.toNat n s [] ∧ ((inRangeB k.toNat n = true ∧ s.size = 0 ∧ 0 ≤ n ∧ n < 18446744073709551616 ∧ k ≠ 115 ∧ k ≠ 111) ∨ ((k = 115 ∨ k = 111 ∨ k = 103) ∧ n = 0)) := by
  cases h with
  | num c n s hk hr h0 h1 _ =>
    refine ⟨n, s, ?_, .inl ?_⟩
    · rcases hk with rfl | rfl | rfl | rfl | rfl | rfl | rfl | rfl | rfl | rfl <;> rfl
    · rcases hk with rfl | rfl | rfl | rfl | rfl | rfl | rfl | rfl | rfl | rfl <;> exact ⟨hr.1, hr.2, h0, h1, by decide, by decide⟩
  | txt c n s hk hr =>
    refine ⟨n, s, ?_, .inr ⟨?_, hr.2⟩⟩
    · rcases hk with rfl | rfl | rfl <;> rfl
    · rcases hk with rfl | rfl | rfl <;> decide
theorem empty_of {s : ByteArray} (h : s.size = 0) : s = ByteArray.empty := ba_ext (by
  have : s.data.toList.length = 0 := h
  rw [List.eq_nil_of_length_eq_zero this]; rfl)
theorem eql_num {tx : TypeId} {q : IntKind} (kd : IntKind) (a b : Int) (hne : a ≠ b) (hc : (Tryz.prog.info? tx).map (·.comparable) = some true) (hx : Tryz.prog.underlying tx = some (.int q)) (w : World) :
    (binOp .eql 20 (.iface tx (.int kd a)) (.iface tx (.int kd b))).run Tryz.prog w = .ok (.bool false) w := by
  rw [Lib.run_eql_iface_int w a b Tryz.underlying20 hc hx]
  have : (a == b) = false := by simpa using hne
  rw [this]
/-- Two keys of one type that are not the same are not the same as 'any' either. -/
theorem keys_differ {u v : V} {k : UInt8} (hk : keyB k.toNat = true) (hu : HT u (.basic k)) (hv : HT v (.basic k)) (hs : sameB v u = false) :
    ∃ (t : TypeId) (y z : Value), numV u.k u.n u.s = .iface t y ∧ numV v.k v.n v.s = .iface t z ∧ ∀ w, (binOp .eql 20 (.iface t y) (.iface t z)).run Tryz.prog w = .ok (.bool false) w := by
  obtain ⟨n, s, rfl, hU⟩ := hu.basic_cases
  obtain ⟨m, t, rfl, hW⟩ := hv.basic_cases
  simp only [V.k, V.n, V.s]
  simp only [sameB, V.k, V.n, V.s, V.kids, List.length_nil, beq_self_eq_true, Bool.true_and, Bool.and_true] at hs
  rcases keyB_cases hk with rfl | rfl | rfl | rfl | rfl | rfl | rfl | rfl | rfl
  · obtain ⟨hu1, hu2, hu3, hu4, _⟩ | ⟨hu1, _⟩ := hU
    rotate_left
    · exfalso; revert hu1; decide
    obtain ⟨hv1, hv2, hv3, hv4, _⟩ | ⟨hv1, _⟩ := hW
    rotate_left
    · exfalso; revert hv1; decide
    obtain rfl := empty_of hu2
    obtain rfl := empty_of hv2
    have hne : n ≠ m := by
      intro hc
      subst hc
      simp at hs
    refine ⟨_, _, _, rfl, rfl, fun w => eql_num _ _ _ ?_ (by kernel_rfl) Tryz.underlying5 w⟩
    have e1 : ((121 : UInt8).toNat : Int) = 121 := rfl
    rw [e1] at hu1 hv1
    simp [inRangeB] at hu1 hv1
    simp [IntKind.wrap, IntKind.bits, IntKind.signed]
    omega
  · obtain ⟨hu1, hu2, hu3, hu4, _⟩ | ⟨hu1, _⟩ := hU
    rotate_left
    · exfalso; revert hu1; decide
    obtain ⟨hv1, hv2, hv3, hv4, _⟩ | ⟨hv1, _⟩ := hW
    rotate_left
    · exfalso; revert hv1; decide
    obtain rfl := empty_of hu2
    obtain rfl := empty_of hv2
    have hne : n ≠ m := by
      intro hc
      subst hc
      simp at hs
    refine ⟨_, _, _, rfl, rfl, fun w => eql_num _ _ _ ?_ (by kernel_rfl) Tryz.underlying73 w⟩
    have e1 : ((110 : UInt8).toNat : Int) = 110 := rfl
    rw [e1] at hu1 hv1
    simp [inRangeB] at hu1 hv1
    intro hc
    rw [hc, hv1] at hu1
    exact hne hu1.symm
  · obtain ⟨hu1, hu2, hu3, hu4, _⟩ | ⟨hu1, _⟩ := hU
    rotate_left
    · exfalso; revert hu1; decide
    obtain ⟨hv1, hv2, hv3, hv4, _⟩ | ⟨hv1, _⟩ := hW
    rotate_left
    · exfalso; revert hv1; decide
    obtain rfl := empty_of hu2
    obtain rfl := empty_of hv2
    have hne : n ≠ m := by
      intro hc
      subst hc
      simp at hs
    refine ⟨_, _, _, rfl, rfl, fun w => eql_num _ _ _ ?_ (by kernel_rfl) Tryz.underlying74 w⟩
    have e1 : ((113 : UInt8).toNat : Int) = 113 := rfl
    rw [e1] at hu1 hv1
    simp [inRangeB] at hu1 hv1
    simp [IntKind.wrap, IntKind.bits, IntKind.signed]
    omega
  · obtain ⟨hu1, hu2, hu3, hu4, _⟩ | ⟨hu1, _⟩ := hU
    rotate_left
    · exfalso; revert hu1; decide
    obtain ⟨hv1, hv2, hv3, hv4, _⟩ | ⟨hv1, _⟩ := hW
    rotate_left
    · exfalso; revert hv1; decide
    obtain rfl := empty_of hu2
    obtain rfl := empty_of hv2
    have hne : n ≠ m := by
      intro hc
      subst hc
      simp at hs
    refine ⟨_, _, _, rfl, rfl, fun w => eql_num _ _ _ ?_ (by kernel_rfl) Tryz.underlying21 w⟩
    have e1 : ((105 : UInt8).toNat : Int) = 105 := rfl
    rw [e1] at hu1 hv1
    simp [inRangeB] at hu1 hv1
    intro hc
    rw [hc, hv1] at hu1
    exact hne hu1.symm
  · obtain ⟨hu1, hu2, hu3, hu4, _⟩ | ⟨hu1, _⟩ := hU
    rotate_left
    · exfalso; revert hu1; decide
    obtain ⟨hv1, hv2, hv3, hv4, _⟩ | ⟨hv1, _⟩ := hW
    rotate_left
    · exfalso; revert hv1; decide
    obtain rfl := empty_of hu2
    obtain rfl := empty_of hv2
    have hne : n ≠ m := by
      intro hc
      subst hc
      simp at hs
    refine ⟨_, _, _, rfl, rfl, fun w => eql_num _ _ _ ?_ (by kernel_rfl) Tryz.underlying75 w⟩
    have e1 : ((117 : UInt8).toNat : Int) = 117 := rfl
    rw [e1] at hu1 hv1
    simp [inRangeB] at hu1 hv1
    simp [IntKind.wrap, IntKind.bits, IntKind.signed]
    omega
  · obtain ⟨hu1, hu2, hu3, hu4, _⟩ | ⟨hu1, _⟩ := hU
    rotate_left
    · exfalso; revert hu1; decide
    obtain ⟨hv1, hv2, hv3, hv4, _⟩ | ⟨hv1, _⟩ := hW
    rotate_left
    · exfalso; revert hv1; decide
    obtain rfl := empty_of hu2
    obtain rfl := empty_of hv2
    have hne : n ≠ m := by
      intro hc
      subst hc
      simp at hs
    refine ⟨_, _, _, rfl, rfl, fun w => eql_num _ _ _ ?_ (by kernel_rfl) Tryz.underlying2 w⟩
    unfold wrap64; omega
  · obtain ⟨hu1, hu2, hu3, hu4, _⟩ | ⟨hu1, _⟩ := hU
    rotate_left
    · exfalso; revert hu1; decide
    obtain ⟨hv1, hv2, hv3, hv4, _⟩ | ⟨hv1, _⟩ := hW
    rotate_left
    · exfalso; revert hv1; decide
    obtain rfl := empty_of hu2
    obtain rfl := empty_of hv2
    have hne : n ≠ m := by
      intro hc
      subst hc
      simp at hs
    refine ⟨_, _, _, rfl, rfl, fun w => eql_num _ _ _ ?_ (by kernel_rfl) Tryz.underlying22 w⟩
    exact hne
  · obtain ⟨_, _, _, _, h115, h111⟩ | ⟨_, hn⟩ := hU
    · first | exact absurd rfl h115 | exact absurd rfl h111
    obtain ⟨_, _, _, _, h115, h111⟩ | ⟨_, hm⟩ := hW
    · first | exact absurd rfl h115 | exact absurd rfl h111
    subst hn hm
    simp only [beq_self_eq_true, Bool.true_and] at hs
    refine ⟨_, _, _, rfl, rfl, fun w => ?_⟩
    rw [eql_str s t (by kernel_rfl) Tryz.underlying9 w, ba_beq_false hs]
  · obtain ⟨_, _, _, _, h115, h111⟩ | ⟨_, hn⟩ := hU
    · first | exact absurd rfl h115 | exact absurd rfl h111
    obtain ⟨_, _, _, _, h115, h111⟩ | ⟨_, hm⟩ := hW
    · first | exact absurd rfl h115 | exact absurd rfl h111
    subst hn hm
    simp only [beq_self_eq_true, Bool.true_and] at hs
    refine ⟨_, _, _, rfl, rfl, fun w => ?_⟩
    rw [eql_str s t (by kernel_rfl) Tryz.underlying76 w, ba_beq_false hs]
set_option maxRecDepth 100000 in
set_option maxHeartbeats 3200000 in
theorem makeMap_calls (k : UInt8) (l : List UInt8) (w : World) :
    Calls Tryz.prog 46 #[.string (bs (123 :: k :: l))] w fun e w' => ∃ b, e = .returned (.agg #[.iface 113 (.pointer (some ⟨b, 0, none⟩)), .string (bs (123 :: k :: l))]) ∧ w.heap.size ≤ b ∧ w'.heap[b]? = some (.cells #[.string (bs [k]), .string (bs l), .slice none 0 0, .slice none 0 0] 116 (0, 0)) ∧ Below w.heap.size w w' := by
  have HM : ∀ w, Calls Tryz.prog 72 #[.string (bs (123 :: k :: l))] w fun e w' => e = .returned (.int .i64 14) ∧ w' = w := kind_calls 123 (by decide) _
  go_enter Tryz.func46, Tryz.ntmps46
  go_wp2_with (first | (go_at_call 72; refine (HM _).mono ?_; rintro _ w0 ⟨rfl, rfl⟩) | (go_at_call 73; refine (key_calls _ _ _ _).mono ?_; rintro _ _ ⟨rfl, rfl⟩) | (go_at_call 74; refine (elem_dict _ _ _).mono ?_; rintro _ _ ⟨rfl, rfl⟩))
  have hb : ((w.alloc (.cells #[.iface 113 (.pointer (some ⟨w.heap.size + 1, 0, none⟩)), .string (bs (123 :: k :: l))] 83)).alloc (.cells #[.string (bs [k]), .string (bs l), .slice none 0 0, .slice none 0 0] 116)).heap[w.heap.size]? = some (.cells #[.iface 113 (.pointer (some ⟨w.heap.size + 1, 0, none⟩)), .string (bs (123 :: k :: l))] 83 (0, 0)) := (Below.heap_alloc _ _ _ (by simp)).trans (heap_alloc_new w _)
  have hc := heap_alloc_new (w.alloc (.cells #[.iface 113 (.pointer (some ⟨w.heap.size + 1, 0, none⟩)), .string (bs (123 :: k :: l))] 83)) (.cells #[.string (bs [k]), .string (bs l), .slice none 0 0, .slice none 0 0] 116)
  have hz : (w.alloc (.cells #[.iface 113 (.pointer (some ⟨w.heap.size + 1, 0, none⟩)), .string (bs (123 :: k :: l))] 83)).heap.size = w.heap.size + 1 := by simp
  rw [hz] at hc
  refine bodyPost_ret (results_cell_row rfl _ _ w.heap.size 83 #[.iface 113 (.pointer (some ⟨w.heap.size + 1, 0, none⟩)), .string (bs (123 :: k :: l))] (0, 0) _ rfl hb Tryz.underlying83 rfl (by kernel_rfl)) rfl ?_
  exact ⟨w.heap.size + 1, rfl, by omega, hc, ((Below.refl _ _).alloc (Nat.le_refl _) _).alloc (by simp) _⟩
end Go.Proofs.YtjbpphomlmlmaaaGreatDoor
