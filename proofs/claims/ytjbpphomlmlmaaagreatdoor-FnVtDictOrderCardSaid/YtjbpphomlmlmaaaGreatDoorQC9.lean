/- The text of a float that is not zero: all its forms. -/
import Derived.Test.YtjbpphomlmlmaaaGreatDoorQC8
import Derived.Test.YtjbpphomlmlmaaaGreatDoorQC7
namespace Go.Proofs.YtjbpphomlmlmaaaGreatDoor
open Go.RowKit Go.Sort Go.Lib
set_option linter.unusedVariables false
theorem fmt_all (neg : Bool) (ds : List UInt8) (nd : Nat) (dp : Int) (h0 : 1 ≤ nd) (h1 : nd ≤ ds.length) (h2 : ds.length ≤ 20) (hd0 : -900 ≤ dp) (hd1 : dp ≤ 900) : FmtOk neg ds sv32 dp nd nd := by
  have hds : 0 < ds.length := by omega
  have hc : (dp - 1 < -4 ∧ -10 < dp - 1) ∨ (dp - 1 ≤ -10 ∧ -100 < dp - 1) ∨ dp - 1 ≤ -100 ∨ (6 ≤ dp - 1 ∧ dp - 1 < 10) ∨ (10 ≤ dp - 1 ∧ dp - 1 < 100) ∨ 100 ≤ dp - 1 ∨ (-3 ≤ dp ∧ dp ≤ 0) ∨ (1 ≤ dp ∧ dp ≤ 6 ∧ dp < nd) ∨ (1 ≤ dp ∧ dp ≤ 6 ∧ (nd : Int) ≤ dp) := by omega
  have hn : nd = 1 ∨ 2 ≤ nd := by omega
  rcases hc with hx | hx | hx | hx | hx | hx | hx | hx | hx
  · rcases hn with rfl | hn
    · cases neg
      · exact fmt_e_a_false_0 ds dp hds h2 hx hd0 hd1
      · exact fmt_e_a_true_0 ds dp hds h2 hx hd0 hd1
    · cases neg
      · exact fmt_e_a_false_1 ds nd hn h1 dp hds h2 hx hd0 hd1
      · exact fmt_e_a_true_1 ds nd hn h1 dp hds h2 hx hd0 hd1
  · rcases hn with rfl | hn
    · cases neg
      · exact fmt_e_b_false_0 ds dp hds h2 hx hd0 hd1
      · exact fmt_e_b_true_0 ds dp hds h2 hx hd0 hd1
    · cases neg
      · exact fmt_e_b_false_1 ds nd hn h1 dp hds h2 hx hd0 hd1
      · exact fmt_e_b_true_1 ds nd hn h1 dp hds h2 hx hd0 hd1
  · rcases hn with rfl | hn
    · cases neg
      · exact fmt_e_c_false_0 ds dp hds h2 hx hd0 hd1
      · exact fmt_e_c_true_0 ds dp hds h2 hx hd0 hd1
    · cases neg
      · exact fmt_e_c_false_1 ds nd hn h1 dp hds h2 hx hd0 hd1
      · exact fmt_e_c_true_1 ds nd hn h1 dp hds h2 hx hd0 hd1
  · rcases hn with rfl | hn
    · cases neg
      · exact fmt_e_d_false_0 ds dp hds h2 hx hd0 hd1
      · exact fmt_e_d_true_0 ds dp hds h2 hx hd0 hd1
    · cases neg
      · exact fmt_e_d_false_1 ds nd hn h1 dp hds h2 hx hd0 hd1
      · exact fmt_e_d_true_1 ds nd hn h1 dp hds h2 hx hd0 hd1
  · rcases hn with rfl | hn
    · cases neg
      · exact fmt_e_e_false_0 ds dp hds h2 hx hd0 hd1
      · exact fmt_e_e_true_0 ds dp hds h2 hx hd0 hd1
    · cases neg
      · exact fmt_e_e_false_1 ds nd hn h1 dp hds h2 hx hd0 hd1
      · exact fmt_e_e_true_1 ds nd hn h1 dp hds h2 hx hd0 hd1
  · rcases hn with rfl | hn
    · cases neg
      · exact fmt_e_f_false_0 ds dp hds h2 hx hd0 hd1
      · exact fmt_e_f_true_0 ds dp hds h2 hx hd0 hd1
    · cases neg
      · exact fmt_e_f_false_1 ds nd hn h1 dp hds h2 hx hd0 hd1
      · exact fmt_e_f_true_1 ds nd hn h1 dp hds h2 hx hd0 hd1
  · obtain ⟨k, rfl⟩ : ∃ k : Nat, dp = -(k : Int) := ⟨(-dp).toNat, by omega⟩
    cases neg
    · exact fmt_f1p ds nd _ h0 h1 h2 k rfl (by omega)
    · exact fmt_f1n ds nd _ h0 h1 h2 k rfl (by omega)
  · obtain ⟨k, rfl⟩ : ∃ k : Nat, dp = (k : Int) := ⟨dp.toNat, by omega⟩
    obtain ⟨r, rfl⟩ : ∃ r : Nat, nd = k + r := ⟨nd - k, by omega⟩
    cases neg
    · exact fmt_f2p ds _ _ h0 h1 h2 k r rfl rfl (by omega) (by omega) (by omega)
    · exact fmt_f2n ds _ _ h0 h1 h2 k r rfl rfl (by omega) (by omega) (by omega)
  · obtain ⟨k, rfl⟩ : ∃ k : Nat, dp = (k : Int) := ⟨dp.toNat, by omega⟩
    cases neg
    · exact fmt_f3p ds nd _ h0 h1 h2 k rfl (by omega) (by omega)
    · exact fmt_f3n ds nd _ h0 h1 h2 k rfl (by omega) (by omega)
end Go.Proofs.YtjbpphomlmlmaaaGreatDoor
