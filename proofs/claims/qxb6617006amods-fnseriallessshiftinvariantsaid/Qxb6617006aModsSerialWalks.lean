/-
  THE WALKS of FnSerialLessShiftInvariant, FnSerialLessAntisymmetric and of what they call: serialLess, ZZserialLess.
-/
import Derived.Test.Qxb6617006aModsRows
import Derived.WalkKit
import Derived.WalkSpells
import Derived.RowKit3
namespace Go.Proofs.Qxb6617006aMods
open Go.RowKit

/-! ### THE PLAIN LAWS: serial arithmetic on 32 bits: no Go in sight -/
/-- serialLess's answer. -/
def less (a b : Int) : Bool := decide (wrap32 ((a - b) % 4294967296) < 0)
theorem less_iff (a b : Int) : less a b = decide (2147483648 ≤ (a - b) % 4294967296) := by
  unfold less wrap32
  rw [decide_eq_decide]
  omega
/-- a comes before a + d just if d is 1 to 2^31. -/
theorem less_step (a d : Int) (h0 : 0 ≤ d) (h1 : d ≤ 4294967295) : less a ((a + d) % 4294967296) = decide (1 ≤ d ∧ d ≤ 2147483648) := by
  rw [less_iff, decide_eq_decide]
  omega
theorem less_shift (a k d : Int) (h0 : 0 ≤ d) (h1 : d ≤ 4294967295) : less ((a + k) % 4294967296) ((a + k + d) % 4294967296) = decide (1 ≤ d ∧ d ≤ 2147483648) := by
  rw [less_iff, decide_eq_decide]
  omega
theorem less_self (a : Int) : less a a = false := by
  rw [less_iff, decide_eq_false_iff_not]
  omega

/-! ### THE WALKS -/
theorem less_any (a b : Int) (w : World) :
    Calls Trym.prog 9 #[.int .u32 a, .int .u32 b] w fun e w' => e = .returned (.bool (less a b)) ∧ w' = w := by
  unfold less
  go_enter Trym.func9, Trym.ntmps9
  go_wp2
  go_ret
  exact ⟨rfl, rfl⟩
theorem zzless_any (a b : Int) (w : World) :
    Calls Trym.prog 6 #[.int .u32 a, .int .u32 b] w fun e w' => e = .returned (.bool (less a b)) ∧ w' = w := by
  go_enter Trym.func6, Trym.ntmps6
  go_wp2_with (go_at_call 9; refine (less_any a b _).mono ?_; rintro e w' ⟨rfl, rfl⟩)
  go_ret
  exact ⟨rfl, rfl⟩

theorem bd_u32 {n : Int} (h : (Lit.int .u32 n).wf = true) : 0 ≤ n ∧ n ≤ 4294967295 := by
  simp [Lit.wf, IntKind.min, IntKind.max, IntKind.signed, IntKind.bits] at h
  omega

theorem shift_any (a k d : Int) (w0 : (Lit.int .u32 a).wf = true) (w1 : (Lit.int .u32 k).wf = true) (w2 : (Lit.int .u32 d).wf = true) (w : World) :
    Calls Trym.prog 3 #[.int .u32 a, .int .u32 k, .int .u32 d] w fun e w' => e = .returned (.bool true) ∧ Grown w w' := by
  obtain ⟨a0, a1⟩ := bd_u32 w0
  obtain ⟨k0, k1⟩ := bd_u32 w1
  obtain ⟨d0, d1⟩ := bd_u32 w2
  clear w0 w1 w2
  by_cases hz : d = 0
  · subst hz
    have h1 := less_self a
    have h2 := less_self ((a + k) % 4294967296)
    go_enter Trym.func3, Trym.ntmps3
    go_wp2_with (go_at_call 6; refine (zzless_any _ _ _).mono ?_; rintro e w' ⟨rfl, hw'⟩; subst w')
    go_ret
    exact ⟨rfl, Grown.refl _⟩
  have hne : (d != 0) = true := by simpa using hz
  by_cases hs : d ≤ 2147483648
  · have h1 : less a ((a + d) % 4294967296) = true := by rw [less_step a d d0 d1]; simp; omega
    have h2 : less ((a + k) % 4294967296) ((a + k + d) % 4294967296) = true := by rw [less_shift a k d d0 d1]; simp; omega
    clear hz
    go_enter Trym.func3, Trym.ntmps3
    go_wp2_with (go_at_call 6; refine (zzless_any _ _ _).mono ?_; rintro e w' ⟨rfl, hw'⟩; subst w')
    go_ret
    exact ⟨rfl, Grown.refl _⟩
  · have h1 : less a ((a + d) % 4294967296) = false := by rw [less_step a d d0 d1]; simp; omega
    have h2 : less ((a + k) % 4294967296) ((a + k + d) % 4294967296) = false := by rw [less_shift a k d d0 d1]; simp; omega
    have hd : decide (d ≤ 2147483648) = false := decide_eq_false hs
    clear hz hs
    go_enter Trym.func3, Trym.ntmps3
    go_wp2_with (go_at_call 6; refine (zzless_any _ _ _).mono ?_; rintro e w' ⟨rfl, hw'⟩; subst w')
    go_ret
    exact ⟨rfl, Grown.refl _⟩

/-- FnSerialLessAntisymmetric at every input. -/
theorem anti_any (a b : Int) (w0 : (Lit.int .u32 a).wf = true) (w1 : (Lit.int .u32 b).wf = true) (w : World) :
    Calls Trym.prog 4 #[.int .u32 a, .int .u32 b] w fun e w' => e = .returned (.bool true) ∧ Grown w w' := by
  obtain ⟨a0, a1⟩ := bd_u32 w0
  obtain ⟨b0, b1⟩ := bd_u32 w1
  clear w0 w1
  have hab := less_iff a b
  have hba := less_iff b a
  by_cases hz : (a - b) % 4294967296 = 0
  · have e1 : less a b = false := by rw [hab, decide_eq_false_iff_not]; omega
    have e2 : less b a = false := by rw [hba, decide_eq_false_iff_not]; omega
    have e3 : ((a - b) % 4294967296 == 0) = true := beq_iff_eq.2 hz
    clear hz hab hba
    go_enter Trym.func4, Trym.ntmps4
    go_wp2_with (go_at_call 6; refine (zzless_any _ _ _).mono ?_; rintro e w' ⟨rfl, hw'⟩; subst w')
    go_ret
    exact ⟨rfl, Grown.refl _⟩
  have e3 : ((a - b) % 4294967296 == 0) = false := beq_eq_false_iff_ne.2 hz
  by_cases hh : (a - b) % 4294967296 = 2147483648
  · have e1 : less a b = true := by rw [hab, decide_eq_true_iff]; omega
    have e2 : less b a = true := by rw [hba, decide_eq_true_iff]; omega
    have e4 : ((a - b) % 4294967296 == 2147483648) = true := beq_iff_eq.2 hh
    clear hz hh hab hba
    go_enter Trym.func4, Trym.ntmps4
    go_wp2_with (go_at_call 6; refine (zzless_any _ _ _).mono ?_; rintro e w' ⟨rfl, hw'⟩; subst w')
    go_ret
    exact ⟨rfl, Grown.refl _⟩
  have e4 : ((a - b) % 4294967296 == 2147483648) = false := beq_eq_false_iff_ne.2 hh
  by_cases hg : 2147483648 < (a - b) % 4294967296
  · have e1 : less a b = true := by rw [hab, decide_eq_true_iff]; omega
    have e2 : less b a = false := by rw [hba, decide_eq_false_iff_not]; omega
    clear hz hh hab hba
    go_enter Trym.func4, Trym.ntmps4
    go_wp2_with (go_at_call 6; refine (zzless_any _ _ _).mono ?_; rintro e w' ⟨rfl, hw'⟩; subst w')
    go_ret
    exact ⟨rfl, Grown.refl _⟩
  · have e1 : less a b = false := by rw [hab, decide_eq_false_iff_not]; omega
    have e2 : less b a = true := by rw [hba, decide_eq_true_iff]; omega
    have hd : decide (2147483648 < (a - b) % 4294967296) = false := decide_eq_false hg
    clear hz hh hab hba hg
    go_enter Trym.func4, Trym.ntmps4
    go_wp2_with (go_at_call 6; refine (zzless_any _ _ _).mono ?_; rintro e w' ⟨rfl, hw'⟩; subst w')
    go_ret
    exact ⟨rfl, Grown.refl _⟩
end Go.Proofs.Qxb6617006aMods
