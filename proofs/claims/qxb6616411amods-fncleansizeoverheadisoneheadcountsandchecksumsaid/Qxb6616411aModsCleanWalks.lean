/-
  THE WALKS of FnCleanSizeOverheadIsOneHeadCountsAndChecksum and of what it calls: countsAt, cleanSize, ZZcleanSize.
-/
import Derived.Test.Qxb6616411aModsRows
import Derived.WalkKit
import Derived.WalkSpells
import Derived.RowKit3
import Derived.Laws.Bits64
namespace Go.Proofs.Qxb6616411aMods
open Go.RowKit

/-! ### THE PLAIN LAW: the size of a clean file, as the Go text reckons it, wraps and all: no Go in sight -/
/-- countsAt's number. -/
def counts (a : Int) : Int := wrap64 (72 + wrap64 (IntKind.u64.wrap (a * 24)))
/-- cleanSize's number. -/
def clean (a : Int) : Int := wrap64 (wrap64 (counts a + 32) + 4)
theorem wrap64_mod (n : Int) : ∃ q : Int, wrap64 n = n + q * 18446744073709551616 := by
  unfold wrap64
  exact ⟨-((n + 9223372036854775808) / 18446744073709551616), by omega⟩
theorem u64_mod (n : Int) : ∃ q : Int, IntKind.u64.wrap n = n + q * 18446744073709551616 := by
  rw [IntKind.wrap_u64]
  exact ⟨-(n / 18446744073709551616), by omega⟩
theorem wrap64_eq {x y : Int} (q : Int) (h : x = y + q * 18446744073709551616) : wrap64 x = wrap64 y := by
  unfold wrap64
  omega
theorem counts_mod (a : Int) : ∃ q : Int, counts a = 72 + a * 24 + q * 18446744073709551616 := by
  unfold counts
  obtain ⟨q1, h1⟩ := u64_mod (a * 24)
  rw [h1]
  obtain ⟨q2, h2⟩ := wrap64_mod (a * 24 + q1 * 18446744073709551616)
  rw [h2]
  obtain ⟨q3, h3⟩ := wrap64_mod (72 + (a * 24 + q1 * 18446744073709551616 + q2 * 18446744073709551616))
  rw [h3]
  exact ⟨q1 + q2 + q3, by omega⟩
theorem clean_mod (a : Int) : ∃ q : Int, clean a = 108 + a * 24 + q * 18446744073709551616 := by
  unfold clean
  obtain ⟨q1, h1⟩ := counts_mod a
  rw [h1]
  obtain ⟨q2, h2⟩ := wrap64_mod (72 + a * 24 + q1 * 18446744073709551616 + 32)
  rw [h2]
  obtain ⟨q3, h3⟩ := wrap64_mod (72 + a * 24 + q1 * 18446744073709551616 + 32 + q2 * 18446744073709551616 + 4)
  rw [h3]
  exact ⟨q1 + q2 + q3, by omega⟩
theorem overhead (a b : Int) : wrap64 (clean a + clean b) = wrap64 (clean (IntKind.u64.wrap (a + b)) + 108) := by
  obtain ⟨q1, h1⟩ := clean_mod a
  obtain ⟨q2, h2⟩ := clean_mod b
  obtain ⟨q3, h3⟩ := u64_mod (a + b)
  obtain ⟨q4, h4⟩ := clean_mod (IntKind.u64.wrap (a + b))
  rw [h4, h1, h2, h3]
  exact wrap64_eq (q1 + q2 - q4 - q3 * 24) (by omega)

/-! ### THE WALKS -/
theorem counts_any (a : Int) (w : World) :
    Calls Trym.prog 7 #[.int .u64 a] w fun e w' => e = .returned (.int .i64 (counts a)) ∧ w' = w := by
  go_enter Trym.func7, Trym.ntmps7
  go_wp2
  go_ret
  exact ⟨rfl, rfl⟩
theorem clean_any (a : Int) (w : World) :
    Calls Trym.prog 6 #[.int .u64 a] w fun e w' => e = .returned (.int .i64 (clean a)) ∧ w' = w := by
  go_enter Trym.func6, Trym.ntmps6
  go_wp2_with (go_at_call 7; refine (counts_any a _).mono ?_; rintro e w' ⟨rfl, rfl⟩)
  go_ret
  exact ⟨rfl, rfl⟩
theorem zzclean_any (a : Int) (w : World) :
    Calls Trym.prog 5 #[.int .u64 a] w fun e w' => e = .returned (.int .i64 (clean a)) ∧ w' = w := by
  go_enter Trym.func5, Trym.ntmps5
  go_wp2_with (go_at_call 6; refine (clean_any a _).mono ?_; rintro e w' ⟨rfl, rfl⟩)
  go_ret
  exact ⟨rfl, rfl⟩

/-- The law at every input. -/
theorem law_any (a b : Int) (w : World) :
    Calls Trym.prog 4 #[.int .u64 a, .int .u64 b] w fun e w' => e = .returned (.bool true) ∧ Grown w w' := by
  have hlaw : (wrap64 (clean a + clean b) == wrap64 (clean (IntKind.u64.wrap (a + b)) + 108)) = true := beq_iff_eq.2 (overhead a b)
  go_enter Trym.func4, Trym.ntmps4
  go_wp2_with (go_at_call 5; refine (zzclean_any _ _).mono ?_; rintro e w' ⟨rfl, hw'⟩; subst w')
  go_ret
  exact ⟨rfl, Grown.refl _⟩
end Go.Proofs.Qxb6616411aMods
