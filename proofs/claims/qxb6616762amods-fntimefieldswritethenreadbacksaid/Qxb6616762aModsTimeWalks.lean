import Derived.Test.Qxb6616762aModsRows
import Derived.WalkKit
import Derived.WalkSpells
import Derived.RowKit3
import Derived.Outline
import Derived.Deep.RegionWith
import Derived.Laws.BitsAllLaws
namespace Go.Proofs.Qxb6616762aMods
open Go.RowKit

theorem bytes_any (a0 : ByteArray) (a1 a2 a3 a4 : Int) (w0 : a0.size ≤ maxLen) (w : World) :
    Calls Trym.prog 6 #[.string a0, .int .i64 a1, .int .i64 a2, .int .i64 a3, .int .i64 a4] w fun e w' => (∃ b : Bool, e = .returned (.bool b)) ∧ w' = w := by
  unfold maxLen at w0
  go_enter Trym.func6, Trym.ntmps6
  go_wp2
  all_goals (go_ret; exact ⟨⟨_, rfl⟩, rfl⟩)

theorem bytes_small (a0 : ByteArray) (a1 a2 a3 a4 : Int) (w0 : (a0.size : Int) ≤ 1048576) (w : World) :
    Calls Trym.prog 6 #[.string a0, .int .i64 a1, .int .i64 a2, .int .i64 a3, .int .i64 a4] w fun e w' => e = .returned (.bool true) ∧ w' = w := by
  go_enter Trym.func6, Trym.ntmps6
  go_wp2
  go_ret
  exact ⟨rfl, rfl⟩

/-! ### (*time.Time).nsec, sec: they read. -/
/-- nsec's number off the cell 'wall'. -/
def nsecOf (x : Int) : Int := wrap32 (bits .and .u64 x 1073741823)
/-- sec's number off the cells 'wall', 'ext'. -/
def secOf (x y : Int) : Int := if (bits .and .u64 x 9223372036854775808 != 0) = true then wrap64 (59453308800 + wrap64 (IntKind.u64.wrap (x * 2) / 2147483648)) else y

theorem nsec_any (b o : Nat) (x : Int) (w : World) (hx : w.cell? ⟨b, o, none⟩ = some (.int .u64 x)) :
    Calls Trym.prog 12 #[.pointer (some ⟨b, o, none⟩)] w fun e w' => e = .returned (.int .i32 (nsecOf x)) ∧ w' = w := by
  unfold nsecOf
  go_enter Trym.func12, Trym.ntmps12
  go_wp2
  go_ret
  exact ⟨rfl, rfl⟩

theorem sec_any (b o : Nat) (x y : Int) (w : World) (hx : w.cell? ⟨b, o, none⟩ = some (.int .u64 x)) (hy : w.cell? ⟨b, o + 1, none⟩ = some (.int .i64 y)) :
    Calls Trym.prog 16 #[.pointer (some ⟨b, o, none⟩)] w fun e w' => e = .returned (.int .i64 (secOf x y)) ∧ w' = w := by
  by_cases hm : (bits .and .u64 x 9223372036854775808 != 0) = true
  · have hs : secOf x y = wrap64 (59453308800 + wrap64 (IntKind.u64.wrap (x * 2) / 2147483648)) := if_pos hm
    rw [hs]
    clear hs
    go_enter Trym.func16, Trym.ntmps16
    go_wp2
    go_ret
    exact ⟨rfl, rfl⟩
  · have hs : secOf x y = y := if_neg hm
    rw [hs]
    clear hs
    have hm' : (bits .and .u64 x 9223372036854775808 != 0) = false := by simpa using hm
    clear hm
    go_enter Trym.func16, Trym.ntmps16
    go_wp2
    go_ret
    exact ⟨rfl, rfl⟩

/-- A time as a value: its two numbers, no location. -/
abbrev timeV (x y : Int) : Value := .agg #[.int .u64 x, .int .i64 y, .pointer none]

set_option maxHeartbeats 400000 in
/-- (time.Time).Equal at one and the same time: true; two new blocks. -/
theorem equal_same (x y : Int) (w : World) :
    Calls Trym.prog 9 #[timeV x y, timeV x y] w fun e w' => e = .returned (.bool true) ∧ ∃ c1 c2, w' = (w.alloc (.cells c1 26)).alloc (.cells c2 26) := by
  go_enter Trym.func9, Trym.ntmps9
  go_wp2_with (first | (go_at_call 16; refine (sec_any _ _ x y _ ?_ ?_).mono ?_; go_simp; go_simp; rintro e w' ⟨rfl, hw'⟩; subst w') | (go_at_call 12; refine (nsec_any _ _ x _ ?_).mono ?_; go_simp; rintro e w' ⟨rfl, hw'⟩; subst w'))
  all_goals (go_ret; exact ⟨rfl, _, _, rfl⟩)

set_option maxHeartbeats 400000 in
/-- (*time.Time).addSec where the time has no monotonic reading and stands at 0: it writes d. -/
theorem addSec_any (b o : Nat) (x d : Int) (w : World) (hd0 : -9223372036854775808 ≤ d) (hd1 : d ≤ 9223372036854775807) (hx : w.cell? ⟨b, o, none⟩ = some (.int .u64 x)) (hy : w.cell? ⟨b, o + 1, none⟩ = some (.int .i64 0)) (hf : w.frozen? ⟨b, o + 1, none⟩ = false)
    (hm : (bits .and .u64 x 9223372036854775808 != 0) = false) :
    Calls Trym.prog 13 #[.pointer (some ⟨b, o, none⟩), .int .i64 d] w fun e w' => e = .returned (.tuple #[]) ∧ w' = w.setCell ⟨b, o + 1, none⟩ (.int .i64 d) := by
  go_enter Trym.func13, Trym.ntmps13
  go_wp2
  go_end0
  exact ⟨rfl, rfl⟩

/-! ### The bits of 'wall' -/
theorem wall_plain (n : Int) (h0 : 0 ≤ n) (h1 : n < 1073741824) : (bits .and .u64 (bits .or .u64 (bits .andNot .u64 0 1073741823) n) 9223372036854775808 != 0) = false := by
  have e1 : bits .andNot .u64 0 1073741823 = 0 := by decide
  obtain ⟨m, rfl⟩ := Int.eq_ofNat_of_zero_le h0
  have e2 : bits .or .u64 (0 : Int) (m : Int) = (m : Int) := by
    have := u64_or_nat 0 m (by decide) (by omega)
    simpa using this
  have e3 : bits .and .u64 (m : Int) 9223372036854775808 = 0 := by
    have := u64_and_nat m 9223372036854775808 (by omega) (by decide)
    rw [show ((9223372036854775808 : Nat) : Int) = 9223372036854775808 from rfl] at this
    rw [this, show (9223372036854775808 : Nat) = 2 ^ 63 from rfl, nat_bit, Nat.div_eq_of_lt (by omega)]
    rfl
  rw [e1, e2, e3]
  rfl

/-! ### Go's '/' and '%' below 0; bounds of a wrapped number -/
theorem tmod_neg (d : Int) (h : d < 0) : -1000000000 < d.tmod 1000000000 ∧ d.tmod 1000000000 ≤ 0 := by
  have e : d.tmod 1000000000 = -((-d) % 1000000000) := by
    rw [← Int.tmod_eq_emod_of_nonneg (by omega : 0 ≤ -d), ← Int.neg_tmod, Int.neg_neg]
  rw [e]
  omega
theorem tdiv_neg (d : Int) (hd : -9223372036854775808 ≤ d) (h : d < 0) : -9223372036854775808 ≤ d.tdiv 1000000000 ∧ d.tdiv 1000000000 ≤ 9223372036854775807 := by
  have e : d.tdiv 1000000000 = -((-d) / 1000000000) := by
    rw [← Int.tdiv_eq_ediv_of_nonneg (by omega : 0 ≤ -d), Int.neg_tdiv, Int.neg_neg]
  rw [e]
  omega
theorem wrap64_ge (n : Int) : -9223372036854775808 ≤ wrap64 n := by unfold wrap64; omega
theorem wrap64_le (n : Int) : wrap64 n ≤ 9223372036854775807 := by unfold wrap64; omega

set_option maxHeartbeats 1000000 in
/-- (time.Time).Add at the zero time: some time without a location; new blocks alone. -/
theorem add_zero (d : Int) (hd0 : -9223372036854775808 ≤ d) (hd1 : d ≤ 9223372036854775807) (w : World) :
    Calls Trym.prog 7 #[timeV 0 0, .int .i64 d] w fun e w' => ∃ x y, e = .returned (timeV x y) ∧ ∃ c1 c2, w' = (w.alloc (.cells c1 26)).alloc (.cells c2 26) := by
  have z1 : nsecOf 0 = 0 := by decide +kernel
  by_cases hp : 0 ≤ d
  · have hw := wall_plain (d % 1000000000) (by omega) (by omega)
    go_enter Trym.func7, Trym.ntmps7
    go_wp2_with (first | (go_at_call 12; refine (nsec_any _ _ 0 _ ?_).mono ?_; go_simp; rintro e w' ⟨rfl, hw'⟩; subst w') | (go_at_call 13; refine (addSec_any _ _ _ (d / 1000000000) _ (by omega) (by omega) ?_ ?_ ?_ hw).mono ?_; go_simp; go_simp; go_simp; rintro e w' ⟨rfl, hw'⟩; subst w'))
    exact bodyPost_ret (v := timeV (bits .or .u64 (bits .andNot .u64 0 1073741823) (d % 1000000000)) (d / 1000000000)) (by simp [results, Trym.results7, go_sem]) rfl ⟨_, _, rfl, _, _, rfl⟩
  · have tm := tmod_neg d (by omega)
    have t1 : -1000000000 < d.tmod 1000000000 := tm.1
    have t2 : d.tmod 1000000000 ≤ 0 := tm.2
    clear tm
    by_cases hr : d.tmod 1000000000 < 0
    · have hw := wall_plain (d.tmod 1000000000 + 1000000000) (by omega) (by omega)
      have b1 := wrap64_ge (d.tdiv 1000000000 - 1)
      have b2 := wrap64_le (d.tdiv 1000000000 - 1)
      go_enter Trym.func7, Trym.ntmps7
      go_wp2_with (first | (go_at_call 12; refine (nsec_any _ _ 0 _ ?_).mono ?_; go_simp; rintro e w' ⟨rfl, hw'⟩; subst w') | (go_at_call 13; refine (addSec_any _ _ _ (wrap64 (d.tdiv 1000000000 - 1)) _ b1 b2 ?_ ?_ ?_ hw).mono ?_; go_simp; go_simp; go_simp; rintro e w' ⟨rfl, hw'⟩; subst w'))
      exact bodyPost_ret (v := timeV (bits .or .u64 (bits .andNot .u64 0 1073741823) (d.tmod 1000000000 + 1000000000)) (wrap64 (d.tdiv 1000000000 - 1))) (by simp [results, Trym.results7, go_sem]) rfl ⟨_, _, rfl, _, _, rfl⟩
    · have h0 : d.tmod 1000000000 = 0 := by omega
      have hw := wall_plain 0 (by omega) (by omega)
      have td := tdiv_neg d hd0 (by omega)
      clear hr t1 t2
      go_enter Trym.func7, Trym.ntmps7
      go_wp2_with (first | (go_at_call 12; refine (nsec_any _ _ 0 _ ?_).mono ?_; go_simp; rintro e w' ⟨rfl, hw'⟩; subst w') | (go_at_call 13; refine (addSec_any _ _ _ (d.tdiv 1000000000) _ td.1 td.2 ?_ ?_ ?_ hw).mono ?_; go_simp; go_simp; go_simp; rintro e w' ⟨rfl, hw'⟩; subst w'))
      exact bodyPost_ret (v := timeV (bits .or .u64 (bits .andNot .u64 0 1073741823) 0) (d.tdiv 1000000000)) (by simp [results, Trym.results7, go_sem]) rfl ⟨_, _, rfl, _, _, rfl⟩

end Go.Proofs.Qxb6616762aMods
