import Derived.Test.Qxb6616167aModsRows
import Derived.WalkKit
import Derived.WalkSpells
import Derived.RowKit3
import Derived.LoopTactic
import Derived.Outline
import Derived.Deep.RegionWith
namespace Go.Proofs.Qxb6616167aMods
open Go.RowKit

set_option maxHeartbeats 400000 in
/-- zzBytes: it answers some bool and turns nothing. -/
theorem bytes_any (a0 a1 a2 a3 : ByteArray) (w0 : a0.size ≤ maxLen) (w1 : a1.size ≤ maxLen) (w2 : a2.size ≤ maxLen) (w3 : a3.size ≤ maxLen) (w : World) :
    Calls Trym.prog 4 #[.string a0, .string a1, .string a2, .string a3] w fun e w' => (∃ b : Bool, e = .returned (.bool b)) ∧ w' = w := by
  unfold maxLen at w0 w1 w2 w3
  go_enter Trym.func4, Trym.ntmps4
  go_wp2
  all_goals (go_ret; exact ⟨⟨_, rfl⟩, rfl⟩)

/-- The record as a value. -/
abbrev recV (s : ByteArray) (t f r p : Bool) (a b c : ByteArray) : Value := .agg #[.string s, .bool t, .bool f, .bool r, .bool p, .string a, .string b, .string c]

theorem new_any (s : ByteArray) (t f r p : Bool) (a b c : ByteArray) (w : World) :
    Calls Trym.prog 5 #[.string s, .bool t, .bool f, .bool r, .bool p, .string a, .string b, .string c] w fun e w' =>
      e = .returned (recV s t f r p a b c) ∧ w' = w.alloc (.cells #[.string s, .bool t, .bool f, .bool r, .bool p, .string a, .string b, .string c] 24) := by
  go_enter Trym.func5, Trym.ntmps5
  go_wp2
  exact bodyPost_ret (v := recV s t f r p a b c) (by simp [results, Trym.results5, go_sem]) rfl ⟨rfl, rfl⟩

/-- (releaseRecord).fencedStill: one new block (the receiver's copy). -/
theorem fenced_any (s : ByteArray) (t f r p : Bool) (a b c : ByteArray) (w : World) :
    Calls Trym.prog 8 #[recV s t f r p a b c] w fun e w' =>
      e = .returned (.bool (!(s.toList.isEmpty) && t && !p)) ∧ ∃ c1, w' = w.alloc (.cells c1 24) := by
  cases t <;> cases p
  all_goals
    go_enter Trym.func8, Trym.ntmps8
    go_wp2
    all_goals (go_ret; exact ⟨by simp [*], _, rfl⟩)

/-- (releaseRecord).madeBy at the record's own name. -/
theorem made_own (s : ByteArray) (t f r p : Bool) (a b c : ByteArray) (w : World) :
    Calls Trym.prog 7 #[recV s t f r p a b c, .string s] w fun e w' =>
      e = .returned (.bool (!(s.toList.isEmpty) && t && !p)) ∧ ∃ c1 c2, w' = (w.alloc (.cells c1 24)).alloc (.cells c2 24) := by
  go_enter Trym.func7, Trym.ntmps7
  go_wp2_with (go_at_call 8; refine (fenced_any s t f r p a b c _).mono ?_; rintro e w' ⟨rfl, c1, rfl⟩)
  go_ret
  exact ⟨by simp, _, _, rfl⟩

/-- (releaseRecord).madeBy at the empty name, where the record's own is not empty. -/
theorem made_empty (s : ByteArray) (hs : s.toList.isEmpty = false) (t f r p : Bool) (a b c : ByteArray) (w : World) :
    Calls Trym.prog 7 #[recV s t f r p a b c, .string ⟨#[]⟩] w fun e w' =>
      e = .returned (.bool false) ∧ ∃ c1, w' = w.alloc (.cells c1 24) := by
  go_enter Trym.func7, Trym.ntmps7
  go_wp2_with fail
  go_ret
  exact ⟨by simp, _, rfl⟩

/-- ZZmadeBy at the record's own name: three new blocks. -/
theorem zzmade_own (s : ByteArray) (t f r p : Bool) (a b c : ByteArray) (w : World) :
    Calls Trym.prog 6 #[recV s t f r p a b c, .string s] w fun e w' =>
      e = .returned (.bool (!(s.toList.isEmpty) && t && !p)) ∧ ∃ c1 c2 c3, w' = ((w.alloc (.cells c1 24)).alloc (.cells c2 24)).alloc (.cells c3 24) := by
  go_enter Trym.func6, Trym.ntmps6
  go_wp2_with (go_at_call 7; refine (made_own s t f r p a b c _).mono ?_; rintro e w' ⟨rfl, c1, c2, rfl⟩)
  go_ret
  exact ⟨by simp, _, _, _, rfl⟩

/-- ZZmadeBy at the empty name: false, whatever the record; some new blocks of cells. -/
theorem zzmade_empty (s : ByteArray) (hs : s.toList.isEmpty = false) (t f r p : Bool) (a b c : ByteArray) (w : World) :
    Calls Trym.prog 6 #[recV s t f r p a b c, .string ⟨#[]⟩] w fun e w' =>
      e = .returned (.bool false) ∧ ∃ c1 c2, w' = (w.alloc (.cells c1 24)).alloc (.cells c2 24) := by
  go_enter Trym.func6, Trym.ntmps6
  go_wp2_with (go_at_call 7; refine (made_empty s hs t f r p a b c _).mono ?_; rintro e w' ⟨rfl, c1, rfl⟩)
  go_ret
  exact ⟨by simp, _, _, rfl⟩

/-- zzBytes answers true where each string is short. -/
theorem bytes_small (a0 a1 a2 a3 : ByteArray) (w0 : (a0.size : Int) ≤ 262144) (w1 : (a1.size : Int) ≤ 262144) (w2 : (a2.size : Int) ≤ 262144) (w3 : (a3.size : Int) ≤ 262144) (w : World) :
    Calls Trym.prog 4 #[.string a0, .string a1, .string a2, .string a3] w fun e w' => e = .returned (.bool true) ∧ w' = w := by
  go_enter Trym.func4, Trym.ntmps4
  go_wp2
  go_ret
  exact ⟨rfl, rfl⟩

/-- How many of the rounds below k find the release made by a name that is not empty. -/
def cnt (k : Nat) : Nat := min (k / 2) 4

/-! The bits of the counter, and what a round adds: no Go in sight. -/
theorem bit_of : ∀ n : Nat, n < 16 → (bits .and .i64 (n : Int) 1 = 0 ∨ bits .and .i64 (n : Int) 1 = 1) ∧ (bits .and .i64 (n : Int) 4 = 0 ∨ bits .and .i64 (n : Int) 4 = 4) ∧ (bits .and .i64 (n : Int) 8 = 0 ∨ bits .and .i64 (n : Int) 8 = 8) := by
  decide +kernel
theorem cnt_up : ∀ n : Nat, n < 16 → bits .and .i64 (n : Int) 1 = 1 → bits .and .i64 (n : Int) 8 = 0 → cnt (n + 1) = cnt n + 1 := by
  decide +kernel
theorem cnt_even : ∀ n : Nat, n < 16 → bits .and .i64 (n : Int) 1 = 0 → cnt (n + 1) = cnt n := by
  decide +kernel
theorem cnt_posted : ∀ n : Nat, n < 16 → bits .and .i64 (n : Int) 8 = 8 → cnt (n + 1) = cnt n := by
  decide +kernel
theorem cnt_le (n : Nat) : cnt n ≤ 4 := by unfold cnt; omega

set_option maxHeartbeats 1000000 in
/-- The law where the request's name is not empty and no string is long. -/
theorem law_named (a0 a1 a2 a3 : ByteArray) (hs : a0.toList.isEmpty = false) (w0 : (a0.size : Int) ≤ 262144) (w1 : (a1.size : Int) ≤ 262144) (w2 : (a2.size : Int) ≤ 262144) (w3 : (a3.size : Int) ≤ 262144) (w : World) :
    Calls Trym.prog 3 #[.string a0, .string a1, .string a2, .string a3] w fun e w' => e = .returned (.bool true) ∧ Grown w w' := by
  go_enter Trym.func3, Trym.ntmps3
  go_wp2_with (go_at_call 4; refine (bytes_small a0 a1 a2 a3 w0 w1 w2 w3 _).mono ?_; rintro e w' ⟨rfl, hw'⟩; subst w')
  go_loopw [9, 10, 11, 12] (fun m s e k wr => ∃ n : Nat, n ≤ 16 ∧ k = .int .i64 (n : Int) ∧ m = .int .i64 (cnt n : Nat) ∧ s = .int .i64 0 ∧ e = .int .i64 0 ∧ Grown w wr) (fun _ _ _ k _ => 16 - (intOf k).toNat)
  case atStart => exact ⟨0, by omega, rfl, rfl, rfl, rfl, Grown.refl _⟩
  case round =>
    obtain ⟨n, hn, rfl, rfl, rfl, rfl, hg⟩ := hrel
    have hc4 := cnt_le n
    by_cases hlt : n < 16
    · obtain ⟨hb1, hb4, hb8⟩ := bit_of n hlt
      rcases hb8 with hb8 | hb8
      · rcases hb1 with hb1 | hb1
        · have HC : Hid (cnt (n + 1) = cnt n) := cnt_even n hlt hb1
          go_wp2_with (first | (go_at_call 5; refine (new_any a0 _ _ _ _ a1 a2 a3 _).mono ?_; rintro e w' ⟨rfl, rfl⟩) | (go_at_call_of 6 (Value.string (ByteArray.mk #[])); refine (zzmade_empty a0 hs _ _ _ _ a1 a2 a3 _).mono ?_; rintro e w' ⟨rfl, c4, c5, rfl⟩) | (go_at_call 6; refine (zzmade_own a0 _ _ _ _ a1 a2 a3 _).mono ?_; rintro e w' ⟨rfl, c1, c2, c3, rfl⟩))
          go_roundw
          case rel => exact ⟨n + 1, by omega, by go_num, by rw [HC.out], rfl, rfl, (by repeat (first | exact hg | apply Grown.alloc))⟩
          case measure => simp [intOf]; omega
        · have HC : Hid (cnt (n + 1) = cnt n + 1) := cnt_up n hlt hb1 hb8
          go_wp2_with (first | (go_at_call 5; refine (new_any a0 _ _ _ _ a1 a2 a3 _).mono ?_; rintro e w' ⟨rfl, rfl⟩) | (go_at_call_of 6 (Value.string (ByteArray.mk #[])); refine (zzmade_empty a0 hs _ _ _ _ a1 a2 a3 _).mono ?_; rintro e w' ⟨rfl, c4, c5, rfl⟩) | (go_at_call 6; refine (zzmade_own a0 _ _ _ _ a1 a2 a3 _).mono ?_; rintro e w' ⟨rfl, c1, c2, c3, rfl⟩))
          go_roundw
          case rel => exact ⟨n + 1, by omega, by go_num, by rw [HC.out]; go_num, rfl, rfl, (by repeat (first | exact hg | apply Grown.alloc))⟩
          case measure => simp [intOf]; omega
      · rcases hb4 with hb4 | hb4
        · have HC : Hid (cnt (n + 1) = cnt n) := cnt_posted n hlt hb8
          go_wp2_with fail
          go_roundw
          case rel => exact ⟨n + 1, by omega, by go_num, by rw [HC.out], rfl, rfl, hg⟩
          case measure => simp [intOf]; omega
        · rcases hb1 with hb1 | hb1
          · have HC : Hid (cnt (n + 1) = cnt n) := cnt_posted n hlt hb8
            go_wp2_with (first | (go_at_call 5; refine (new_any a0 _ _ _ _ a1 a2 a3 _).mono ?_; rintro e w' ⟨rfl, rfl⟩) | (go_at_call_of 6 (Value.string (ByteArray.mk #[])); refine (zzmade_empty a0 hs _ _ _ _ a1 a2 a3 _).mono ?_; rintro e w' ⟨rfl, c4, c5, rfl⟩) | (go_at_call 6; refine (zzmade_own a0 _ _ _ _ a1 a2 a3 _).mono ?_; rintro e w' ⟨rfl, c1, c2, c3, rfl⟩))
            go_roundw
            case rel => exact ⟨n + 1, by omega, by go_num, by rw [HC.out], rfl, rfl, (by repeat (first | exact hg | apply Grown.alloc))⟩
            case measure => simp [intOf]; omega
          · have HC : Hid (cnt (n + 1) = cnt n) := cnt_posted n hlt hb8
            go_wp2_with (first | (go_at_call 5; refine (new_any a0 _ _ _ _ a1 a2 a3 _).mono ?_; rintro e w' ⟨rfl, rfl⟩) | (go_at_call_of 6 (Value.string (ByteArray.mk #[])); refine (zzmade_empty a0 hs _ _ _ _ a1 a2 a3 _).mono ?_; rintro e w' ⟨rfl, c4, c5, rfl⟩) | (go_at_call 6; refine (zzmade_own a0 _ _ _ _ a1 a2 a3 _).mono ?_; rintro e w' ⟨rfl, c1, c2, c3, rfl⟩))
            go_roundw
            case rel => exact ⟨n + 1, by omega, by go_num, by rw [HC.out], rfl, rfl, (by repeat (first | exact hg | apply Grown.alloc))⟩
            case measure => simp [intOf]; omega
    · obtain rfl : n = 16 := by omega
      have h4 : ((cnt 16 : Nat) : Int) = 4 := by decide
      go_wp2_with fail
      go_ret
      exact ⟨rfl, hg⟩

/-- ZZmadeBy where both names are empty: false. -/
theorem zzmade_none (t f r p : Bool) (a b c : ByteArray) (w : World) :
    Calls Trym.prog 6 #[recV ⟨#[]⟩ t f r p a b c, .string ⟨#[]⟩] w fun e w' =>
      e = .returned (.bool false) ∧ ∃ c1 c2 c3, w' = ((w.alloc (.cells c1 24)).alloc (.cells c2 24)).alloc (.cells c3 24) := by
  refine (zzmade_own ⟨#[]⟩ t f r p a b c w).mono ?_
  rintro e w' ⟨rfl, hw'⟩
  exact ⟨by simp [ByteArray.toList_eq], hw'⟩

set_option maxHeartbeats 1000000 in
/-- The law where the request's name is empty and no string is long. -/
theorem law_nameless (a1 a2 a3 : ByteArray) (w1 : (a1.size : Int) ≤ 262144) (w2 : (a2.size : Int) ≤ 262144) (w3 : (a3.size : Int) ≤ 262144) (w : World) :
    Calls Trym.prog 3 #[.string ⟨#[]⟩, .string a1, .string a2, .string a3] w fun e w' => e = .returned (.bool true) ∧ Grown w w' := by
  go_enter Trym.func3, Trym.ntmps3
  go_wp2_with (go_at_call 4; refine (bytes_small ⟨#[]⟩ a1 a2 a3 (by decide) w1 w2 w3 _).mono ?_; rintro e w' ⟨rfl, hw'⟩; subst w')
  go_loopw [9, 10, 11, 12] (fun m s e k wr => ∃ n : Nat, n ≤ 16 ∧ k = .int .i64 (n : Int) ∧ m = .int .i64 0 ∧ s = .int .i64 0 ∧ e = .int .i64 0 ∧ Grown w wr) (fun _ _ _ k _ => 16 - (intOf k).toNat)
  case atStart => exact ⟨0, by omega, rfl, rfl, rfl, rfl, Grown.refl _⟩
  case round =>
    obtain ⟨n, hn, rfl, rfl, rfl, rfl, hg⟩ := hrel
    by_cases hlt : n < 16
    · obtain ⟨_, hb4, hb8⟩ := bit_of n hlt
      rcases hb8 with hb8 | hb8
      · go_wp2_with (first | (go_at_call 5; refine (new_any ⟨#[]⟩ _ _ _ _ a1 a2 a3 _).mono ?_; rintro e w' ⟨rfl, rfl⟩) | (go_at_call 6; refine (zzmade_none _ _ _ _ a1 a2 a3 _).mono ?_; rintro e w' ⟨rfl, c1, c2, c3, rfl⟩))
        go_roundw
        case rel => exact ⟨n + 1, by omega, by go_num, rfl, rfl, rfl, (by repeat (first | exact hg | apply Grown.alloc))⟩
        case measure => simp [intOf]; omega
      · rcases hb4 with hb4 | hb4
        · go_wp2_with fail
          go_roundw
          case rel => exact ⟨n + 1, by omega, by go_num, rfl, rfl, rfl, hg⟩
          case measure => simp [intOf]; omega
        · go_wp2_with (first | (go_at_call 5; refine (new_any ⟨#[]⟩ _ _ _ _ a1 a2 a3 _).mono ?_; rintro e w' ⟨rfl, rfl⟩) | (go_at_call 6; refine (zzmade_none _ _ _ _ a1 a2 a3 _).mono ?_; rintro e w' ⟨rfl, c1, c2, c3, rfl⟩))
          go_roundw
          case rel => exact ⟨n + 1, by omega, by go_num, rfl, rfl, rfl, (by repeat (first | exact hg | apply Grown.alloc))⟩
          case measure => simp [intOf]; omega
    · obtain rfl : n = 16 := by omega
      go_wp2_with fail
      go_ret
      exact ⟨rfl, hg⟩

set_option maxHeartbeats 1000000 in
/-- The law where some string is long: it answers true at once, whatever zzBytes says. -/
theorem law_long (a0 a1 a2 a3 : ByteArray) (w0 : a0.size ≤ maxLen) (w1 : a1.size ≤ maxLen) (w2 : a2.size ≤ maxLen) (w3 : a3.size ≤ maxLen) (hl : (262144 : Int) < a0.size ∨ (262144 : Int) < a1.size ∨ (262144 : Int) < a2.size ∨ (262144 : Int) < a3.size) (w : World) :
    Calls Trym.prog 3 #[.string a0, .string a1, .string a2, .string a3] w fun e w' => e = .returned (.bool true) ∧ Grown w w' := by
  by_cases h0 : (262144 : Int) < a0.size
  · go_enter Trym.func3, Trym.ntmps3
    go_wp2_with fail
    refine (bytes_any a0 a1 a2 a3 w0 w1 w2 w3 _).mono ?_
    rintro e w' ⟨⟨b, rfl⟩, hw'⟩
    subst w'
    cases b
    all_goals (go_wp2_with fail; go_ret; exact ⟨rfl, Grown.refl _⟩)
  by_cases h1 : (262144 : Int) < a1.size
  · go_enter Trym.func3, Trym.ntmps3
    go_wp2_with fail
    refine (bytes_any a0 a1 a2 a3 w0 w1 w2 w3 _).mono ?_
    rintro e w' ⟨⟨b, rfl⟩, hw'⟩
    subst w'
    cases b
    all_goals (go_wp2_with fail; go_ret; exact ⟨rfl, Grown.refl _⟩)
  by_cases h2 : (262144 : Int) < a2.size
  · go_enter Trym.func3, Trym.ntmps3
    go_wp2_with fail
    refine (bytes_any a0 a1 a2 a3 w0 w1 w2 w3 _).mono ?_
    rintro e w' ⟨⟨b, rfl⟩, hw'⟩
    subst w'
    cases b
    all_goals (go_wp2_with fail; go_ret; exact ⟨rfl, Grown.refl _⟩)
  · have h3 : (262144 : Int) < a3.size := by omega
    clear hl
    go_enter Trym.func3, Trym.ntmps3
    go_wp2_with fail
    refine (bytes_any a0 a1 a2 a3 w0 w1 w2 w3 _).mono ?_
    rintro e w' ⟨⟨b, rfl⟩, hw'⟩
    subst w'
    cases b
    all_goals (go_wp2_with fail; go_ret; exact ⟨rfl, Grown.refl _⟩)

/-- The law at every input. -/
theorem law_any (a0 a1 a2 a3 : ByteArray) (w0 : a0.size ≤ maxLen) (w1 : a1.size ≤ maxLen) (w2 : a2.size ≤ maxLen) (w3 : a3.size ≤ maxLen) (w : World) :
    Calls Trym.prog 3 #[.string a0, .string a1, .string a2, .string a3] w fun e w' => e = .returned (.bool true) ∧ Grown w w' := by
  by_cases hl : (262144 : Int) < a0.size ∨ (262144 : Int) < a1.size ∨ (262144 : Int) < a2.size ∨ (262144 : Int) < a3.size
  · exact law_long a0 a1 a2 a3 w0 w1 w2 w3 hl w
  · cases hs : a0.toList.isEmpty
    · exact law_named a0 a1 a2 a3 hs (by omega) (by omega) (by omega) (by omega) w
    · obtain rfl : a0 = ⟨#[]⟩ := Go.WideShapes.bytes_inj (by rw [ByteArray.toList_eq] at hs; simpa using hs)
      exact law_nameless a1 a2 a3 (by omega) (by omega) (by omega) w

end Go.Proofs.Qxb6616167aMods
