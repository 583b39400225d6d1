/-
  The small functions on the roads: writtenAsItself (22), zzStandsForItself (11), zzLowerHex (10), and the three bounds on lengths zzBytes (8, 13, 20).
-/
import Derived.Test.Qxb6601267aProg
import Derived.Test.Qxb6601267aPlain
import Derived.WalkKit
import Derived.WalkSpells
import Derived.WalkLawsBesides
namespace Go.Proofs.Qxb6601267a
open Go.RowKit

set_option maxHeartbeats 400000 in
theorem written_any (c : Int) (w : World) :
    Calls Try.prog 22 #[.int .u8 c] w fun e w' => e = .returned (.bool (selfB c)) ∧ w = w' := by
  by_cases h : selfB c = true
  · have h' := selfB_true.1 h
    obtain ⟨h1, h2, h3, h4⟩ := h'
    have b3 : (c != 44) = true := by simpa using h3
    have b4 : (c != 92) = true := by simpa using h4
    rw [h]
    clear h h3 h4
    go_enter Try.func22, Try.ntmps22
    go_wp2
    go_ret
    exact ⟨rfl, rfl⟩
  · have h0 : selfB c = false := by simpa using h
    have h' := selfB_false.1 h0
    rw [h0]
    clear h h0
    by_cases h1 : 33 ≤ c
    · by_cases h2 : c ≤ 126
      · by_cases h3 : c = 44
        · subst h3
          go_enter Try.func22, Try.ntmps22
          go_wp2
          go_ret
          exact ⟨rfl, rfl⟩
        · by_cases h4 : c = 92
          · subst h4
            go_enter Try.func22, Try.ntmps22
            go_wp2
            go_ret
            exact ⟨rfl, rfl⟩
          · exact absurd ⟨h1, h2, h3, h4⟩ h'
      · clear h'
        go_enter Try.func22, Try.ntmps22
        go_wp2
        go_ret
        exact ⟨rfl, rfl⟩
    · clear h'
      go_enter Try.func22, Try.ntmps22
      go_wp2
      go_ret
      exact ⟨rfl, rfl⟩

set_option maxHeartbeats 400000 in
theorem stands_any (c : Int) (w : World) :
    Calls Try.prog 11 #[.int .u8 c] w fun e w' => e = .returned (.bool (selfB c)) ∧ w = w' := by
  by_cases h : selfB c = true
  · have h' := selfB_true.1 h
    obtain ⟨h1, h2, h3, h4⟩ := h'
    have b3 : (c != 44) = true := by simpa using h3
    have b4 : (c != 92) = true := by simpa using h4
    rw [h]
    clear h h3 h4
    go_enter Try.func11, Try.ntmps11
    go_wp2
    go_ret
    exact ⟨rfl, rfl⟩
  · have h0 : selfB c = false := by simpa using h
    have h' := selfB_false.1 h0
    rw [h0]
    clear h h0
    by_cases h1 : 33 ≤ c
    · by_cases h2 : c ≤ 126
      · by_cases h3 : c = 44
        · subst h3
          go_enter Try.func11, Try.ntmps11
          go_wp2
          go_ret
          exact ⟨rfl, rfl⟩
        · by_cases h4 : c = 92
          · subst h4
            go_enter Try.func11, Try.ntmps11
            go_wp2
            go_ret
            exact ⟨rfl, rfl⟩
          · exact absurd ⟨h1, h2, h3, h4⟩ h'
      · clear h'
        go_enter Try.func11, Try.ntmps11
        go_wp2
        go_ret
        exact ⟨rfl, rfl⟩
    · clear h'
      go_enter Try.func11, Try.ntmps11
      go_wp2
      go_ret
      exact ⟨rfl, rfl⟩

/-- What a lower-case hexadecimal digit stands for. -/
theorem hex_dec (c : Int) (w : World) (h1 : 48 ≤ c) (h2 : c ≤ 57) :
    Calls Try.prog 10 #[.int .u8 c] w fun e w' => e = .returned (.tuple #[.int .u8 (c - 48), .bool true]) ∧ w = w' := by
  go_enter Try.func10, Try.ntmps10
  go_wp2
  go_ret2
  exact ⟨rfl, rfl⟩

theorem hex_let (c : Int) (w : World) (h1 : 97 ≤ c) (h2 : c ≤ 102) :
    Calls Try.prog 10 #[.int .u8 c] w fun e w' => e = .returned (.tuple #[.int .u8 (c - 97 + 10), .bool true]) ∧ w = w' := by
  go_enter Try.func10, Try.ntmps10
  go_wp2
  go_ret2
  exact ⟨rfl, rfl⟩

/-- The bound on one string's length. -/
theorem bytes1_yes (s : ByteArray) (w : World) (hs : s.size ≤ 1048576) :
    Calls Try.prog 8 #[.string s] w fun e w' => e = .returned (.bool true) ∧ w = w' := by
  go_enter Try.func8, Try.ntmps8
  go_wp2
  go_ret
  exact ⟨rfl, rfl⟩

theorem bytes1_no (s : ByteArray) (w : World) (hs : 1048576 < s.size) :
    Calls Try.prog 8 #[.string s] w fun e w' => e = .returned (.bool false) ∧ w = w' := by
  go_enter Try.func8, Try.ntmps8
  go_wp2
  go_ret
  exact ⟨rfl, rfl⟩

/-- The bound on two strings' lengths: whatever it says, it says it and turns nothing; where it says yes both are short. -/
theorem bytes2_yes (s t : ByteArray) (w : World) (h : s.size + t.size ≤ 1048576) :
    Calls Try.prog 13 #[.string s, .string t] w fun e w' => e = .returned (.bool true) ∧ w = w' := by
  go_enter Try.func13, Try.ntmps13
  go_wp2
  go_ret
  exact ⟨rfl, rfl⟩

theorem bytes2_no (s t : ByteArray) (w : World) (hs : s.size ≤ maxLen) (ht : t.size ≤ maxLen) (h : 1048576 < s.size + t.size) :
    Calls Try.prog 13 #[.string s, .string t] w fun e w' => e = .returned (.bool false) ∧ w = w' := by
  unfold maxLen at hs ht
  by_cases h1 : s.size ≤ 1048576 <;> by_cases h2 : t.size ≤ 1048576
  all_goals
    go_enter Try.func13, Try.ntmps13
    go_wp2
    go_ret
    exact ⟨rfl, rfl⟩

theorem bytes3_yes (s t : ByteArray) (d : Int) (w : World) (h : s.size + t.size ≤ 1048576) :
    Calls Try.prog 20 #[.string s, .string t, .int .i64 d] w fun e w' => e = .returned (.bool true) ∧ w = w' := by
  go_enter Try.func20, Try.ntmps20
  go_wp2
  go_ret
  exact ⟨rfl, rfl⟩

theorem bytes3_no (s t : ByteArray) (d : Int) (w : World) (hs : s.size ≤ maxLen) (ht : t.size ≤ maxLen) (h : 1048576 < s.size + t.size) :
    Calls Try.prog 20 #[.string s, .string t, .int .i64 d] w fun e w' => e = .returned (.bool false) ∧ w = w' := by
  unfold maxLen at hs ht
  by_cases h1 : s.size ≤ 1048576 <;> by_cases h2 : t.size ≤ 1048576
  all_goals
    go_enter Try.func20, Try.ntmps20
    go_wp2
    go_ret
    exact ⟨rfl, rfl⟩

end Go.Proofs.Qxb6601267a
