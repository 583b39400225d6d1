/-
  zzCompare (function 21) answers the byte order of two texts; it reads alone.
-/
import Derived.Test.Qxb6601267aLeaf
import Derived.Test.Qxb6601267aKeyPlain
import Derived.Deep.QuietTactic
import Derived.BigQuiet
import Derived.Lib.Strings
namespace Go.Proofs.Qxb6601267a
open Go.RowKit
set_option linter.unusedVariables false

/-- Behind k bytes in which the two agree. -/
theorem cmpL_take (a b : List UInt8) (k : Nat) (h : a.take k = b.take k) : cmpL a b = cmpL (a.drop k) (b.drop k) := by
  induction k generalizing a b with
  | zero => rfl
  | succ k ih =>
    cases a with
    | nil =>
      cases b with
      | nil => rfl
      | cons d b => simp at h
    | cons c a =>
      cases b with
      | nil => simp at h
      | cons d b =>
        simp only [List.take_succ_cons, List.cons.injEq] at h
        rw [h.1]
        simp only [cmpL, Nat.lt_irrefl, if_false, List.drop_succ_cons]
        exact ih a b h.2

theorem drop_at (s : ByteArray) (k : Nat) (h : k < s.size) : s.data.toList.drop k = s[k] :: s.data.toList.drop (k + 1) := by
  rw [List.drop_eq_getElem_cons (by simpa using h)]; rfl

theorem take_at (s : ByteArray) (k : Nat) (h : k < s.size) : s.data.toList.take (k + 1) = s.data.toList.take k ++ [s[k]] := by
  rw [List.take_succ_eq_append_getElem (by simpa using h)]; rfl

theorem cmp_lt {a b : ByteArray} {k : Nat} (h1 : k < a.size) (h2 : k < b.size) (h : a.data.toList.take k = b.data.toList.take k) (hc : (a[k].toNat : Int) < (b[k].toNat : Int)) :
    cmpL a.data.toList b.data.toList = -1 := by
  rw [cmpL_take _ _ k h, drop_at a k h1, drop_at b k h2]
  simp only [cmpL]
  rw [if_pos (by omega)]

theorem cmp_gt {a b : ByteArray} {k : Nat} (h1 : k < a.size) (h2 : k < b.size) (h : a.data.toList.take k = b.data.toList.take k) (hc : (b[k].toNat : Int) < (a[k].toNat : Int)) :
    cmpL a.data.toList b.data.toList = 1 := by
  rw [cmpL_take _ _ k h, drop_at a k h1, drop_at b k h2]
  simp only [cmpL]
  rw [if_neg (by omega), if_pos (by omega)]

theorem cmp_eq {a b : ByteArray} {k : Nat} (h1 : k < a.size) (h2 : k < b.size) (h : a.data.toList.take k = b.data.toList.take k) (hc : ¬ (a[k].toNat : Int) < (b[k].toNat : Int)) (hd : ¬ (b[k].toNat : Int) < (a[k].toNat : Int)) :
    a.data.toList.take (k + 1) = b.data.toList.take (k + 1) := by
  rw [take_at a k h1, take_at b k h2, h]
  have : a[k] = b[k] := UInt8.toNat_inj.1 (by omega)
  rw [this]

theorem drop_end (s : ByteArray) (k : Nat) (h : s.size ≤ k) : s.data.toList.drop k = [] := List.drop_eq_nil_of_le (by simpa using h)

theorem cmp_end_lt {a b : ByteArray} {k : Nat} (h : a.data.toList.take k = b.data.toList.take k) (h1 : a.size ≤ k) (h2 : k < b.size) : cmpL a.data.toList b.data.toList = -1 := by
  rw [cmpL_take _ _ k h, drop_end a k h1, drop_at b k h2]
  simp [cmpL]

theorem cmp_end_gt {a b : ByteArray} {k : Nat} (h : a.data.toList.take k = b.data.toList.take k) (h1 : k < a.size) (h2 : b.size ≤ k) : cmpL a.data.toList b.data.toList = 1 := by
  rw [cmpL_take _ _ k h, drop_end b k h2, drop_at a k h1]
  simp [cmpL]

theorem cmp_end_eq {a b : ByteArray} {k : Nat} (h : a.data.toList.take k = b.data.toList.take k) (h1 : a.size ≤ k) (h2 : b.size ≤ k) : cmpL a.data.toList b.data.toList = 0 := by
  rw [cmpL_take _ _ k h, drop_end a k h1, drop_end b k h2]
  simp [cmpL]


set_option maxHeartbeats 1000000 in
theorem compare_lt (a b : ByteArray) (w : World) (ha : a.size ≤ 1048576) (hb : b.size ≤ 1048576) (hab : a.size < b.size) :
    Calls Try.prog 21 #[.string a, .string b] w fun e w' => e = .returned (.int .i64 (cmpL a.data.toList b.data.toList)) ∧ ∃ n, w' = w.drewN n := by
  obtain ⟨C, hC⟩ : ∃ C, C = cmpL a.data.toList b.data.toList := ⟨_, rfl⟩
  rw [← hC]
  have HC : Hid (C = cmpL a.data.toList b.data.toList) := hC
  clear hC
  have hba : ¬ b.size < a.size := by omega
  go_enter Try.func21, Try.ntmps21
  go_wp2
  go_loopw [6] (fun i wr => ∃ k : Nat, k ≤ a.size ∧ k ≤ b.size ∧ i = .int .i64 k ∧ Hid (a.data.toList.take k = b.data.toList.take k) ∧ ∃ n, wr = w.drewN n) (fun i _ => a.size - (intOf i).toNat)
  case atStart => exact ⟨0, Nat.zero_le _, Nat.zero_le _, rfl, rfl, 0, rfl⟩
  case round =>
    obtain ⟨k, hka, hkb, rfl, HE, n, rfl⟩ := hrel
    by_cases hlt : k < a.size ∧ k < b.size
    · obtain ⟨h1, h2⟩ := hlt
      by_cases hc : (a[k].toNat : Int) < (b[k].toNat : Int)
      · have HR : Hid (cmpL a.data.toList b.data.toList = -1) := cmp_lt h1 h2 HE.out hc
        go_wp2
        go_quiet (fail)
        go_wp2
        go_ret
        exact ⟨by rw [HC.out, HR.out]; rfl, by simp only [World.drewN_drewN]; exact ⟨_, rfl⟩⟩
      · by_cases hd : (b[k].toNat : Int) < (a[k].toNat : Int)
        · have HR : Hid (cmpL a.data.toList b.data.toList = 1) := cmp_gt h1 h2 HE.out hd
          go_wp2
          go_quiet (fail)
          go_wp2
          go_quiet (fail)
          go_wp2
          go_ret
          exact ⟨by rw [HC.out, HR.out]; rfl, by simp only [World.drewN_drewN]; exact ⟨_, rfl⟩⟩
        · have HR : Hid (a.data.toList.take (k + 1) = b.data.toList.take (k + 1)) := cmp_eq h1 h2 HE.out hc hd
          go_wp2
          go_quiet (fail)
          go_wp2
          go_quiet (fail)
          go_wp2
          go_roundw
          case rel => exact ⟨k + 1, by omega, by omega, by go_num, HR, _, rfl⟩
          case measure => simp [intOf]; omega
    · have HR : Hid (cmpL a.data.toList b.data.toList = -1) := cmp_end_lt HE.out (by omega) (by omega)
      go_wp2
      go_ret
      exact ⟨by rw [HC.out, HR.out]; rfl, _, rfl⟩

set_option maxHeartbeats 1000000 in
theorem compare_gt (a b : ByteArray) (w : World) (ha : a.size ≤ 1048576) (hb : b.size ≤ 1048576) (hab : b.size < a.size) :
    Calls Try.prog 21 #[.string a, .string b] w fun e w' => e = .returned (.int .i64 (cmpL a.data.toList b.data.toList)) ∧ ∃ n, w' = w.drewN n := by
  obtain ⟨C, hC⟩ : ∃ C, C = cmpL a.data.toList b.data.toList := ⟨_, rfl⟩
  rw [← hC]
  have HC : Hid (C = cmpL a.data.toList b.data.toList) := hC
  clear hC
  go_enter Try.func21, Try.ntmps21
  go_wp2
  go_loopw [6] (fun i wr => ∃ k : Nat, k ≤ a.size ∧ k ≤ b.size ∧ i = .int .i64 k ∧ Hid (a.data.toList.take k = b.data.toList.take k) ∧ ∃ n, wr = w.drewN n) (fun i _ => a.size - (intOf i).toNat)
  case atStart => exact ⟨0, Nat.zero_le _, Nat.zero_le _, rfl, rfl, 0, rfl⟩
  case round =>
    obtain ⟨k, hka, hkb, rfl, HE, n, rfl⟩ := hrel
    by_cases hlt : k < a.size ∧ k < b.size
    · obtain ⟨h1, h2⟩ := hlt
      by_cases hc : (a[k].toNat : Int) < (b[k].toNat : Int)
      · have HR : Hid (cmpL a.data.toList b.data.toList = -1) := cmp_lt h1 h2 HE.out hc
        go_wp2
        go_quiet (fail)
        go_wp2
        go_ret
        exact ⟨by rw [HC.out, HR.out]; rfl, by simp only [World.drewN_drewN]; exact ⟨_, rfl⟩⟩
      · by_cases hd : (b[k].toNat : Int) < (a[k].toNat : Int)
        · have HR : Hid (cmpL a.data.toList b.data.toList = 1) := cmp_gt h1 h2 HE.out hd
          go_wp2
          go_quiet (fail)
          go_wp2
          go_quiet (fail)
          go_wp2
          go_ret
          exact ⟨by rw [HC.out, HR.out]; rfl, by simp only [World.drewN_drewN]; exact ⟨_, rfl⟩⟩
        · have HR : Hid (a.data.toList.take (k + 1) = b.data.toList.take (k + 1)) := cmp_eq h1 h2 HE.out hc hd
          go_wp2
          go_quiet (fail)
          go_wp2
          go_quiet (fail)
          go_wp2
          go_roundw
          case rel => exact ⟨k + 1, by omega, by omega, by go_num, HR, _, rfl⟩
          case measure => simp [intOf]; omega
    · have HR : Hid (cmpL a.data.toList b.data.toList = 1) := cmp_end_gt HE.out (by omega) (by omega)
      go_wp2
      go_ret
      exact ⟨by rw [HC.out, HR.out]; rfl, _, rfl⟩

set_option maxHeartbeats 1000000 in
theorem compare_eq (a b : ByteArray) (w : World) (ha : a.size ≤ 1048576) (hb : b.size ≤ 1048576) (hab : ¬ a.size < b.size) (hba : ¬ b.size < a.size) :
    Calls Try.prog 21 #[.string a, .string b] w fun e w' => e = .returned (.int .i64 (cmpL a.data.toList b.data.toList)) ∧ ∃ n, w' = w.drewN n := by
  obtain ⟨C, hC⟩ : ∃ C, C = cmpL a.data.toList b.data.toList := ⟨_, rfl⟩
  rw [← hC]
  have HC : Hid (C = cmpL a.data.toList b.data.toList) := hC
  clear hC
  go_enter Try.func21, Try.ntmps21
  go_wp2
  go_loopw [6] (fun i wr => ∃ k : Nat, k ≤ a.size ∧ k ≤ b.size ∧ i = .int .i64 k ∧ Hid (a.data.toList.take k = b.data.toList.take k) ∧ ∃ n, wr = w.drewN n) (fun i _ => a.size - (intOf i).toNat)
  case atStart => exact ⟨0, Nat.zero_le _, Nat.zero_le _, rfl, rfl, 0, rfl⟩
  case round =>
    obtain ⟨k, hka, hkb, rfl, HE, n, rfl⟩ := hrel
    by_cases hlt : k < a.size ∧ k < b.size
    · obtain ⟨h1, h2⟩ := hlt
      by_cases hc : (a[k].toNat : Int) < (b[k].toNat : Int)
      · have HR : Hid (cmpL a.data.toList b.data.toList = -1) := cmp_lt h1 h2 HE.out hc
        go_wp2
        go_quiet (fail)
        go_wp2
        go_ret
        exact ⟨by rw [HC.out, HR.out]; rfl, by simp only [World.drewN_drewN]; exact ⟨_, rfl⟩⟩
      · by_cases hd : (b[k].toNat : Int) < (a[k].toNat : Int)
        · have HR : Hid (cmpL a.data.toList b.data.toList = 1) := cmp_gt h1 h2 HE.out hd
          go_wp2
          go_quiet (fail)
          go_wp2
          go_quiet (fail)
          go_wp2
          go_ret
          exact ⟨by rw [HC.out, HR.out]; rfl, by simp only [World.drewN_drewN]; exact ⟨_, rfl⟩⟩
        · have HR : Hid (a.data.toList.take (k + 1) = b.data.toList.take (k + 1)) := cmp_eq h1 h2 HE.out hc hd
          go_wp2
          go_quiet (fail)
          go_wp2
          go_quiet (fail)
          go_wp2
          go_roundw
          case rel => exact ⟨k + 1, by omega, by omega, by go_num, HR, _, rfl⟩
          case measure => simp [intOf]; omega
    · have HR : Hid (cmpL a.data.toList b.data.toList = 0) := cmp_end_eq HE.out (by omega) (by omega)
      go_wp2
      go_ret
      exact ⟨by rw [HC.out, HR.out]; rfl, _, rfl⟩

/-- zzCompare answers the byte order; it reads alone. -/
theorem compare_any (a b : ByteArray) (w : World) (ha : a.size ≤ 1048576) (hb : b.size ≤ 1048576) :
    Calls Try.prog 21 #[.string a, .string b] w fun e w' => e = .returned (.int .i64 (cmpL a.data.toList b.data.toList)) ∧ ∃ n, w' = w.drewN n := by
  by_cases h1 : a.size < b.size
  · exact compare_lt a b w ha hb h1
  · by_cases h2 : b.size < a.size
    · exact compare_gt a b w ha hb h2
    · exact compare_eq a b w ha hb h1 h2

end Go.Proofs.Qxb6601267a
