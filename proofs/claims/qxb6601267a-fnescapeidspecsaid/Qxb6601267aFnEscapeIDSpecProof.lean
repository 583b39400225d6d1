/-
  'Rows.FnEscapeIDSpecSaid': what EscapeID writes, read back by the law's own decoder. The frame is the shell's; 'Below' stands in the place of 'Grown' (EscapeID makes memory by append), and 'post' is given limb by limb.
-/
import Derived.Test.Qxb6601267aRows
import Derived.Test.Qxb6601267aEsc
import Derived.Laws.BitsAllLaws
import Derived.WalkKit
import Derived.ProofKit
import Derived.OpenShut
import Derived.ShutString
import Derived.ChangeOld
import Derived.Below
namespace Go.Proofs.Qxb6601267a.fnEscapeIDSpec
open Go.ChangeShapes Go.WideShapes Go.ChangeAt Go.RowKit
open Go.ChangeMaps (open_string shut_string)
set_option linter.unusedVariables false      -- a walk need not use every 'w<i>' (that an integer argument fits its kind)

theorem own : ownKnob Try.prog.godebug = none := by kernel_rfl

/-- Where the writing of byte k lies in the whole. -/
theorem escS_at (s : ByteArray) (k : Nat) (hk : k < s.size) : ∃ r, (escS s).data.toList = escTo s k ++ (escB s[k] ++ r) := by
  refine ⟨esc (s.data.toList.drop (k + 1)), ?_⟩
  have h1 : s.data.toList = s.data.toList.take k ++ (s[k] :: s.data.toList.drop (k + 1)) := by
    have : s.data.toList.drop k = s[k] :: s.data.toList.drop (k + 1) := by
      rw [List.drop_eq_getElem_cons (by simpa using hk)]; rfl
    rw [← this, List.take_append_drop]
  show esc s.data.toList = _
  conv => lhs; rw [h1, esc_append]
  rfl

theorem escS_size (s : ByteArray) : (escS s).size = escN s s.size := by
  unfold escN
  rw [escTo_all]
  show (esc s.data.toList).toArray.size = _
  simp

theorem escN_lt (s : ByteArray) (k : Nat) (hk : k < s.size) : escN s k + (escB s[k]).length ≤ (escS s).size := by
  obtain ⟨r, hr⟩ := escS_at s k hk
  have : (escS s).size = (escS s).data.toList.length := by simp
  rw [this, hr]
  simp [escN]

theorem escS_get (s : ByteArray) (k j : Nat) (hk : k < s.size) (hj : j < (escB s[k]).length) (h : escN s k + j < (escS s).size) :
    (escS s)[escN s k + j] = (escB s[k])[j] := by
  obtain ⟨r, hr⟩ := escS_at s k hk
  have h1 : (escS s)[escN s k + j]'h = (escS s).data.toList[escN s k + j]'(by simpa using h) := rfl
  rw [h1]
  simp only [hr]
  unfold escN
  rw [List.getElem_append_right (by omega)]
  rw [List.getElem_append_left (by omega)]
  simp

/-- The two halves of a byte, put together. -/
theorem or_back (n : Nat) (h : n < 256) : bits .or .u8 ((n : Int) / 16 * 16) ((n : Int) % 16) = (n : Int) := by
  have h1 : (n : Int) / 16 * 16 = ((n / 16 * 16 : Nat) : Int) := by omega
  have h2 : (n : Int) % 16 = ((n % 16 : Nat) : Int) := by omega
  rw [h1, h2, u8_or_nat _ _ (by omega) (by omega)]
  have : n / 16 * 16 ||| n % 16 = n := by
    have e : n / 16 * 16 = (n / 16) <<< 4 := by rw [Nat.shiftLeft_eq]
    rw [e, ← Nat.shiftLeft_add_eq_or_of_lt (by omega), Nat.shiftLeft_eq]
    omega
  rw [this]

/-- zzLowerHex at a digit. -/
theorem hex_any (n : Nat) (hn : n < 16) (w : World) :
    Calls Try.prog 10 #[.int .u8 ((hexd n).toNat : Int)] w fun e w' => e = .returned (.tuple #[.int .u8 (n : Int), .bool true]) ∧ w = w' := by
  have h := hexd_toNat n hn
  by_cases h10 : n < 10
  · rw [if_pos h10] at h
    refine (hex_dec ((hexd n).toNat : Int) w (by omega) (by omega)).mono ?_
    rintro e w' ⟨rfl, rfl⟩
    refine ⟨?_, rfl⟩
    rw [show ((hexd n).toNat : Int) - 48 = (n : Int) from by omega]
  · rw [if_neg h10] at h
    refine (hex_let ((hexd n).toNat : Int) w (by omega) (by omega)).mono ?_
    rintro e w' ⟨rfl, rfl⟩
    refine ⟨?_, rfl⟩
    rw [show ((hexd n).toNat : Int) - 97 + 10 = (n : Int) from by omega]

set_option maxRecDepth 100000 in
set_option maxHeartbeats 1000000 in
theorem walk (a0 : ByteArray) (w0 : a0.size ≤ maxLen) (w : World) :
    Calls Try.prog 3 #[.string a0] w fun e w' => e = .returned (.bool true) ∧ Below w.heap.size w w' := by
  by_cases hs : a0.size ≤ 1048576
  · go_enter Try.func3, Try.ntmps3
    go_wp2_with (go_at_call 8; refine (bytes1_yes _ _ hs).mono ?_; rintro e w' ⟨rfl, rfl⟩)
    refine (escape_any a0 _ (by omega)).mono ?_
    rintro e wa ⟨rfl, ha⟩
    have hN : (escS a0).size ≤ 4 * a0.size := by rw [escS_size]; exact escN_le a0 a0.size
    go_wp2_with fail
    go_loop [4, 5] (fun p i => ∃ k : Nat, k ≤ a0.size ∧ p = .int .i64 k ∧ i = .int .i64 (escN a0 k)) (fun p _ => a0.size - (intOf p).toNat)
    case atStart => exact ⟨0, Nat.zero_le _, rfl, by simp [escN, escTo_zero]⟩
    case round =>
      obtain ⟨k, hk, rfl, rfl⟩ := hrel
      by_cases hlt : k < a0.size
      · have hL := escN_lt a0 k hlt
        cases hself : selfB (a0[k].toNat : Int)
        · have hlen : (escB a0[k]).length = 4 := by rw [escB_esc hself]; rfl
          have hb : escN a0 k + 3 < (escS a0).size := by omega
          have g0 : (escS a0)[escN a0 k] = 92 := by
            have := escS_get a0 k 0 hlt (by omega) (by omega)
            simpa [escB_esc hself] using this
          have g1 : (escS a0)[escN a0 k + 1] = 120 := by
            have := escS_get a0 k 1 hlt (by omega) (by omega)
            simpa [escB_esc hself] using this
          have g2 : (escS a0)[escN a0 k + 2] = hexd (a0[k].toNat / 16) := by
            have := escS_get a0 k 2 hlt (by omega) (by omega)
            simpa [escB_esc hself] using this
          have g3 : (escS a0)[escN a0 k + 3] = hexd (a0[k].toNat % 16) := by
            have := escS_get a0 k 3 hlt (by omega) (by omega)
            simpa [escB_esc hself] using this
          have hc := a0[k].toNat_lt
          have hc1 : a0[k].toNat / 16 < 16 := by omega
          have hc2 : a0[k].toNat % 16 < 16 := by omega
          have hor : bits .or .u8 ((a0[k].toNat : Int) / 16 * 16) ((a0[k].toNat : Int) % 16) = (a0[k].toNat : Int) := or_back _ hc
          have HE : Hid (escN a0 (k + 1) = escN a0 k + 4) := escN_esc a0 k hlt hself
          clear hlen hL hc
          go_wp2_with fail
          refine (hex_any (a0[k].toNat / 16) hc1 _).mono ?_
          rintro e w1 ⟨rfl, rfl⟩
          go_wp2_with fail
          refine (hex_any (a0[k].toNat % 16) hc2 _).mono ?_
          rintro e w1 ⟨rfl, rfl⟩
          go_wp2_with fail
          refine (stands_any _ _).mono ?_
          rintro e w1 ⟨rfl, rfl⟩
          go_wp2_with fail
          go_round
          case rel => exact ⟨k + 1, by omega, by go_num, by rw [HE.out]; go_num⟩
          case measure => simp [intOf]; omega
        · have hlen : (escB a0[k]).length = 1 := by rw [escB_self hself]; rfl
          have hb : escN a0 k < (escS a0).size := by omega
          have hg : (escS a0)[escN a0 k] = a0[k] := by
            have := escS_get a0 k 0 hlt (by omega) (by omega)
            simpa [escB_self hself] using this
          have HE : Hid (escN a0 (k + 1) = escN a0 k + 1) := escN_self a0 k hlt hself
          obtain ⟨c, hc⟩ : ∃ c, a0[k] = c := ⟨_, rfl⟩
          rw [hc] at hg hself
          have h92 : ((c.toNat : Int) == 92) = false := by have := selfB_true.1 hself; simp; omega
          clear hlen hL
          go_wp2_with (go_at_call 11; refine (stands_any _ _).mono ?_; rintro e w' ⟨rfl, rfl⟩)
          go_round
          case rel => exact ⟨k + 1, by omega, by go_num, by rw [HE.out]; go_num⟩
          case measure => simp [intOf]; omega
      · have hk' : k = a0.size := by omega
        subst hk'
        have HS : Hid ((escS a0).size = escN a0 a0.size) := escS_size a0
        have hge : (escS a0).size ≤ escN a0 a0.size := by rw [HS.out]; exact Nat.le_refl _
        go_wp2
        go_ret
        exact ⟨by simp, ha⟩
  · go_enter Try.func3, Try.ntmps3
    go_wp2_with (go_at_call 8; refine (bytes1_no _ _ (by omega)).mono ?_; rintro e w' ⟨rfl, rfl⟩)
    go_ret
    exact ⟨rfl, Below.refl _ _⟩

/-! ### THE ROW's STEP: WRITTEN OUT: LEAVE IT -/
set_option maxRecDepth 100000 in
theorem lifted (os : Os) (started : os.Started) (H : Type) (enc : TypeId × Value → H) :
    ReturnsInHanded {} Try.checked os 3 .any (Rows.fnEscapeIDSpecSpec.pre6 enc Try.prog Try.f3 Rows.fnEscapeIDSpecRow.domain false) (Rows.fnEscapeIDSpecSpec.post enc Try.prog Try.f3 false true false false) := by
  refine returnsInHanded_of_change (C := Try.checked) own started (by kernel_rfl) Try.func3
    (ChangeSpec.witness6 (enc := enc) (C := Try.checked) false ⟨#[], #[.string ByteArray.empty], []⟩ 8 (by kernel_rfl) (by kernel_rfl) (by kernel_rfl) (by kernel_rfl)) ?_
  intro W base args ds gs before hval0 hW hcnd _
  have hval : ∀ (j : Nat) t v, Try.f3.params[j]? = some t → args[j]? = some v → Value.okWide Try.prog W .any base t v := hval0
  have hW' := hW
  obtain ⟨p, q, hA0, hV, rfl, hfz, hnd⟩ := hW
  have hA : DataW.TrodAll enc Try.prog W 0 (fun _ => true) true Try.f3.params.toList args.toList ds p := hA0
  rw [Try.params3] at hA hval
  obtain ⟨v0, vs0, d0, ds0, p0, q0, hargs, rfl, rfl, h0, r0⟩ := trodAll_cons hA
  obtain ⟨rfl, rfl, rfl⟩ := trodAll_nil r0
  obtain rfl : args = #[v0] := by cases args; simp_all
  obtain ⟨rfl, rfl⟩ := trodVars_none hV
  obtain ⟨a0, rfl, rfl, rfl, w0⟩ := open_string Try.underlying9 (hval 0 9 v0 rfl rfl) h0
  clear hA0 hval0
  simp only [List.append_nil] at hW'
  refine (walk a0 w0 W).mono fun e W' ⟨he, bel⟩ => ?_
  subst he
  exact ⟨_, rfl, _, _, _, [], _, [], hW', trodAll_mk1 (shut_bool Try.underlying4 _), (trodAll_cons_mk (shut_string Try.underlying9 w0) trodAll_mk0), rfl, bel.frame _, fun h => by cases h⟩

theorem over : Rows.fnEscapeIDSpecRow.holds Try.pinned (OpenSpec.ofChange Rows.fnEscapeIDSpecSpec) :=
  OpenClaim.holds_of_wide 3 Try.f3 rfl rfl rfl rfl rfl rfl rfl ⟨rfl, rfl, rfl, rfl, rfl⟩ rfl rfl rfl rfl rfl (by kernel_rfl) Try.func3 (by kernel_rfl)
    (of_decide_eq_true (by kernel_rfl)) (by unfold Func.isWrapper; first | (rw [if_pos (by decide +kernel)]; kernel_rfl) | (rw [if_neg (by decide +kernel)]; exact ⟨rfl, rfl⟩))
    (fun os started H enc _ => lifted os started H enc)

/-- ████ THE STATEMENT ████ -/
theorem proved : Rows.FnEscapeIDSpecSaid :=
  over
end Go.Proofs.Qxb6601267a.fnEscapeIDSpec
