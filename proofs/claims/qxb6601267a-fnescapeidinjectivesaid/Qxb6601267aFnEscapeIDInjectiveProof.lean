/-
  'Rows.FnEscapeIDInjectiveSaid': two IDs are written alike exactly when they are the same ID. The frame is the shell's; 'Below' stands in the place of 'Grown' (EscapeID makes memory by append), and 'post' is given limb by limb.
-/
import Derived.Test.Qxb6601267aRows
import Derived.Test.Qxb6601267aEsc
import Derived.WalkKit
import Derived.ProofKit
import Derived.OpenShut
import Derived.ShutString
import Derived.ChangeOld
import Derived.Below
namespace Go.Proofs.Qxb6601267a.fnEscapeIDInjective
open Go.ChangeShapes Go.WideShapes Go.ChangeAt Go.RowKit
open Go.ChangeMaps (open_string shut_string)
set_option linter.unusedVariables false      -- a walk need not use every 'w<i>' (that an integer argument fits its kind)

theorem own : ownKnob Try.prog.godebug = none := by kernel_rfl

/-- What the law compares, in the walk's own spelling, is true. -/
theorem inj_bool (s t : ByteArray) : (((escS s).toList == (escS t).toList) == (s.toList == t.toList)) = true := by
  have h : ∀ a b : ByteArray, (a.toList == b.toList) = true ↔ a = b := fun a b => by
    rw [beq_iff_eq, ByteArray.toList_eq, ByteArray.toList_eq]
    constructor
    · intro h
      have := Array.toList_inj.1 h
      cases a; cases b; simp_all
    · intro h; rw [h]
  have h1 := h (escS s) (escS t)
  have h2 := h s t
  rw [escS_inj, ← h2] at h1
  rw [beq_iff_eq, Bool.eq_iff_iff]
  exact h1

set_option maxHeartbeats 400000 in
theorem walk (a0 : ByteArray) (a1 : ByteArray) (w0 : a0.size ≤ maxLen) (w1 : a1.size ≤ maxLen) (w : World) :
    Calls Try.prog 5 #[.string a0, .string a1] w fun e w' => e = .returned (.bool true) ∧ Below w.heap.size w w' := by
  by_cases hsum : a0.size + a1.size ≤ 1048576
  · by_cases h0 : a0.size ≤ 524288
    · by_cases h1 : a1.size ≤ 524288
      · have HI : Hid ((((escS a0).toList == (escS a1).toList) == (a0.toList == a1.toList)) = true) := inj_bool a0 a1
        go_enter Try.func5, Try.ntmps5
        go_wp2_with (go_at_call 13; refine (bytes2_yes _ _ _ hsum).mono ?_; rintro e w' ⟨rfl, rfl⟩)
        refine (escape_any a0 _ (by omega)).mono ?_
        rintro e wa ⟨rfl, ha⟩
        go_wp2_with fail
        refine (escape_any a1 _ (by omega)).mono ?_
        rintro e wb ⟨rfl, hb⟩
        go_wp2_with fail
        rw [HI.out]
        go_ret
        exact ⟨rfl, ha.trans (hb.mono ha.size)⟩
      · go_enter Try.func5, Try.ntmps5
        go_wp2_with (go_at_call 13; refine (bytes2_yes _ _ _ hsum).mono ?_; rintro e w' ⟨rfl, rfl⟩)
        go_ret
        exact ⟨rfl, Below.refl _ _⟩
    · go_enter Try.func5, Try.ntmps5
      go_wp2_with (go_at_call 13; refine (bytes2_yes _ _ _ hsum).mono ?_; rintro e w' ⟨rfl, rfl⟩)
      go_ret
      exact ⟨rfl, Below.refl _ _⟩
  · go_enter Try.func5, Try.ntmps5
    go_wp2_with (go_at_call 13; refine (bytes2_no _ _ _ w0 w1 (by omega)).mono ?_; rintro e w' ⟨rfl, rfl⟩)
    go_ret
    exact ⟨rfl, Below.refl _ _⟩

/-! ### THE ROW's STEP: WRITTEN OUT: LEAVE IT -/
set_option maxRecDepth 100000 in
theorem lifted (os : Os) (started : os.Started) (H : Type) (enc : TypeId × Value → H) :
    ReturnsInHanded {} Try.checked os 5 .any (Rows.fnEscapeIDInjectiveSpec.pre6 enc Try.prog Try.f5 Rows.fnEscapeIDInjectiveRow.domain false) (Rows.fnEscapeIDInjectiveSpec.post enc Try.prog Try.f5 false true false false) := by
  refine returnsInHanded_of_change (C := Try.checked) own started (by kernel_rfl) Try.func5
    (ChangeSpec.witness6 (enc := enc) (C := Try.checked) false ⟨#[], #[.string ByteArray.empty, .string ByteArray.empty], []⟩ 8 (by kernel_rfl) (by kernel_rfl) (by kernel_rfl) (by kernel_rfl)) ?_
  intro W base args ds gs before hval0 hW hcnd _
  have hval : ∀ (j : Nat) t v, Try.f5.params[j]? = some t → args[j]? = some v → Value.okWide Try.prog W .any base t v := hval0
  have hW' := hW
  obtain ⟨p, q, hA0, hV, rfl, hfz, hnd⟩ := hW
  have hA : DataW.TrodAll enc Try.prog W 0 (fun _ => true) true Try.f5.params.toList args.toList ds p := hA0
  rw [Try.params5] at hA hval
  obtain ⟨v0, vs0, d0, ds0, p0, q0, hargs, rfl, rfl, h0, r0⟩ := trodAll_cons hA
  obtain ⟨v1, vs1, d1, ds1, p1, q1, rfl, rfl, rfl, h1, r1⟩ := trodAll_cons r0
  obtain ⟨rfl, rfl, rfl⟩ := trodAll_nil r1
  obtain rfl : args = #[v0, v1] := by cases args; simp_all
  obtain ⟨rfl, rfl⟩ := trodVars_none hV
  obtain ⟨a0, rfl, rfl, rfl, w0⟩ := open_string Try.underlying9 (hval 0 9 v0 rfl rfl) h0
  obtain ⟨a1, rfl, rfl, rfl, w1⟩ := open_string Try.underlying9 (hval 1 9 v1 rfl rfl) h1
  clear hA0 hval0
  simp only [List.append_nil] at hW'
  refine (walk a0 a1 w0 w1 W).mono fun e W' ⟨he, bel⟩ => ?_
  subst he
  exact ⟨_, rfl, _, _, _, [], _, [], hW', trodAll_mk1 (shut_bool Try.underlying4 _), (trodAll_cons_mk (shut_string Try.underlying9 w0) (trodAll_cons_mk (shut_string Try.underlying9 w1) trodAll_mk0)), rfl, bel.frame _, fun h => by cases h⟩

theorem over : Rows.fnEscapeIDInjectiveRow.holds Try.pinned (OpenSpec.ofChange Rows.fnEscapeIDInjectiveSpec) :=
  OpenClaim.holds_of_wide 5 Try.f5 rfl rfl rfl rfl rfl rfl rfl ⟨rfl, rfl, rfl, rfl, rfl⟩ rfl rfl rfl rfl rfl (by kernel_rfl) Try.func5 (by kernel_rfl)
    (of_decide_eq_true (by kernel_rfl)) (by unfold Func.isWrapper; first | (rw [if_pos (by decide +kernel)]; kernel_rfl) | (rw [if_neg (by decide +kernel)]; exact ⟨rfl, rfl⟩))
    (fun os started H enc _ => lifted os started H enc)

/-- ████ THE STATEMENT ████ -/
theorem proved : Rows.FnEscapeIDInjectiveSaid :=
  over
end Go.Proofs.Qxb6601267a.fnEscapeIDInjective
