/-
  FnKeyFromOrdersAsBytes (function 7) where none of its early answers is given: it returns true.
-/
import Derived.Test.Qxb6601267aZzKey
import Derived.Test.Qxb6601267aCmp
namespace Go.Proofs.Qxb6601267a
open Go.RowKit
set_option linter.unusedVariables false

theorem bytes_ext {a b : ByteArray} (h : a.data.toList = b.data.toList) : a = b := by
  have := Array.toList_inj.1 h
  cases a; cases b; simp_all

theorem cat_left (a b : ByteArray) : (a ++ b).extract 0 a.size = a := by
  apply bytes_ext
  rw [Lib.extract_data]
  simp

theorem cat_right (a b : ByteArray) : (a ++ b).extract a.size (a.size + b.size) = b := by
  apply bytes_ext
  rw [Lib.extract_data]
  simp
  exact List.take_of_length_le (by simp)

theorem lay_a (w : World) (cs : Array Value) (T : TypeId) (o1 o2 o3 : Obj) (i : Nat) : ((((w.alloc (.cells cs T)).alloc o1).alloc o2).alloc o3).cell? ⟨w.heap.size, i, none⟩ = cs[i]? :=
  (cell_three (by simp) o1 o2 o3).trans (World.cell?_alloc_at cs T w.heap.size i rfl)
theorem lay_b (w : World) (o0 : Obj) (cs : Array Value) (T : TypeId) (o2 o3 : Obj) (i : Nat) : ((((w.alloc o0).alloc (.cells cs T)).alloc o2).alloc o3).cell? ⟨w.heap.size + 1, i, none⟩ = cs[i]? :=
  (cell_old (by simp) o3).trans ((cell_old (by simp) o2).trans (World.cell?_alloc_at cs T (w.heap.size + 1) i (by simp)))
theorem lay_c (w : World) (o0 o1 : Obj) (cs : Array Value) (T : TypeId) (o3 : Obj) (i : Nat) : ((((w.alloc o0).alloc o1).alloc (.cells cs T)).alloc o3).cell? ⟨w.heap.size + 1 + 1, i, none⟩ = cs[i]? :=
  (cell_old (by simp) o3).trans (World.cell?_alloc_at cs T (w.heap.size + 1 + 1) i (by simp))
theorem lay_d (w : World) (o0 o1 o2 : Obj) (cs : Array Value) (T : TypeId) (i : Nat) : ((((w.alloc o0).alloc o1).alloc o2).alloc (.cells cs T)).cell? ⟨w.heap.size + 1 + 1 + 1, i, none⟩ = cs[i]? :=
  World.cell?_alloc_at cs T (w.heap.size + 1 + 1 + 1) i (by simp)

theorem key_cut (s : ByteArray) (d : Nat) : keyOf s d = (key 7 (s.extract d s.size).data.toList : Int) := by
  unfold keyOf
  rw [Lib.extract_data, List.take_of_length_le (by simp)]

theorem seven_iff (x y : ByteArray) : ((x.extract 0 7).toList == (y.extract 0 7).toList) = true ↔ x.data.toList.take 7 = y.data.toList.take 7 := by
  rw [beq_iff_eq, Lib.extract_toList, Lib.extract_toList]
  simp

/-- Where the exception does not hold the keys order as the bytes do. -/
theorem order_no {x y : ByteArray} {K0 K1 : Int} (hx : K0 = (key 7 x.data.toList : Int)) (hy : K1 = (key 7 y.data.toList : Int))
    (h : ¬ (7 < x.size ∧ 7 < y.size ∧ ((x.extract 0 7).toList == (y.extract 0 7).toList) = true)) :
    (K0 < K1 ↔ cmpL x.data.toList y.data.toList < 0) ∧ (K1 < K0 ↔ 0 < cmpL x.data.toList y.data.toList) := by
  rw [seven_iff] at h
  have := key_order 7 (by omega) x.data.toList y.data.toList (fun hh => h ⟨by simpa using hh.1, by simpa using hh.2.1, hh.2.2⟩)
  rw [hx, hy]
  omega

/-- Where it holds they are one. -/
theorem same_yes {x y : ByteArray} {K0 K1 : Int} (hx : K0 = (key 7 x.data.toList : Int)) (hy : K1 = (key 7 y.data.toList : Int))
    (hA : 7 < x.size) (hB : 7 < y.size) (hC : ((x.extract 0 7).toList == (y.extract 0 7).toList) = true) : (K0 == K1) = true := by
  rw [seven_iff] at hC
  rw [beq_iff_eq, hx, hy, key_same 7 x.data.toList y.data.toList (by simpa using hA) (by simpa using hB) hC]

set_option maxRecDepth 100000 in
set_option maxHeartbeats 4000000 in
theorem order_walk (a0 a1 : ByteArray) (d : Nat) (w : World) (hsum : a0.size + a1.size ≤ 1048576) (h0 : a0.size ≤ 524288) (h1 : a1.size ≤ 524288) (hd0 : d ≤ a0.size) (hd1 : d ≤ a1.size) :
    Calls Try.prog 7 #[.string a0, .string a1, .int .i64 (d : Int)] w fun e w' => e = .returned (.bool true) ∧ Below w.heap.size w w' := by
  have HX0 : Hid ((a0 ++ a1).extract 0 a0.size = a0) := cat_left a0 a1
  have HX1 : Hid ((a0 ++ a1).extract a0.size (a0.size + a1.size) = a1) := cat_right a0 a1
  go_enter Try.func7, Try.ntmps7
  go_wp2_with (go_at_call 20; refine (bytes3_yes _ _ _ _ hsum).mono ?_; rintro e w' ⟨rfl, rfl⟩)
  refine (zzKey_any w.heap.size (w.heap.size + 1) (w.heap.size + 1 + 1) (w.heap.size + 1 + 1 + 1) a0.size (a0.size + a1.size) d (a0 ++ a1) a0 a1 HX0.out HX1.out _ ?_ ?_ ?_ ?_ ?_ ?_ ?_ ?_ ?_ ?_ ?_ ?_ (by omega) (by simp) (by simp; omega) hd0 hd1 (by omega) (by omega)).mono ?_
  · simp; omega
  · simp
  · simp
  · simp
  · exact lay_a w _ 33 _ _ _ 0
  · exact lay_a w _ 33 _ _ _ 1
  · exact lay_b w _ _ 33 _ _ 0
  · exact lay_b w _ _ 33 _ _ 1
  · exact lay_c w _ _ _ 34 _ 0
  · exact lay_c w _ _ _ 34 _ 1
  · exact lay_d w _ _ _ _ 4 0
  · exact lay_d w _ _ _ _ 4 1
  rintro e w1 ⟨g, g1, g2, rfl, hb, c0, c1⟩
  go_wp2
  have hx : (a0.extract d a0.size).size = a0.size - d := by simp
  have hy : (a1.extract d a1.size).size = a1.size - d := by simp
  have HKx : Hid (keyOf a0 d = (key 7 (a0.extract d a0.size).data.toList : Int)) := key_cut a0 d
  have HKy : Hid (keyOf a1 d = (key 7 (a1.extract d a1.size).data.toList : Int)) := key_cut a1 d
  generalize a0.extract d a0.size = x at hx HKx ⊢
  generalize a1.extract d a1.size = y at hy HKy ⊢
  have hxs : x.size ≤ 1048576 := by omega
  have hys : y.size ≤ 1048576 := by omega
  clear hx hy
  have hbw : Below w.heap.size w w1 :=
    Below.trans (((((Below.refl _ w).alloc (Nat.le_refl _) _).alloc (by simp) _).alloc (by simp; omega) _).alloc (by simp; omega) _) (hb.mono (by simp; omega))
  clear hb
  by_cases hA : 7 < x.size
  · have hAi : (7 : Int) < (x.size : Int) := by omega
    by_cases hB : 7 < y.size
    · have hBi : (7 : Int) < (y.size : Int) := by omega
      cases hC : ((x.extract 0 7).toList == (y.extract 0 7).toList)
      · have HO : Hid ((keyOf a0 d < keyOf a1 d ↔ cmpL x.data.toList y.data.toList < 0) ∧ (keyOf a1 d < keyOf a0 d ↔ 0 < cmpL x.data.toList y.data.toList)) :=
          order_no HKx.out HKy.out (fun h => by rw [hC] at h; exact absurd h.2.2 (by simp))
        clear HKx HKy
        go_quiet (fail)
        go_wp2_with fail
        refine (compare_any x y _ hxs hys).mono ?_
        rintro e w2 ⟨rfl, n2, rfl⟩
        generalize cmpL x.data.toList y.data.toList = C at HO ⊢
        by_cases hlt : keyOf a0 d < keyOf a1 d
        · have hc := HO.out.1.1 hlt
          go_wp2
          go_quiet (fail)
          go_wp2
          go_ret
          exact ⟨by simp, by repeat (first | exact hbw | apply below_drewN)⟩
        · by_cases hgt : keyOf a1 d < keyOf a0 d
          · have hc := HO.out.2.1 hgt
            go_wp2
            go_quiet (fail)
            go_wp2
            go_quiet (fail)
            go_wp2
            go_ret
            exact ⟨by simp, by repeat (first | exact hbw | apply below_drewN)⟩
          · have hc : C = 0 := by
              have h1 := HO.out.1
              have h2 := HO.out.2
              omega
            subst hc
            go_wp2
            go_quiet (fail)
            go_wp2
            go_quiet (fail)
            go_wp2
            go_ret
            exact ⟨by simp, by repeat (first | exact hbw | apply below_drewN)⟩
      · have HO : Hid ((keyOf a0 d == keyOf a1 d) = true) := same_yes HKx.out HKy.out hA hB hC
        clear HKx HKy
        go_quiet (fail)
        go_wp2
        go_quiet (fail)
        go_wp2
        rw [HO.out]
        go_ret
        exact ⟨rfl, by repeat (first | exact hbw | apply below_drewN)⟩
    · have hBd : decide ((7 : Int) < (y.size : Int)) = false := by simp; omega
      have HO : Hid ((keyOf a0 d < keyOf a1 d ↔ cmpL x.data.toList y.data.toList < 0) ∧ (keyOf a1 d < keyOf a0 d ↔ 0 < cmpL x.data.toList y.data.toList)) :=
        order_no HKx.out HKy.out (fun h => hB h.2.1)
      clear HKx HKy
      go_quiet (fail)
      go_wp2_with fail
      refine (compare_any x y _ hxs hys).mono ?_
      rintro e w2 ⟨rfl, n2, rfl⟩
      generalize cmpL x.data.toList y.data.toList = C at HO ⊢
      by_cases hlt : keyOf a0 d < keyOf a1 d
      · have hc := HO.out.1.1 hlt
        go_wp2
        go_quiet (fail)
        go_wp2
        go_ret
        exact ⟨by simp, by repeat (first | exact hbw | apply below_drewN)⟩
      · by_cases hgt : keyOf a1 d < keyOf a0 d
        · have hc := HO.out.2.1 hgt
          go_wp2
          go_quiet (fail)
          go_wp2
          go_quiet (fail)
          go_wp2
          go_ret
          exact ⟨by simp, by repeat (first | exact hbw | apply below_drewN)⟩
        · have hc : C = 0 := by
            have h1 := HO.out.1
            have h2 := HO.out.2
            omega
          subst hc
          go_wp2
          go_quiet (fail)
          go_wp2
          go_quiet (fail)
          go_wp2
          go_ret
          exact ⟨by simp, by repeat (first | exact hbw | apply below_drewN)⟩
  · have hAd : decide ((7 : Int) < (x.size : Int)) = false := by simp; omega
    have HO : Hid ((keyOf a0 d < keyOf a1 d ↔ cmpL x.data.toList y.data.toList < 0) ∧ (keyOf a1 d < keyOf a0 d ↔ 0 < cmpL x.data.toList y.data.toList)) :=
      order_no HKx.out HKy.out (fun h => hA h.1)
    clear HKx HKy
    go_quiet (fail)
    go_wp2_with fail
    refine (compare_any x y _ hxs hys).mono ?_
    rintro e w2 ⟨rfl, n2, rfl⟩
    generalize cmpL x.data.toList y.data.toList = C at HO ⊢
    by_cases hlt : keyOf a0 d < keyOf a1 d
    · have hc := HO.out.1.1 hlt
      go_wp2
      go_quiet (fail)
      go_wp2
      go_ret
      exact ⟨by simp, by repeat (first | exact hbw | apply below_drewN)⟩
    · by_cases hgt : keyOf a1 d < keyOf a0 d
      · have hc := HO.out.2.1 hgt
        go_wp2
        go_quiet (fail)
        go_wp2
        go_quiet (fail)
        go_wp2
        go_ret
        exact ⟨by simp, by repeat (first | exact hbw | apply below_drewN)⟩
      · have hc : C = 0 := by
          have h1 := HO.out.1
          have h2 := HO.out.2
          omega
        subst hc
        go_wp2
        go_quiet (fail)
        go_wp2
        go_quiet (fail)
        go_wp2
        go_ret
        exact ⟨by simp, by repeat (first | exact hbw | apply below_drewN)⟩

end Go.Proofs.Qxb6601267a
