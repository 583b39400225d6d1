/-
  registry.ZZKeyFrom (function 19) over two entries.
-/
import Derived.Test.Qxb6601267aKeyFrom
namespace Go.Proofs.Qxb6601267a
open Go.RowKit
set_option linter.unusedVariables false

theorem make48 : ∀ w, (Instr.makeSlice 48 (.int .i64 2) (.int .i64 2)).run Try.prog w = .ok (.slice (some ⟨w.heap.size, 0, none⟩) 2 2) (w.alloc (.cells #[.int .u64 0, .int .u32 0, .bool false, .int .u64 0, .int .u32 0, .bool false] 50)) := fun _ => by kernel_rfl
theorem make30 : ∀ w, (Instr.makeSlice 30 (.int .i64 2) (.int .i64 2)).run Try.prog w = .ok (.slice (some ⟨w.heap.size, 0, none⟩) 2 2) (w.alloc (.cells #[.int .u64 0, .int .u64 0] 34)) := fun _ => by kernel_rfl
theorem make29 : ∀ w, (Instr.makeSlice 29 (.int .i64 2) (.int .i64 2)).run Try.prog w = .ok (.slice (some ⟨w.heap.size, 0, none⟩) 2 2) (w.alloc (.cells #[.int .u32 0, .int .u32 0] 33)) := fun _ => by kernel_rfl
theorem make31 : ∀ w, (Instr.makeSlice 31 (.int .i64 2) (.int .i64 2)).run Try.prog w = .ok (.slice (some ⟨w.heap.size, 0, none⟩) 2 2) (w.alloc (.cells #[.bool false, .bool false] 4)) := fun _ => by kernel_rfl

theorem two_new (w : World) (A o : Obj) : ((w.alloc A).alloc o).heap[w.heap.size + 1]? = some o := by
  have h := heap_alloc_new (w.alloc A) o
  rwa [World.size_alloc] at h

theorem cell_two (w : World) (cs : Array Value) (T : TypeId) (o : Obj) (i : Nat) : ((w.alloc (.cells cs T)).alloc o).cell? ⟨w.heap.size, i, none⟩ = cs[i]? :=
  (cell_old (by simp) o).trans (World.cell?_alloc_at cs T w.heap.size i rfl)

theorem below_two (w : World) (A o : Obj) : Below w.heap.size w ((w.alloc A).alloc o) :=
  ((Below.refl _ w).alloc (Nat.le_refl _) A).alloc (by simp) o

theorem cell_three {w : World} {b i : Nat} (h : b < w.heap.size) (o1 o2 o3 : Obj) : (((w.alloc o1).alloc o2).alloc o3).cell? ⟨b, i, none⟩ = w.cell? ⟨b, i, none⟩ :=
  (cell_old (by simp; omega) o3).trans ((cell_old (by simp; omega) o2).trans (cell_old h o1))

set_option maxRecDepth 100000 in
set_option maxHeartbeats 4000000 in
theorem zzKey_any (pe pt pk pl l0 l1 d : Nat) (ids s t : ByteArray) (hx0 : ids.extract 0 l0 = s) (hx1 : ids.extract l0 l1 = t) (w : World)
    (hpe : pe < w.heap.size) (hpt : pt < w.heap.size) (hpk : pk < w.heap.size) (hpl : pl < w.heap.size)
    (e0 : w.cell? ⟨pe, 0, none⟩ = some (.int .u32 (l0 : Int))) (e1 : w.cell? ⟨pe, 1, none⟩ = some (.int .u32 (l1 : Int)))
    (t0 : w.cell? ⟨pt, 0, none⟩ = some (.int .u32 0)) (t1 : w.cell? ⟨pt, 1, none⟩ = some (.int .u32 1))
    (k0 : w.cell? ⟨pk, 0, none⟩ = some (.int .u64 0)) (k1 : w.cell? ⟨pk, 1, none⟩ = some (.int .u64 0))
    (z0 : w.cell? ⟨pl, 0, none⟩ = some (.bool false)) (z1 : w.cell? ⟨pl, 1, none⟩ = some (.bool false))
    (hl : l0 ≤ l1) (hl1 : l1 ≤ ids.size) (hs : ids.size ≤ 1048576) (hd0 : d ≤ s.size) (hd1 : d ≤ t.size) (hss : s.size ≤ 1048576) (hts : t.size ≤ 1048576) :
    Calls Try.prog 19 #[.string ids, .slice (some ⟨pe, 0, none⟩) 2 2, .slice (some ⟨pt, 0, none⟩) 2 2, .slice (some ⟨pk, 0, none⟩) 2 2, .slice (some ⟨pl, 0, none⟩) 2 2, .int .i64 (d : Int)] w fun e w' =>
      ∃ g g1 g2, e = .returned (.tuple #[.slice (some ⟨g, 0, none⟩) 2 2, .slice (some ⟨g1, 0, none⟩) 2 2, .slice (some ⟨g2, 0, none⟩) 2 2]) ∧ Below w.heap.size w w' ∧
        w'.cell? ⟨g, 0, none⟩ = some (.int .u64 (keyOf s d)) ∧ w'.cell? ⟨g, 1, none⟩ = some (.int .u64 (keyOf t d)) := by
  have HX0 : Hid (ids.extract 0 l0 = s) := hx0
  have HX1 : Hid (ids.extract l0 l1 = t) := hx1
  clear hx0 hx1
  have hm48 := make48
  have hm30 := make30
  have hm29 := make29
  have hm31 := make31
  go_enter Try.func19, Try.ntmps19
  go_wp2
  refine wp_loop_rounds 3 ?_
  rw [rounds_succ]
  go_wp2
  refine wp_region_still_tail 16 (by kernel_rfl) (by kernel_rfl) ?_
  simp only [List.take_succ_cons, List.take_zero, List.drop_succ_cons, List.drop_zero]
  change wpStill _ _ (World.drew _) _ _ _
  repeat still_step
  refine wpStill_nil ?_
  change wpList _ _ _ _ _ (World.drew _)
  go_wp2
  rw [rounds_succ]
  go_wp2
  refine wp_region_still_tail 16 (by kernel_rfl) (by kernel_rfl) ?_
  simp only [List.take_succ_cons, List.take_zero, List.drop_succ_cons, List.drop_zero]
  change wpStill _ _ (World.drew _) _ _ _
  repeat still_step
  refine wpStill_nil ?_
  change wpList _ _ _ _ _ (World.drew _)
  go_wp2
  rw [rounds_succ]
  go_wp2_with fail
  refine (keyFrom_any w.heap.size pe (w.heap.size + 1) l0 l1 d ids s t HX0.out HX1.out _ (by omega) (by omega) ?_ ?_ ?_ ?_ hl hl1 hs ?_ hd0 hd1 hss hts).mono ?_
  · exact cell_two w _ 47 _ 0
  · exact cell_two w _ 47 _ 1
  · exact (cell_old (by simp; omega) _).trans ((cell_old hpe _).trans e0)
  · exact (cell_old (by simp; omega) _).trans ((cell_old hpe _).trans e1)
  · exact two_new w _ _
  rintro e w1 ⟨rfl, hb1, hE1⟩
  have hbw : Below w.heap.size w w1 := by
    refine Below.trans ?_ (hb1.mono (by omega))
    first
      | exact (below_two w _ _).drew.drew
      | exact below_drewN (below_two w _ _) _
  obtain ⟨hlt, c0, c1, c2, c3, c4, c5, f0, f3⟩ := ent_cells hE1
  clear hE1 f0 f3
  have d0 : ∀ o1 o2 o3, (((w1.alloc o1).alloc o2).alloc o3).cell? ⟨w.heap.size + 1, 0, none⟩ = some (.int .u64 (keyOf s d)) := fun o1 o2 o3 => (cell_three hlt o1 o2 o3).trans c0
  have d1 : ∀ o1 o2 o3, (((w1.alloc o1).alloc o2).alloc o3).cell? ⟨w.heap.size + 1, 1, none⟩ = some (.int .u32 0) := fun o1 o2 o3 => (cell_three hlt o1 o2 o3).trans c1
  have d2 : ∀ o1 o2 o3, (((w1.alloc o1).alloc o2).alloc o3).cell? ⟨w.heap.size + 1, 2, none⟩ = some (.bool false) := fun o1 o2 o3 => (cell_three hlt o1 o2 o3).trans c2
  have d3 : ∀ o1 o2 o3, (((w1.alloc o1).alloc o2).alloc o3).cell? ⟨w.heap.size + 1, 3, none⟩ = some (.int .u64 (keyOf t d)) := fun o1 o2 o3 => (cell_three hlt o1 o2 o3).trans c3
  have d4 : ∀ o1 o2 o3, (((w1.alloc o1).alloc o2).alloc o3).cell? ⟨w.heap.size + 1, 4, none⟩ = some (.int .u32 1) := fun o1 o2 o3 => (cell_three hlt o1 o2 o3).trans c4
  have d5 : ∀ o1 o2 o3, (((w1.alloc o1).alloc o2).alloc o3).cell? ⟨w.heap.size + 1, 5, none⟩ = some (.bool false) := fun o1 o2 o3 => (cell_three hlt o1 o2 o3).trans c5
  clear c0 c1 c2 c3 c4 c5 e0 e1 t0 t1 k0 k1 z0 z1
  go_wp2
  refine wp_loop_rounds 3 ?_
  rw [rounds_succ]
  go_wp2
  rw [rounds_succ]
  go_wp2
  rw [rounds_succ]
  go_wp2
  have hz := hbw.size
  go_ret3
  exact ⟨w1.heap.size, w1.heap.size + 1, w1.heap.size + 1 + 1, rfl, ((hbw.alloc hz _).alloc (by simp; omega) _).alloc (by simp; omega) _,
    (cell_old (by simp; omega) _).trans (cell_two w1 _ 34 _ 0), (cell_old (by simp; omega) _).trans (cell_two w1 _ 34 _ 1)⟩
end Go.Proofs.Qxb6601267a
