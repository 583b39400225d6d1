/-
  arrangement.at (function 24) at positions 0 and 1; arrangement.keyFrom (function 23) over two entries.
-/
import Derived.Test.Qxb6601267aLeaf
import Derived.Test.Qxb6601267aKeyBits
import Derived.Deep.QuietTactic
import Derived.BigQuiet
import Derived.BigRegion
import Derived.StillTailTactics
namespace Go.Proofs.Qxb6601267a
open Go.RowKit
set_option linter.unusedVariables false

set_option maxHeartbeats 400000 in
theorem at_zero (pa pe l0 : Nat) (ids s : ByteArray) (hx : ids.extract 0 l0 = s) (w : World) (h0 : w.cell? ⟨pa, 0, none⟩ = some (.string ids)) (h1 : w.cell? ⟨pa, 1, none⟩ = some (.slice (some ⟨pe, 0, none⟩) 2 2))
    (h2 : w.cell? ⟨pe, 0, none⟩ = some (.int .u32 (l0 : Int))) (hl : l0 ≤ ids.size) (hs : ids.size ≤ 1048576) :
    Calls Try.prog 24 #[.pointer (some ⟨pa, 0, none⟩), .int .i64 0] w fun e w' => e = .returned (.string s) ∧ ∃ n, w' = w.drewN n := by
  subst hx
  go_enter Try.func24, Try.ntmps24
  go_wp2
  go_quiet (fail)
  go_wp2
  go_ret
  exact ⟨rfl, _, rfl⟩

set_option maxHeartbeats 400000 in
theorem at_one (pa pe l0 l1 : Nat) (ids t : ByteArray) (hx : ids.extract l0 l1 = t) (w : World) (h0 : w.cell? ⟨pa, 0, none⟩ = some (.string ids)) (h1 : w.cell? ⟨pa, 1, none⟩ = some (.slice (some ⟨pe, 0, none⟩) 2 2))
    (h2 : w.cell? ⟨pe, 0, none⟩ = some (.int .u32 (l0 : Int))) (h3 : w.cell? ⟨pe, 1, none⟩ = some (.int .u32 (l1 : Int))) (hl : l0 ≤ l1) (hl1 : l1 ≤ ids.size) (hs : ids.size ≤ 1048576) :
    Calls Try.prog 24 #[.pointer (some ⟨pa, 0, none⟩), .int .i64 1] w fun e w' => e = .returned (.string t) ∧ ∃ n, w' = w.drewN n := by
  subst hx
  go_enter Try.func24, Try.ntmps24
  go_wp2
  go_quiet (fail)
  go_wp2
  go_ret
  exact ⟨rfl, _, rfl⟩

/-- The two entries, their keys K0, K1. -/
def ent (K0 K1 : Int) : Array Value := #[.int .u64 K0, .int .u32 0, .bool false, .int .u64 K1, .int .u32 1, .bool false]

/-- The entries' block behind k rounds. -/
def KRel (E : Nat) (K0 K1 : Int) (k : Nat) (wr : World) : Prop :=
  (k = 0 ∧ wr.heap[E]? = some (.cells (ent 0 0) 50 (0, 0))) ∨ (k = 1 ∧ wr.heap[E]? = some (.cells (ent K0 0) 50 (0, 0))) ∨ (k = 2 ∧ wr.heap[E]? = some (.cells (ent K0 K1) 50 (0, 0)))

theorem ent_cells {wr : World} {E : Nat} {K0 K1 : Int} (h : wr.heap[E]? = some (.cells (ent K0 K1) 50 (0, 0))) :
    E < wr.heap.size ∧ wr.cell? ⟨E, 0, none⟩ = some (.int .u64 K0) ∧ wr.cell? ⟨E, 1, none⟩ = some (.int .u32 0) ∧ wr.cell? ⟨E, 2, none⟩ = some (.bool false) ∧
    wr.cell? ⟨E, 3, none⟩ = some (.int .u64 K1) ∧ wr.cell? ⟨E, 4, none⟩ = some (.int .u32 1) ∧ wr.cell? ⟨E, 5, none⟩ = some (.bool false) ∧
    wr.frozen? ⟨E, 0, none⟩ = false ∧ wr.frozen? ⟨E, 3, none⟩ = false := by
  have hlt : E < wr.heap.size := (Array.getElem?_eq_some_iff.1 h).1
  refine ⟨hlt, ?_, ?_, ?_, ?_, ?_, ?_, ?_, ?_⟩
  all_goals simp [World.cell?, World.frozen?, h, ent]

theorem ent_set0 {W : World} {E : Nat} {K0 K1 v : Int} (h : W.heap[E]? = some (.cells (ent K0 K1) 50 (0, 0))) :
    (W.setCell ⟨E, 0, none⟩ (.int .u64 v)).heap[E]? = some (.cells (ent v K1) 50 (0, 0)) := by
  rw [heap_setCell_same W E 0 _ 50 _ h]; rfl

theorem ent_set3 {W : World} {E : Nat} {K0 K1 v : Int} (h : W.heap[E]? = some (.cells (ent K0 K1) 50 (0, 0))) :
    (W.setCell ⟨E, 3, none⟩ (.int .u64 v)).heap[E]? = some (.cells (ent K0 v) 50 (0, 0)) := by
  rw [heap_setCell_same W E 3 _ 50 _ h]; rfl

theorem cell_old {w : World} {b i : Nat} (h : b < w.heap.size) (o : Obj) : (w.alloc o).cell? ⟨b, i, none⟩ = w.cell? ⟨b, i, none⟩ :=
  ((Below.refl w.heap.size w).alloc (Nat.le_refl _) o).cell (p := ⟨b, i, none⟩) h

theorem frozen_old {w : World} {b i : Nat} (h : b < w.heap.size) (o : Obj) : (w.alloc o).frozen? ⟨b, i, none⟩ = w.frozen? ⟨b, i, none⟩ :=
  ((Below.refl w.heap.size w).alloc (Nat.le_refl _) o).frozen (p := ⟨b, i, none⟩) h

/-- '[]byte(x)': the bytes of x in a new row. -/
theorem conv_bytes (w : World) (x : ByteArray) (m H : Nat) (hm : x.size = m) (hH : w.heap.size = H) :
    ∃ cap W2, (convert 9 44 (.string x)).run Try.prog w = .ok (.slice (some ⟨H, 0, none⟩) m cap) W2 ∧
      (∀ j (h : j < x.size), W2.cell? ⟨H, j, none⟩ = some (.int .u8 (x[j].toNat : Int))) ∧ Below H w W2 ∧ H < W2.heap.size := by
  subst hm
  subst hH
  refine ⟨_, _, run_bytes_of_string (P := Try.prog) w 9 44 5 x Try.underlying9 Try.underlying44 Try.underlying5, ?_, ?_, ?_⟩
  · intro j hj
    have h1 := World.cell?_alloc_mark w.drew (bytesRow x (grownCap w x.size 0 5)) 5 ((bytesRow x (grownCap w x.size 0 5)).size, (bytesRow x (grownCap w x.size 0 5)).size + 1) j
    have h2 : (bytesRow x (grownCap w x.size 0 5))[j]? = some (.int .u8 (x[j].toNat : Int)) := by
      unfold bytesRow
      have hj' : j < x.data.size := hj
      rw [Array.getElem?_append_left (by simpa using hj')]
      simp only [Array.getElem?_map, Array.getElem?_eq_getElem hj', Option.map_some]
      rfl
    exact h1.trans h2
  · exact ((Below.refl _ w).drew).alloc (Nat.le_refl _) _
  · simp

theorem cell_byte {W2 : World} {H d : Nat} {s : ByteArray} (hcell : ∀ j (h : j < (s.extract d s.size).size), W2.cell? ⟨H, j, none⟩ = some (.int .u8 ((s.extract d s.size)[j].toNat : Int)))
    (hx : (s.extract d s.size).size = s.size - d) {j : Nat} (hd : d + j < s.size) (h : j < s.size - d) : W2.cell? ⟨H, j, none⟩ = some (.int .u8 ((s[d + j]'hd).toNat : Int)) := by
  rw [hcell j (by omega)]
  have h1 : (s.extract d s.size)[j]'(by omega) = (s.extract d s.size).data.toList[j]'(by simp; omega) := rfl
  have : (s.extract d s.size)[j]'(by omega) = s[d + j]'hd := by
    rw [h1]
    simp only [Lib.extract_data]
    rw [List.getElem_take, List.getElem_drop]
    rfl
  rw [this]

set_option maxRecDepth 100000 in
set_option maxHeartbeats 8000000 in
theorem keyFrom_any (pa pe E l0 l1 d : Nat) (ids s t : ByteArray) (hx0 : ids.extract 0 l0 = s) (hx1 : ids.extract l0 l1 = t) (w : World)
    (hpa : pa < E) (hpe : pe < E) (h0 : w.cell? ⟨pa, 0, none⟩ = some (.string ids)) (h1 : w.cell? ⟨pa, 1, none⟩ = some (.slice (some ⟨pe, 0, none⟩) 2 2))
    (h2 : w.cell? ⟨pe, 0, none⟩ = some (.int .u32 (l0 : Int))) (h3 : w.cell? ⟨pe, 1, none⟩ = some (.int .u32 (l1 : Int))) (hl : l0 ≤ l1) (hl1 : l1 ≤ ids.size) (hs : ids.size ≤ 1048576)
    (hE : w.heap[E]? = some (.cells (ent 0 0) 50 (0, 0))) (hd0 : d ≤ s.size) (hd1 : d ≤ t.size) (hss : s.size ≤ 1048576) (hts : t.size ≤ 1048576) :
    Calls Try.prog 23 #[.pointer (some ⟨pa, 0, none⟩), .slice (some ⟨E, 0, none⟩) 2 2, .int .i64 (d : Int)] w fun e w' =>
      e = .returned (.tuple #[]) ∧ Below E w w' ∧ w'.heap[E]? = some (.cells (ent (keyOf s d) (keyOf t d)) 50 (0, 0)) := by
  obtain ⟨K0, hK0⟩ : ∃ K0, K0 = keyOf s d := ⟨_, rfl⟩
  obtain ⟨K1, hK1⟩ : ∃ K1, K1 = keyOf t d := ⟨_, rfl⟩
  rw [← hK0, ← hK1]
  have HK0 : Hid (K0 = keyOf s d) := hK0
  have HK1 : Hid (K1 = keyOf t d) := hK1
  have HX0 : Hid (ids.extract 0 l0 = s) := hx0
  have HX1 : Hid (ids.extract l0 l1 = t) := hx1
  have HE : Hid (w.heap[E]? = some (.cells (ent 0 0) 50 (0, 0))) := hE
  clear hK0 hK1 hx0 hx1 hE
  go_enter Try.func23, Try.ntmps23
  go_wp2
  go_loopw [15] (fun i wr => ∃ k : Nat, k ≤ 2 ∧ i = .int .i64 k ∧ Hid (KRel E K0 K1 k wr) ∧ Below E w wr) (fun i _ => 2 - (intOf i).toNat)
  case atStart => exact ⟨0, Nat.zero_le _, rfl, Or.inl ⟨rfl, HE.out⟩, Below.refl _ _⟩
  case round =>
    obtain ⟨k, hk, rfl, HR, hbel⟩ := hrel
    have a0 := (hbel.cell (p := ⟨pa, 0, none⟩) hpa).trans h0
    have a1 := (hbel.cell (p := ⟨pa, 1, none⟩) hpa).trans h1
    have a2 := (hbel.cell (p := ⟨pe, 0, none⟩) hpe).trans h2
    have a3 := (hbel.cell (p := ⟨pe, 1, none⟩) hpe).trans h3
    rcases HR.out with ⟨rfl, hB⟩ | ⟨rfl, hB⟩ | ⟨rfl, hB⟩
    · obtain ⟨hlt, c0, c1, c2, c3, c4, c5, f0, f3⟩ := ent_cells hB
      have HB : Hid (wr.heap[E]? = some (.cells (ent 0 0) 50 (0, 0))) := hB
      have b0 : ∀ o, (wr.alloc o).cell? ⟨pa, 0, none⟩ = some (.string ids) := fun o => (cell_old (by omega) o).trans a0
      have b1 : ∀ o, (wr.alloc o).cell? ⟨pa, 1, none⟩ = some (.slice (some ⟨pe, 0, none⟩) 2 2) := fun o => (cell_old (by omega) o).trans a1
      have b2 : ∀ o, (wr.alloc o).cell? ⟨pe, 0, none⟩ = some (.int .u32 (l0 : Int)) := fun o => (cell_old (by omega) o).trans a2
      have b3 : ∀ o, (wr.alloc o).cell? ⟨pe, 1, none⟩ = some (.int .u32 (l1 : Int)) := fun o => (cell_old (by omega) o).trans a3
      clear h0 h1 h2 h3 hB
      by_cases hlong : 7 < s.size - d
      · go_wp2_with (go_at_call 24; refine (at_zero pa pe l0 ids s HX0.out _ (b0 _) (b1 _) (b2 _) (by omega) hs).mono ?_; rintro e w1 ⟨rfl, n, rfl⟩)
        have hx8 : (s.extract d (d + 8)).size = 8 := by simp; omega
        generalize hxx : s.extract d (d + 8) = x at hx8 ⊢
        have HXX : Hid (s.extract d (d + 8) = x) := hxx
        clear hxx
        have e0 : ((wr.alloc (Obj.cells #[Value.int IntKind.u64 0, Value.int IntKind.u32 0, Value.bool false] 50)).drewN n).cell? ⟨E, 0, none⟩ = some (.int .u64 0) := (cell_old hlt _).trans c0
        have e1 : ((wr.alloc (Obj.cells #[Value.int IntKind.u64 0, Value.int IntKind.u32 0, Value.bool false] 50)).drewN n).frozen? ⟨E, 0, none⟩ = false := (frozen_old hlt _).trans f0
        have hBW : ((wr.alloc (Obj.cells #[Value.int IntKind.u64 0, Value.int IntKind.u32 0, Value.bool false] 50)).drewN n).heap[E]? = some (.cells (ent 0 0) 50 (0, 0)) := (Below.heap_alloc wr _ E hlt).trans HB.out
        have hbW : Below E w ((wr.alloc (Obj.cells #[Value.int IntKind.u64 0, Value.int IntKind.u32 0, Value.bool false] 50)).drewN n) := below_drewN (hbel.alloc (by omega) _) n
        generalize (wr.alloc (Obj.cells #[Value.int IntKind.u64 0, Value.int IntKind.u32 0, Value.bool false] 50)).drewN n = W at e0 e1 hBW hbW ⊢
        have HBW : Hid (W.heap[E]? = some (.cells (ent 0 0) 50 (0, 0))) := hBW
        clear hBW b0 b1 b2 b3 a0 a1 a2 a3 c0 c1 c2 c3 c4 c5 f0 f3
        refine wp_region_still_tail 39 (by kernel_rfl) (by kernel_rfl) ?_
        simp only [List.take_succ_cons, List.take_zero, List.drop_succ_cons, List.drop_zero]
        change wpStill _ _ (World.drew _) _ _ _
        repeat still_step
        refine wpStill_nil ?_
        change wpList _ _ _ _ _ (World.drew _)
        go_wp2
        rw [long_key s x d HXX.out hx8 hlong]
        go_roundw
        case rel => exact ⟨1, by omega, rfl, Or.inr (Or.inl ⟨rfl, by rw [HK0.out]; exact ent_set0 HBW.out⟩), (hbW.setCell (p := ⟨E, 0, none⟩) (Nat.le_refl _) _).drew⟩
        case measure => simp [intOf]
      · have HX : Hid ((s.extract d s.size).size = s.size - d) := by show _ = _; simp
        go_wp2_with (go_at_call 24; refine (at_zero pa pe l0 ids s HX0.out _ (b0 _) (b1 _) (b2 _) (by omega) hs).mono ?_; rintro e w1 ⟨rfl, n, rfl⟩; obtain ⟨cap, W2, hcv, hcell, hb2, hsz2⟩ := conv_bytes (World.drewN (wr.alloc (Obj.cells #[Value.int IntKind.u64 0, Value.int IntKind.u32 0, Value.bool false] 50)) n) (s.extract d s.size) (s.size - d) (wr.heap.size + 1) HX.out (by simp))
        have HCell : Hid (∀ j (h : j < s.size - d), W2.cell? ⟨wr.heap.size + 1, j, none⟩ = some (.int .u8 ((s[d + j]'(by omega)).toNat : Int))) := fun j h => cell_byte hcell HX.out (by omega) h
        have e0 : W2.cell? ⟨E, 0, none⟩ = some (.int .u64 0) := (hb2.cell (p := ⟨E, 0, none⟩) (by show E < _; omega)).trans ((cell_old hlt _).trans c0)
        have e1 : W2.frozen? ⟨E, 0, none⟩ = false := (hb2.frozen (p := ⟨E, 0, none⟩) (by show E < _; omega)).trans ((frozen_old hlt _).trans f0)
        have HBW : Hid (W2.heap[E]? = some (.cells (ent 0 0) 50 (0, 0))) := (hb2.block E (by omega)).trans ((Below.heap_alloc wr _ E hlt).trans HB.out)
        have hbW : Below E w W2 := (below_drewN (hbel.alloc (by omega) _) n).trans (hb2.mono (by omega))
        clear hcell hcv b0 b1 b2 b3 a0 a1 a2 a3 c0 c1 c2 c3 c4 c5 f0 f3 hb2
        go_loop [10, 84] (fun q i => ∃ m : Nat, m ≤ s.size - d ∧ i = .int .i64 m ∧ q = .int .u64 (accK (s.data.toList.drop d) m)) (fun _ i => s.size - d - (intOf i).toNat)
        case atStart => exact ⟨0, Nat.zero_le _, rfl, by rw [accK_zero]; simp; omega⟩
        case round =>
          obtain ⟨m, hm, rfl, rfl⟩ := hrel
          by_cases hmlt : m < s.size - d
          · have hcm := HCell.out m hmlt
            have HO : Hid (bits .or .u64 (accK (s.data.toList.drop d) m : Int) (IntKind.u64.wrap (IntKind.u64.wrap ((s[d + m]'(by omega)).toNat : Int) * 2 ^ (56 - 8 * m))) = (accK (s.data.toList.drop d) (m + 1) : Int)) := or_round s d m (by omega) (by omega)
            generalize s[d + m] = c at hcm HO
            go_wp2
            rw [HO.out]
            go_round
            case rel => exact ⟨m + 1, by omega, by go_num, rfl⟩
            case measure => simp [intOf]; omega
          · obtain rfl : m = s.size - d := by omega
            have HO : Hid ((accK (s.data.toList.drop d) (s.size - d) : Int) = keyOf s d) := short_key s d (by omega)
            go_wp2
            rw [HO.out]
            go_roundw
            case rel => exact ⟨1, by omega, rfl, Or.inr (Or.inl ⟨rfl, by rw [HK0.out]; exact ent_set0 HBW.out⟩), hbW.setCell (p := ⟨E, 0, none⟩) (Nat.le_refl _) _⟩
            case measure => simp [intOf]
    · obtain ⟨hlt, c0, c1, c2, c3, c4, c5, f0, f3⟩ := ent_cells hB
      have HB : Hid (wr.heap[E]? = some (.cells (ent K0 0) 50 (0, 0))) := hB
      have b0 : ∀ o, (wr.alloc o).cell? ⟨pa, 0, none⟩ = some (.string ids) := fun o => (cell_old (by omega) o).trans a0
      have b1 : ∀ o, (wr.alloc o).cell? ⟨pa, 1, none⟩ = some (.slice (some ⟨pe, 0, none⟩) 2 2) := fun o => (cell_old (by omega) o).trans a1
      have b2 : ∀ o, (wr.alloc o).cell? ⟨pe, 0, none⟩ = some (.int .u32 (l0 : Int)) := fun o => (cell_old (by omega) o).trans a2
      have b3 : ∀ o, (wr.alloc o).cell? ⟨pe, 1, none⟩ = some (.int .u32 (l1 : Int)) := fun o => (cell_old (by omega) o).trans a3
      clear h0 h1 h2 h3 hB
      by_cases hlong : 7 < t.size - d
      · go_wp2_with (go_at_call 24; refine (at_one pa pe l0 l1 ids t HX1.out _ (b0 _) (b1 _) (b2 _) (b3 _) hl hl1 hs).mono ?_; rintro e w1 ⟨rfl, n, rfl⟩)
        have hx8 : (t.extract d (d + 8)).size = 8 := by simp; omega
        generalize hxx : t.extract d (d + 8) = x at hx8 ⊢
        have HXX : Hid (t.extract d (d + 8) = x) := hxx
        clear hxx
        have e0 : ((wr.alloc (Obj.cells #[Value.int IntKind.u64 0, Value.int IntKind.u32 1, Value.bool false] 50)).drewN n).cell? ⟨E, 3, none⟩ = some (.int .u64 0) := (cell_old hlt _).trans c3
        have e1 : ((wr.alloc (Obj.cells #[Value.int IntKind.u64 0, Value.int IntKind.u32 1, Value.bool false] 50)).drewN n).frozen? ⟨E, 3, none⟩ = false := (frozen_old hlt _).trans f3
        have hBW : ((wr.alloc (Obj.cells #[Value.int IntKind.u64 0, Value.int IntKind.u32 1, Value.bool false] 50)).drewN n).heap[E]? = some (.cells (ent K0 0) 50 (0, 0)) := (Below.heap_alloc wr _ E hlt).trans HB.out
        have hbW : Below E w ((wr.alloc (Obj.cells #[Value.int IntKind.u64 0, Value.int IntKind.u32 1, Value.bool false] 50)).drewN n) := below_drewN (hbel.alloc (by omega) _) n
        generalize (wr.alloc (Obj.cells #[Value.int IntKind.u64 0, Value.int IntKind.u32 1, Value.bool false] 50)).drewN n = W at e0 e1 hBW hbW ⊢
        have HBW : Hid (W.heap[E]? = some (.cells (ent K0 0) 50 (0, 0))) := hBW
        clear hBW b0 b1 b2 b3 a0 a1 a2 a3 c0 c1 c2 c3 c4 c5 f0 f3
        refine wp_region_still_tail 39 (by kernel_rfl) (by kernel_rfl) ?_
        simp only [List.take_succ_cons, List.take_zero, List.drop_succ_cons, List.drop_zero]
        change wpStill _ _ (World.drew _) _ _ _
        repeat still_step
        refine wpStill_nil ?_
        change wpList _ _ _ _ _ (World.drew _)
        go_wp2
        rw [long_key t x d HXX.out hx8 hlong]
        go_roundw
        case rel => exact ⟨2, by omega, rfl, Or.inr (Or.inr ⟨rfl, by rw [HK1.out]; exact ent_set3 HBW.out⟩), (hbW.setCell (p := ⟨E, 3, none⟩) (Nat.le_refl _) _).drew⟩
        case measure => simp [intOf]
      · have HX : Hid ((t.extract d t.size).size = t.size - d) := by show _ = _; simp
        go_wp2_with (go_at_call 24; refine (at_one pa pe l0 l1 ids t HX1.out _ (b0 _) (b1 _) (b2 _) (b3 _) hl hl1 hs).mono ?_; rintro e w1 ⟨rfl, n, rfl⟩; obtain ⟨cap, W2, hcv, hcell, hb2, hsz2⟩ := conv_bytes (World.drewN (wr.alloc (Obj.cells #[Value.int IntKind.u64 0, Value.int IntKind.u32 1, Value.bool false] 50)) n) (t.extract d t.size) (t.size - d) (wr.heap.size + 1) HX.out (by simp))
        have HCell : Hid (∀ j (h : j < t.size - d), W2.cell? ⟨wr.heap.size + 1, j, none⟩ = some (.int .u8 ((t[d + j]'(by omega)).toNat : Int))) := fun j h => cell_byte hcell HX.out (by omega) h
        have e0 : W2.cell? ⟨E, 3, none⟩ = some (.int .u64 0) := (hb2.cell (p := ⟨E, 3, none⟩) (by show E < _; omega)).trans ((cell_old hlt _).trans c3)
        have e1 : W2.frozen? ⟨E, 3, none⟩ = false := (hb2.frozen (p := ⟨E, 3, none⟩) (by show E < _; omega)).trans ((frozen_old hlt _).trans f3)
        have HBW : Hid (W2.heap[E]? = some (.cells (ent K0 0) 50 (0, 0))) := (hb2.block E (by omega)).trans ((Below.heap_alloc wr _ E hlt).trans HB.out)
        have hbW : Below E w W2 := (below_drewN (hbel.alloc (by omega) _) n).trans (hb2.mono (by omega))
        clear hcell hcv b0 b1 b2 b3 a0 a1 a2 a3 c0 c1 c2 c3 c4 c5 f0 f3 hb2
        go_loop [10, 84] (fun q i => ∃ m : Nat, m ≤ t.size - d ∧ i = .int .i64 m ∧ q = .int .u64 (accK (t.data.toList.drop d) m)) (fun _ i => t.size - d - (intOf i).toNat)
        case atStart => exact ⟨0, Nat.zero_le _, rfl, by rw [accK_zero]; simp; omega⟩
        case round =>
          obtain ⟨m, hm, rfl, rfl⟩ := hrel
          by_cases hmlt : m < t.size - d
          · have hcm := HCell.out m hmlt
            have HO : Hid (bits .or .u64 (accK (t.data.toList.drop d) m : Int) (IntKind.u64.wrap (IntKind.u64.wrap ((t[d + m]'(by omega)).toNat : Int) * 2 ^ (56 - 8 * m))) = (accK (t.data.toList.drop d) (m + 1) : Int)) := or_round t d m (by omega) (by omega)
            generalize t[d + m] = c at hcm HO
            go_wp2
            rw [HO.out]
            go_round
            case rel => exact ⟨m + 1, by omega, by go_num, rfl⟩
            case measure => simp [intOf]; omega
          · obtain rfl : m = t.size - d := by omega
            have HO : Hid ((accK (t.data.toList.drop d) (t.size - d) : Int) = keyOf t d) := short_key t d (by omega)
            go_wp2
            rw [HO.out]
            go_roundw
            case rel => exact ⟨2, by omega, rfl, Or.inr (Or.inr ⟨rfl, by rw [HK1.out]; exact ent_set3 HBW.out⟩), hbW.setCell (p := ⟨E, 3, none⟩) (Nat.le_refl _) _⟩
            case measure => simp [intOf]
    · go_wp2
      go_end0
      exact ⟨rfl, hbel, hB⟩

end Go.Proofs.Qxb6601267a
