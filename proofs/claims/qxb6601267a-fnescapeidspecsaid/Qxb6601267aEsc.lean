/-
  registry.EscapeID (function 9): for every text of at most 2^20 bytes it returns 'escS s' and turns nothing that was there.
-/
import Derived.Test.Qxb6601267aLeaf
import Derived.Lib.BufferWrite
import Derived.Lib.SliceRun
import Derived.Deep.AppendLies
import Derived.Deep.RegionLaw
import Derived.Laws.BitsLemmas
namespace Go.Proofs.Qxb6601267a
open Go.RowKit Go.Lib

theorem info5 : (Try.prog.info? 5).map (fun i => (i.zero, i.size, i.bytes)) = some (some (.int .u8 0), 1, 1) := by kernel_rfl

/-- WHAT HOLDS OF b AND THE WORLD behind k bytes. -/
def EscRel (s : ByteArray) (B k : Nat) (b : Value) (wr : World) : Prop :=
  (b = .slice none 0 0 ∧ PlainTo s k) ∨
  (∃ g cap, b = .slice (some ⟨g, 0, none⟩) (escN s k) cap ∧ wr.ownsRow B 5 1 b (escN s k) (byteCells (escTo s k)))

/-- What an append of the bytes that are written for byte k does to the relation. -/
theorem rel_step {s : ByteArray} {B k n g' cap' m : Nat} {w1 : World} {xs news : List Value} {l : List UInt8}
    (hown1 : w1.ownsRow B 5 1 (.slice (some ⟨g', 0, none⟩) (n + m) cap') (n + m) (xs ++ news))
    (hN : escN s k = n) (hx : xs = byteCells (escTo s k))
    (he : escTo s (k + 1) = escTo s k ++ l) (hn : escN s (k + 1) = escN s k + m) (hl : news = byteCells l) :
    EscRel s B (k + 1) (.slice (some ⟨g', 0, none⟩) (n + m) cap') w1 := by
  right
  rw [hn, he, byteCells_append, ← hl, ← hx, hN]
  exact ⟨g', cap', rfl, hown1⟩

/-- The row, made into a string. -/
theorem conv_own {s : ByteArray} {B k g cap : Nat} {w : World} (hk : k = s.size)
    (hown : w.ownsRow B 5 1 (.slice (some ⟨g, 0, none⟩) (escN s k) cap) (escN s k) (byteCells (escTo s k))) :
    (convert 44 9 (.slice (some ⟨g, 0, none⟩) (escN s k) cap)).run Try.prog w = .ok (.string (escS s)) w := by
  have h := run_convert_bytes_back (P := Try.prog) w 44 9 5 ⟨g, 0, none⟩ cap (escTo s k) Try.underlying44 Try.underlying5 Try.underlying9 (fun j hj =>
    hown.cells rfl j _ (by simp [byteCells, hj]))
  subst hk
  rw [escTo_all] at h
  unfold escN
  rw [escTo_all]
  exact h

theorem plain_row {s : ByteArray} {k : Nat} (h : k ≤ s.size) (hp : PlainTo s k) : escN s k = k ∧ byteCells (s.extract 0 k).data.toList = byteCells (escTo s k) := by
  unfold PlainTo at hp
  unfold escN
  rw [hp]
  constructor
  · simp; omega
  · congr 1
    simp

theorem own_ge {w : World} {B g n cap : Nat} {xs : List Value} (h : w.ownsRow B 5 1 (.slice (some ⟨g, 0, none⟩) n cap) n xs) :
    ∀ k, (Value.slice (some ⟨g, 0, none⟩) n cap).ownBlock = some k → B ≤ k := fun k hk => (h.lt k hk).1

/-- 'make([]byte, n, c)' as a step of the walk: a row of the call's own, n zero bytes. -/
theorem wpList_make_part {P : Program} (w : World) {ops : Array Oper} {rest : List Oper} {o : Oper} {a : Act} {Q : Exit → Act → World → Prop}
    (hg : o.guard = none) (l c : Operand) (t : TypeId) (hop : o.op = Op.makeSlice t l c)
    (base : Nat) (e : TypeId) (i : TypeInfo) (z : Value) (h1 : P.underlying t = some (.slice e)) (h2 : P.info? e = some i) (h3 : i.zero = some z) (h4 : i.size = 1)
    (kl kc : IntKind) (L C : Int) (n m : Nat) (hl : a.eval l = .int kl L) (hc : a.eval c = .int kc C) (hL : L = (n : Int)) (hC : C = (m : Int)) (hnm : n ≤ m)
    (b2 : i.bytes * m ≤ 281474976710656) (b3 : m ≤ 9223372036854775807) (b4 : base ≤ w.heap.size)
    (hK : ∀ w' xs, w'.ownsRow base e 1 (.slice (some ⟨w.heap.size, 0, none⟩) n m) n xs → w.grownBy w' none → wpList P ops Q rest (a.put o.dst (.slice (some ⟨w.heap.size, 0, none⟩) n m)) w') :
    wpList P ops Q (o :: rest) a w := by
  refine wpList_plain hg fun K hK' => ?_
  subst hL
  subst hC
  have hb' : (i.bytes : Int) * (m : Int) ≤ 281474976710656 := by
    have h : ((i.bytes * m : Nat) : Int) ≤ 281474976710656 := by omega
    rwa [Int.natCast_mul] at h
  have hrun := run_make (P := P) w t e i z h1 h2 h3 kl kc n m (by omega) (by omega) hb' (by omega)
  simp only [Int.toNat_natCast] at hrun
  unfold Oper.wp
  simp [execOp, hop, hl, hc, hrun, Result.andThen]
  refine hK' _ _ (hK _ ((madeCells z.cells (m * i.size)).toList.take n) ?_ (World.grownBy_alloc w _ none))
  have hsz : (madeCells z.cells (m * i.size)).size = m := by rw [size_madeCells, h4, Nat.mul_one]
  refine ⟨?_, .inr ⟨w.heap.size, m, _, rfl, b4, heap_alloc_new w _, hnm, by unfold maxLen; omega, by rw [hsz, Nat.mul_one], by rw [Nat.mul_one]⟩⟩
  rw [List.length_take, Array.length_toList, hsz]
  omega

/-- 'copy(b, str)' over a row of the call's own, just as long as str. -/
theorem copy_own {w : World} {B g n cap : Nat} {xs : List Value} (str : ByteArray) (hn : str.size = n)
    (hown : w.ownsRow B 5 1 (.slice (some ⟨g, 0, none⟩) n cap) n xs) :
    ∃ w', (Builtin.copy_ #[44, 9] 3 #[.slice (some ⟨g, 0, none⟩) n cap, .string str]).run Try.prog w = .ok (goInt n) w' ∧
      w'.ownsRow B 5 1 (.slice (some ⟨g, 0, none⟩) n cap) n (byteCells str.data.toList) ∧ w.grownBy w' (some g) := by
  obtain ⟨i0, hi, hz0, hz1, hz2⟩ := info_parts info5
  have hlen : (byteCells str.data.toList).length = n := by rw [byteCells_length, ← size_eq, hn]
  rcases hown.2 with ⟨h, _⟩ | ⟨g', cap', cur, hv, hB, hh, hcap, hmx, hsz, htk⟩
  · simp at h
  · simp only [Value.slice.injEq, Option.some.injEq, Addr.mk.injEq] at hv
    obtain ⟨⟨rfl, _⟩, _, rfl⟩ := hv
    have hrun := run_copy_row_string (P := Try.prog) w 44 9 3 5 g 0 n cap str cur 5 Try.underlying44 (by rw [hi]; simp [hz1]) hh (by omega) (by omega)
    rw [hn] at hrun
    refine ⟨_, hrun, ⟨by rw [hlen]; omega, .inr ⟨g, cap, _, rfl, hB, setRow_heap w g _ _ 5 _ hh, hcap, hmx, ?_, ?_⟩⟩, ⟨rfl, rfl, rfl, by simp, fun k _ hk => setRow_other w g k _ (fun e => hk (by rw [e]))⟩⟩
    · simp only [List.take_zero, List.nil_append, List.size_toArray, List.length_append, hlen, List.length_drop, Array.length_toList]
      omega
    · simp only [List.take_zero, List.nil_append, Nat.mul_one]
      rw [List.take_append_of_le_length (by omega), List.take_of_length_le (by omega)]

/-- The digits that the text's own table gives are 'hexd''s. -/
theorem hex_table (m : Nat) (h : (m : Int).toNat < (ByteArray.mk #[48, 49, 50, 51, 52, 53, 54, 55, 56, 57, 97, 98, 99, 100, 101, 102]).size) :
    (ByteArray.mk #[48, 49, 50, 51, 52, 53, 54, 55, 56, 57, 97, 98, 99, 100, 101, 102])[(m : Int).toNat] = hexd m := by
  have h' : m < 16 := h
  have : ∀ n : Fin 16, (ByteArray.mk #[48, 49, 50, 51, 52, 53, 54, 55, 56, 57, 97, 98, 99, 100, 101, 102]).data[n.val]'(by have := n.isLt; simp) = hexd n.val := by decide
  exact this ⟨m, h'⟩

theorem hex_news {c : UInt8} (_hc : c.toNat < 256)
    (h1 : ((c.toNat : Int) / 16).toNat < (ByteArray.mk #[48, 49, 50, 51, 52, 53, 54, 55, 56, 57, 97, 98, 99, 100, 101, 102]).size)
    (h2 : ((c.toNat : Int) % 16).toNat < (ByteArray.mk #[48, 49, 50, 51, 52, 53, 54, 55, 56, 57, 97, 98, 99, 100, 101, 102]).size) :
    #[Value.int IntKind.u8 92, Value.int IntKind.u8 120,
      Value.int IntKind.u8 ((ByteArray.mk #[48, 49, 50, 51, 52, 53, 54, 55, 56, 57, 97, 98, 99, 100, 101, 102])[((c.toNat : Int) / 16).toNat].toNat : Int),
      Value.int IntKind.u8 ((ByteArray.mk #[48, 49, 50, 51, 52, 53, 54, 55, 56, 57, 97, 98, 99, 100, 101, 102])[((c.toNat : Int) % 16).toNat].toNat : Int)].toList
      = byteCells [92, 120, hexd (c.toNat / 16), hexd (c.toNat % 16)] := by
  have e1 := hex_table (c.toNat / 16) h1
  have e2 := hex_table (c.toNat % 16) h2
  show [_, _, _, _] = [_, _, _, _]
  congr 3
  · congr 1; exact congrArg (fun x : UInt8 => (x.toNat : Int)) e1
  · congr 2; exact congrArg (fun x : UInt8 => (x.toNat : Int)) e2

set_option maxHeartbeats 1000000 in
theorem escape_any (s : ByteArray) (w : World) (hs : s.size ≤ 1048576) :
    Calls Try.prog 9 #[.string s] w fun e w' => e = .returned (.string (escS s)) ∧ Below w.heap.size w w' := by
  have q1 : ∀ (w : World) (a : Option Addr) (n c n' c' : Nat), (binOp .eql 44 (.slice a n c) (.slice none n' c')).run Try.prog w = .ok (.bool a.isNone) w := fun w a n c n' c' => Lib.run_eql_slice_nil w _ _ a n c n' c' Try.underlying44
  have q2 : ∀ (w : World) (a : Option Addr) (n c n' c' : Nat), (binOp .neq 44 (.slice a n c) (.slice none n' c')).run Try.prog w = .ok (.bool (!a.isNone)) w := fun w a n c n' c' => run_neq_slice_nil_any w _ _ a n c n' c' Try.underlying44
  obtain ⟨i0, hi, hz0, hz1, hz2⟩ := info_parts info5
  go_enter Try.func9, Try.ntmps9
  go_wp2
  go_loopw [3, 4] (fun b i wr => ∃ k : Nat, k ≤ s.size ∧ i = .int .i64 k ∧ EscRel s w.heap.size k b wr ∧ Below w.heap.size w wr) (fun _ i _ => s.size - (intOf i).toNat)
  case atStart => exact ⟨0, Nat.zero_le _, rfl, Or.inl ⟨rfl, plainTo_zero s⟩, Below.refl _ _⟩
  case round =>
    obtain ⟨k, hk, rfl, hE, hbel⟩ := hrel
    by_cases hlt : k < s.size
    · rcases hE with ⟨rfl, hp⟩ | ⟨g, cap, rfl, hown⟩
      · cases hself : selfB (s[k].toNat : Int)
        · have HR : Hid (escTo s (k + 1) = escTo s k ++ [92, 120, hexd (s[k].toNat / 16), hexd (s[k].toNat % 16)] ∧ escN s (k + 1) = escN s k + 4) := ⟨by rw [escTo_succ s k hlt, escB_esc hself], escN_esc s k hlt hself⟩
          have HC : Hid (s[k].toNat < 256) := s[k].toNat_lt
          have b1 : bits .and .u8 (s[k].toNat : Int) 15 = (s[k].toNat : Int) % 16 := u8_and15 _ (by omega) (by have := HC.out; omega)
          have d1 : (0 : Int) ≤ (s[k].toNat : Int) / 16 := by have := HC.out; omega
          have d2 : (s[k].toNat : Int) / 16 < 16 := by have := HC.out; omega
          have d3 : (0 : Int) ≤ (s[k].toNat : Int) % 16 := by have := HC.out; omega
          have d4 : (s[k].toNat : Int) % 16 < 16 := by have := HC.out; omega
          have HN : Hid (escN s k = k ∧ byteCells (s.extract 0 k).data.toList = byteCells (escTo s k)) := plain_row hk hp
          clear hp
          have hsz := hbel.size
          have HX : Hid ((s.extract 0 k).size = k) := by show _ = _; simp; omega
          go_wp2_with (first
            | (go_at_call 22; refine (written_any _ _).mono ?_; rintro e w' ⟨rfl, rfl⟩)
            | (at_make; refine wpList_make_part _ rfl _ _ 44 rfl w.heap.size 5 i0 (.int .u8 0) Try.underlying44 hi hz0 hz1 _ _ _ _ k (s.size + 3 * (s.size - k)) rfl rfl rfl (by omega) (by omega) (by rw [hz2]; omega) (by omega) hsz ?_; intro w1 xs hown1 hgrow1; obtain ⟨w2, hcp, hown2, hgrow2⟩ := copy_own (s.extract 0 k) HX.out hown1; clear hown1))
          have hsz2 := hgrow1.size
          have hsz3 := hgrow2.size
          have hb2 : Below w.heap.size w w2 := (hbel.grown hgrow1 hsz (by intro j hj; cases hj)).grown hgrow2 (by omega) (by intro j hj; cases hj; exact hsz)
          clear hcp hgrow1 hgrow2 hbel
          go_region_law ((refine step_append_lies _ (by rfl) _ _ 44 (by rfl) w.heap.size 5 i0 (.int .u8 0) 1 1 Try.underlying44 hi hz0 hz1 hz2 rfl (by decide) _ _ _ (by rfl) (by exact (hown2.alloc _)) ⟨w2.heap.size, 0, none⟩ 4 4 _ (by rfl) (by rfl) (World.news_of_block (heap_alloc_new w2 _)) (by simp [Value.oneCell']) (by decide) (by unfold maxLen; omega) (by omega) (by simp; omega) (w2.heap.size + 1) (by simp) ?_; intro g' cap' w3 hown3 hgrow hat hlt3))
          all_goals
            go_wp2
            go_roundw
            case rel => exact ⟨k + 1, by omega, by go_num, rel_step hown3 HN.out.1 HN.out.2 HR.out.1 HR.out.2 (hex_news HC.out _ _), ((hb2.alloc hb2.size _).drew).grown hgrow (by simp; omega) (own_ge hown2)⟩
            case measure => simp [intOf]; omega
        · have HP : Hid (PlainTo s (k + 1)) := plainTo_succ s k hlt hp hself
          clear hp
          go_wp2_with (go_at_call 22; refine (written_any _ _).mono ?_; rintro e w' ⟨rfl, rfl⟩)
          go_roundw
          case rel => exact ⟨k + 1, by omega, by go_num, Or.inl ⟨rfl, HP.out⟩, hbel⟩
          case measure => simp [intOf]; omega
      · have hle := escN_le s k
        have hsz := hbel.size
        cases hself : selfB (s[k].toNat : Int)
        · have HR : Hid (escTo s (k + 1) = escTo s k ++ [92, 120, hexd (s[k].toNat / 16), hexd (s[k].toNat % 16)] ∧ escN s (k + 1) = escN s k + 4) := ⟨by rw [escTo_succ s k hlt, escB_esc hself], escN_esc s k hlt hself⟩
          have HC : Hid (s[k].toNat < 256) := s[k].toNat_lt
          have b1 : bits .and .u8 (s[k].toNat : Int) 15 = (s[k].toNat : Int) % 16 := u8_and15 _ (by omega) (by have := HC.out; omega)
          have d1 : (0 : Int) ≤ (s[k].toNat : Int) / 16 := by have := HC.out; omega
          have d2 : (s[k].toNat : Int) / 16 < 16 := by have := HC.out; omega
          have d3 : (0 : Int) ≤ (s[k].toNat : Int) % 16 := by have := HC.out; omega
          have d4 : (s[k].toNat : Int) % 16 < 16 := by have := HC.out; omega
          go_wp2_with (go_at_call 22; refine (written_any _ _).mono ?_; rintro e w' ⟨rfl, rfl⟩)
          go_region_law ((refine step_append_lies _ (by rfl) _ _ 44 (by rfl) w.heap.size 5 i0 (.int .u8 0) 1 1 Try.underlying44 hi hz0 hz1 hz2 rfl (by decide) _ _ _ (by rfl) (by exact (hown.alloc _)) ⟨wr.heap.size, 0, none⟩ 4 4 _ (by rfl) (by rfl) (World.news_of_block (heap_alloc_new wr _)) (by simp [Value.oneCell']) (by decide) (by unfold maxLen; omega) (by omega) (by simp; omega) (wr.heap.size + 1) (by simp) ?_; intro g' cap' w1 hown1 hgrow hat hlt1))
          all_goals
            go_wp2
            go_roundw
            case rel => exact ⟨k + 1, by omega, by go_num, rel_step hown1 rfl rfl HR.out.1 HR.out.2 (hex_news HC.out _ _), ((hbel.alloc hsz _).drew).grown hgrow (by simp; omega) (own_ge hown)⟩
            case measure => simp [intOf]; omega
        · have HR : Hid (escTo s (k + 1) = escTo s k ++ [s[k]] ∧ escN s (k + 1) = escN s k + 1) := ⟨by rw [escTo_succ s k hlt, escB_self hself], escN_self s k hlt hself⟩
          go_wp2_with (first
            | (go_at_call 22; refine (written_any _ _).mono ?_; rintro e w' ⟨rfl, rfl⟩)
            | (at_builtin; refine wpList_append_lies _ rfl _ _ 44 rfl w.heap.size 5 i0 (.int .u8 0) 1 1 Try.underlying44 hi hz0 hz1 hz2 rfl (by decide) _ _ _ (by rfl) (hown.alloc _) ⟨wr.heap.size, 0, none⟩ 1 1 [.int .u8 (s[k].toNat : Int)] (by rfl) rfl (World.news_of_block (heap_alloc_new wr _)) (by simp [Value.oneCell']) (by decide) (by unfold maxLen; omega) (by omega) (by simp; omega) (wr.heap.size + 1) (by simp) ?_; intro g' cap' w1 hown1 hgrow hat hlt1))
          go_roundw
          case rel => exact ⟨k + 1, by omega, by go_num, rel_step hown1 rfl rfl HR.out.1 HR.out.2 rfl, (hbel.alloc hsz _).grown hgrow (by simp; omega) (own_ge hown)⟩
          case measure => simp [intOf]; omega
    · rcases hE with ⟨rfl, hp⟩ | ⟨g, cap, rfl, hown⟩
      · go_wp2
        go_ret
        have : k = s.size := by omega
        subst this
        exact ⟨by rw [escS_plain s hp]; rfl, hbel⟩
      · have hcv := conv_own (by omega) hown
        go_wp2
        go_ret
        exact ⟨rfl, hbel⟩
end Go.Proofs.Qxb6601267a
