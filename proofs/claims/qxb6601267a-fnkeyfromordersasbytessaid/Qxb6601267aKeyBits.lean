/-
  The bits of keyFrom's two ways to make a key, over the model's own operators.
-/
import Derived.Test.Qxb6601267aLeaf
import Derived.Test.Qxb6601267aKeyPlain
import Derived.Laws.BitsAllLaws
import Derived.Laws.Bits64
import Derived.Lib.Strings
namespace Go.Proofs.Qxb6601267a
open Go.RowKit

/-- The key of s from d on. -/
def keyOf (s : ByteArray) (d : Nat) : Int := (key 7 (s.data.toList.drop d) : Int)

theorem shl_nat (c : UInt8) (M : Nat) (h : M ≤ 72057594037927936) : IntKind.u64.wrap (IntKind.u64.wrap (c.toNat : Int) * (M : Int)) = ((c.toNat * M : Nat) : Int) := by
  have hc := c.toNat_lt
  have h1 : IntKind.u64.wrap (c.toNat : Int) = (c.toNat : Int) := by rw [IntKind.wrap_u64]; omega
  have h2 : c.toNat * M ≤ 255 * 72057594037927936 := Nat.mul_le_mul (by omega) h
  rw [h1, ← Int.natCast_mul, IntKind.wrap_u64]
  omega

/-- One round of the short way. -/
theorem or_step (l : List UInt8) (m : Nat) (hm : m < l.length) (hl : l.length ≤ 7) (c : UInt8) (hc : l[m] = c) :
    bits .or .u64 (accK l m : Int) (IntKind.u64.wrap (IntKind.u64.wrap (c.toNat : Int) * 2 ^ (56 - 8 * m))) = (accK l (m + 1) : Int) := by
  subst hc
  have hp : 2 ^ (56 - 8 * m) ≤ 72057594037927936 := by
    have : (2 : Nat) ^ (56 - 8 * m) ≤ 2 ^ 56 := Nat.pow_le_pow_right (by omega) (by omega)
    omega
  have e : ((2 : Int) ^ (56 - 8 * m)) = ((2 ^ (56 - 8 * m) : Nat) : Int) := by simp
  rw [e, shl_nat _ _ hp]
  have h1 := accK_lt l m (by omega) hl
  have h2 : l[m].toNat * 2 ^ (56 - 8 * m) ≤ 255 * 72057594037927936 := Nat.mul_le_mul (by have := l[m].toNat_lt; omega) hp
  rw [u64_or_nat _ _ h1 (by omega), accK_succ l m hm hl]

theorem or_add (H c k : Nat) (hc : c < 256) : (H * 2 ^ (k + 8)) ||| (c * 2 ^ k) = (H * 256 + c) * 2 ^ k := by
  have h := or_mid H 0 c k hc (Nat.pow_pos (by omega))
  simpa using h

/-- The long way's bits. -/
theorem or_long (c0 c1 c2 c3 c4 c5 c6 : UInt8) :
    bits .or .u64 (bits .or .u64 (bits .or .u64 (bits .or .u64 (bits .or .u64 (bits .or .u64 (bits .or .u64
      (IntKind.u64.wrap (IntKind.u64.wrap (c0.toNat : Int) * 72057594037927936))
      (IntKind.u64.wrap (IntKind.u64.wrap (c1.toNat : Int) * 281474976710656)))
      (IntKind.u64.wrap (IntKind.u64.wrap (c2.toNat : Int) * 1099511627776)))
      (IntKind.u64.wrap (IntKind.u64.wrap (c3.toNat : Int) * 4294967296)))
      (IntKind.u64.wrap (IntKind.u64.wrap (c4.toNat : Int) * 16777216)))
      (IntKind.u64.wrap (IntKind.u64.wrap (c5.toNat : Int) * 65536)))
      (IntKind.u64.wrap (IntKind.u64.wrap (c6.toNat : Int) * 256)))
      8 = ((num [c0, c1, c2, c3, c4, c5, c6] * 256 + 8 : Nat) : Int) := by
  have l0 := c0.toNat_lt
  have l1 := c1.toNat_lt
  have l2 := c2.toNat_lt
  have l3 := c3.toNat_lt
  have l4 := c4.toNat_lt
  have l5 := c5.toNat_lt
  have l6 := c6.toNat_lt
  have s0 := shl_nat c0 72057594037927936 (by omega)
  have s1 := shl_nat c1 281474976710656 (by omega)
  have s2 := shl_nat c2 1099511627776 (by omega)
  have s3 := shl_nat c3 4294967296 (by omega)
  have s4 := shl_nat c4 16777216 (by omega)
  have s5 := shl_nat c5 65536 (by omega)
  have s6 := shl_nat c6 256 (by omega)
  simp only [Int.cast_ofNat_Int] at s0 s1 s2 s3 s4 s5 s6
  rw [s0, s1, s2, s3, s4, s5, s6]
  have o1 := or_add c0.toNat c1.toNat 48 l1
  have o2 := or_add (c0.toNat * 256 + c1.toNat) c2.toNat 40 l2
  have o3 := or_add ((c0.toNat * 256 + c1.toNat) * 256 + c2.toNat) c3.toNat 32 l3
  have o4 := or_add (((c0.toNat * 256 + c1.toNat) * 256 + c2.toNat) * 256 + c3.toNat) c4.toNat 24 l4
  have o5 := or_add ((((c0.toNat * 256 + c1.toNat) * 256 + c2.toNat) * 256 + c3.toNat) * 256 + c4.toNat) c5.toNat 16 l5
  have o6 := or_add (((((c0.toNat * 256 + c1.toNat) * 256 + c2.toNat) * 256 + c3.toNat) * 256 + c4.toNat) * 256 + c5.toNat) c6.toNat 8 l6
  have o7 : ((((((c0.toNat * 256 + c1.toNat) * 256 + c2.toNat) * 256 + c3.toNat) * 256 + c4.toNat) * 256 + c5.toNat) * 256 + c6.toNat) * 2 ^ 8 ||| 8 =
      ((((((c0.toNat * 256 + c1.toNat) * 256 + c2.toNat) * 256 + c3.toNat) * 256 + c4.toNat) * 256 + c5.toNat) * 256 + c6.toNat) * 2 ^ 8 + 8 := by
    rw [← Nat.shiftLeft_eq, Nat.shiftLeft_add_eq_or_of_lt (by omega)]
  simp only [Nat.reducePow, Nat.reduceAdd] at o1 o2 o3 o4 o5 o6 o7
  rw [u64_or_nat _ _ (by omega) (by omega), o1, u64_or_nat _ _ (by omega) (by omega), o2, u64_or_nat _ _ (by omega) (by omega), o3, u64_or_nat _ _ (by omega) (by omega), o4,
    u64_or_nat _ _ (by omega) (by omega), o5, u64_or_nat _ _ (by omega) (by omega), o6]
  have h8 := u64_or_nat ((((((((c0.toNat * 256 + c1.toNat) * 256 + c2.toNat) * 256 + c3.toNat) * 256 + c4.toNat) * 256 + c5.toNat) * 256 + c6.toNat) * 256)) 8 (by omega) (by omega)
  simp only [Int.cast_ofNat_Int] at h8
  rw [h8, o7]
  have : num [c0, c1, c2, c3, c4, c5, c6] = ((((((c0.toNat * 256 + c1.toNat) * 256 + c2.toNat) * 256 + c3.toNat) * 256 + c4.toNat) * 256 + c5.toNat) * 256 + c6.toNat) := by
    simp only [num, List.length_cons, List.length_nil, Nat.reduceAdd, Nat.reducePow]
    omega
  rw [this]

theorem take_seven : ∀ (L : List UInt8) (h : L.length = 8), L.take 7 = [L[0], L[1], L[2], L[3], L[4], L[5], L[6]]
  | [_, _, _, _, _, _, _, _], _ => rfl

/-- The long way's key. -/
theorem long_key (s x : ByteArray) (d : Nat) (hx : s.extract d (d + 8) = x) (h8 : x.size = 8) (h : 7 < s.size - d) :
    bits .or .u64 (bits .or .u64 (bits .or .u64 (bits .or .u64 (bits .or .u64 (bits .or .u64 (bits .or .u64
      (IntKind.u64.wrap (IntKind.u64.wrap (x[0].toNat : Int) * 72057594037927936))
      (IntKind.u64.wrap (IntKind.u64.wrap (x[1].toNat : Int) * 281474976710656)))
      (IntKind.u64.wrap (IntKind.u64.wrap (x[2].toNat : Int) * 1099511627776)))
      (IntKind.u64.wrap (IntKind.u64.wrap (x[3].toNat : Int) * 4294967296)))
      (IntKind.u64.wrap (IntKind.u64.wrap (x[4].toNat : Int) * 16777216)))
      (IntKind.u64.wrap (IntKind.u64.wrap (x[5].toNat : Int) * 65536)))
      (IntKind.u64.wrap (IntKind.u64.wrap (x[6].toNat : Int) * 256)))
      8 = keyOf s d := by
  rw [or_long]
  unfold keyOf
  rw [key_long 7 _ (by simp; omega)]
  have hL : x.data.toList = (s.data.toList.drop d).take 8 := by
    rw [← hx, Lib.extract_data, show d + 8 - d = 8 from by omega]
  have h7 : (s.data.toList.drop d).take 7 = x.data.toList.take 7 := by
    rw [hL, List.take_take]; rfl
  rw [h7, take_seven x.data.toList (by simpa using h8)]
  rfl

/-- The short way's bytes. -/
theorem drop_get (s : ByteArray) (d m : Nat) (h : d + m < s.size) : (s.data.toList.drop d)[m]'(by simp; omega) = s[d + m] := by
  rw [List.getElem_drop]; rfl

theorem or_round (s : ByteArray) (d m : Nat) (h : d + m < s.size) (h7 : s.size - d ≤ 7) :
    bits .or .u64 (accK (s.data.toList.drop d) m : Int) (IntKind.u64.wrap (IntKind.u64.wrap (s[d + m].toNat : Int) * 2 ^ (56 - 8 * m))) = (accK (s.data.toList.drop d) (m + 1) : Int) :=
  or_step _ m (by simp; omega) (by simp; omega) _ (drop_get s d m h)

theorem short_key (s : ByteArray) (d : Nat) (h7 : s.size - d ≤ 7) : (accK (s.data.toList.drop d) (s.size - d) : Int) = keyOf s d := by
  unfold keyOf
  have hl : (s.data.toList.drop d).length = s.size - d := by simp
  rw [← accK_all _ (by omega), hl]

end Go.Proofs.Qxb6601267a
