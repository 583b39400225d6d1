/-
  The plain mathematics of EscapeID: what it writes, that it writes no two texts alike. No Go in sight.
-/
namespace Go.Proofs.Qxb6601267a

/-- May the byte c (as a number) be written as itself? -/
def selfB (c : Int) : Bool := decide (33 ≤ c) && decide (c ≤ 126) && !(c == 44) && !(c == 92)

theorem selfB_true {c : Int} : selfB c = true ↔ (33 ≤ c ∧ c ≤ 126 ∧ c ≠ 44 ∧ c ≠ 92) := by
  simp [selfB, and_assoc]

theorem selfB_false {c : Int} : selfB c = false ↔ ¬ (33 ≤ c ∧ c ≤ 126 ∧ c ≠ 44 ∧ c ≠ 92) := by
  rw [← selfB_true]; simp

/-- The sixteen lower-case hexadecimal digits. -/
def hexS : ByteArray := ⟨#[48, 49, 50, 51, 52, 53, 54, 55, 56, 57, 97, 98, 99, 100, 101, 102]⟩

/-- The digit for n (n < 16). -/
def hexd (n : Nat) : UInt8 := if n < 10 then UInt8.ofNat (48 + n) else UInt8.ofNat (87 + n)

theorem hexd_toNat (n : Nat) (h : n < 16) : (hexd n).toNat = if n < 10 then 48 + n else 87 + n := by
  unfold hexd
  split <;> simp [UInt8.toNat_ofNat'] <;> omega

theorem hexd_inj {a b : Nat} (ha : a < 16) (hb : b < 16) (h : hexd a = hexd b) : a = b := by
  have h1 := hexd_toNat a ha
  have h2 := hexd_toNat b hb
  rw [h] at h1
  rw [h1] at h2
  split at h2 <;> split at h2 <;> omega

/-- What is written for one byte. -/
def escB (c : UInt8) : List UInt8 :=
  if selfB (c.toNat : Int) = true then [c] else [92, 120, hexd (c.toNat / 16), hexd (c.toNat % 16)]

theorem escB_self {c : UInt8} (h : selfB (c.toNat : Int) = true) : escB c = [c] := by unfold escB; rw [if_pos h]
theorem escB_esc {c : UInt8} (h : selfB (c.toNat : Int) = false) : escB c = [92, 120, hexd (c.toNat / 16), hexd (c.toNat % 16)] := by
  unfold escB; rw [if_neg (by rw [h]; simp)]

theorem escB_len (c : UInt8) : 1 ≤ (escB c).length ∧ (escB c).length ≤ 4 := by
  unfold escB; split <;> simp

/-- What is written for a text. -/
def esc : List UInt8 → List UInt8
  | [] => []
  | c :: l => escB c ++ esc l

theorem esc_append (a b : List UInt8) : esc (a ++ b) = esc a ++ esc b := by
  induction a with
  | nil => rfl
  | cons c a ih => simp [esc, ih]

theorem esc_len (l : List UInt8) : (esc l).length ≤ 4 * l.length := by
  induction l with
  | nil => simp [esc]
  | cons c l ih => have := escB_len c; simp [esc]; omega

/-- Two bytes that are written alike, whatever follows, are one byte. -/
theorem escB_inj {c d : UInt8} {r r' : List UInt8} (h : escB c ++ r = escB d ++ r') : c = d ∧ r = r' := by
  cases hc : selfB (c.toNat : Int) <;> cases hd : selfB (d.toNat : Int)
  · rw [escB_esc hc, escB_esc hd] at h
    simp only [List.cons_append, List.nil_append, List.cons.injEq, true_and] at h
    obtain ⟨h1, h2, h3⟩ := h
    have c1 := c.toNat_lt
    have d1 := d.toNat_lt
    have e1 := hexd_inj (by omega) (by omega) h1
    have e2 := hexd_inj (by omega) (by omega) h2
    exact ⟨UInt8.toNat_inj.1 (by omega), h3⟩
  · rw [escB_esc hc, escB_self hd] at h
    simp only [List.cons_append, List.nil_append, List.cons.injEq] at h
    rw [← h.1] at hd
    exact absurd hd (by decide)
  · rw [escB_self hc, escB_esc hd] at h
    simp only [List.cons_append, List.nil_append, List.cons.injEq] at h
    rw [h.1] at hc
    exact absurd hc (by decide)
  · rw [escB_self hc, escB_self hd] at h
    simpa using h

theorem escB_ne_nil (c : UInt8) : escB c ≠ [] := by
  have := escB_len c
  intro h; rw [h] at this; simp at this

/-- No two texts are written alike. -/
theorem esc_inj : ∀ {a b : List UInt8}, esc a = esc b → a = b
  | [], [], _ => rfl
  | [], d :: b, h => by
    simp only [esc] at h
    have := List.append_eq_nil_iff.1 h.symm
    exact absurd this.1 (escB_ne_nil d)
  | c :: a, [], h => by
    simp only [esc] at h
    have := List.append_eq_nil_iff.1 h
    exact absurd this.1 (escB_ne_nil c)
  | c :: a, d :: b, h => by
    simp only [esc] at h
    obtain ⟨h1, h2⟩ := escB_inj h
    rw [h1, esc_inj h2]

/-- What is written for the first k bytes of s. -/
def escTo (s : ByteArray) (k : Nat) : List UInt8 := esc (s.data.toList.take k)

/-- The length of what is written for the first k bytes. -/
def escN (s : ByteArray) (k : Nat) : Nat := (escTo s k).length

/-- The first k bytes are written as themselves. -/
def PlainTo (s : ByteArray) (k : Nat) : Prop := escTo s k = s.data.toList.take k

theorem take_snoc (s : ByteArray) (k : Nat) (h : k < s.size) : s.data.toList.take (k + 1) = s.data.toList.take k ++ [s[k]] := by
  rw [List.take_succ_eq_append_getElem (by simpa using h)]; rfl

theorem escTo_succ (s : ByteArray) (k : Nat) (h : k < s.size) : escTo s (k + 1) = escTo s k ++ escB s[k] := by
  unfold escTo
  rw [take_snoc s k h, esc_append]
  simp [esc]

theorem escTo_zero (s : ByteArray) : escTo s 0 = [] := by simp [escTo, esc]

theorem plainTo_zero (s : ByteArray) : PlainTo s 0 := by simp [PlainTo, escTo, esc]

theorem plainTo_succ (s : ByteArray) (k : Nat) (h : k < s.size) (hp : PlainTo s k) (hs : selfB (s[k].toNat : Int) = true) : PlainTo s (k + 1) := by
  unfold PlainTo at *
  rw [escTo_succ s k h, hp, take_snoc s k h, escB_self hs]

theorem escN_le (s : ByteArray) (k : Nat) : escN s k ≤ 4 * k := by
  have h1 := esc_len (s.data.toList.take k)
  have h2 : (s.data.toList.take k).length ≤ k := List.length_take_le _ _
  unfold escN escTo
  omega

theorem escN_self (s : ByteArray) (k : Nat) (h : k < s.size) (hs : selfB (s[k].toNat : Int) = true) : escN s (k + 1) = escN s k + 1 := by
  unfold escN
  rw [escTo_succ s k h, escB_self hs]; simp

theorem escN_esc (s : ByteArray) (k : Nat) (h : k < s.size) (hs : selfB (s[k].toNat : Int) = false) : escN s (k + 1) = escN s k + 4 := by
  unfold escN
  rw [escTo_succ s k h, escB_esc hs]; simp

/-- What EscapeID writes for s, as a string. -/
def escS (s : ByteArray) : ByteArray := ⟨(esc s.data.toList).toArray⟩

theorem escTo_all (s : ByteArray) : escTo s s.size = esc s.data.toList := by
  unfold escTo
  rw [List.take_of_length_le (by simp)]

theorem escS_plain (s : ByteArray) (h : PlainTo s s.size) : escS s = s := by
  unfold PlainTo at h
  rw [escTo_all, List.take_of_length_le (by simp)] at h
  unfold escS
  rw [h]

theorem escS_inj {s t : ByteArray} : escS s = escS t ↔ s = t := by
  constructor
  · intro h
    have h1 : (esc s.data.toList).toArray = (esc t.data.toList).toArray := congrArg ByteArray.data h
    have h2 := esc_inj (List.toArray_inj h1)
    have h3 : s.data = t.data := Array.toList_inj.1 h2
    cases s; cases t; simp_all
  · intro h; rw [h]

end Go.Proofs.Qxb6601267a
