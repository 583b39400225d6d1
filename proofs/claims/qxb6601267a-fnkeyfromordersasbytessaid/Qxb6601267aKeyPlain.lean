/-
  The plain mathematics of keyFrom: the key of a text, and that keys order texts as their bytes do. No Go in sight.
-/
namespace Go.Proofs.Qxb6601267a

/-- Byte order: -1, 0 or 1. -/
def cmpL : List UInt8 → List UInt8 → Int
  | [], [] => 0
  | [], _ :: _ => -1
  | _ :: _, [] => 1
  | c :: a, d :: b => if c.toNat < d.toNat then -1 else if d.toNat < c.toNat then 1 else cmpL a b

theorem cmpL_range (a b : List UInt8) : cmpL a b = -1 ∨ cmpL a b = 0 ∨ cmpL a b = 1 := by
  induction a generalizing b with
  | nil => cases b <;> simp [cmpL]
  | cons c a ih =>
    cases b with
    | nil => simp [cmpL]
    | cons d b =>
      simp only [cmpL]
      split
      · simp
      · split
        · simp
        · exact ih b

/-- The key of a text with n bytes left to be laid (n = 7 at first). -/
def key : Nat → List UInt8 → Nat
  | 0, [] => 7
  | 0, _ :: _ => 8
  | n + 1, [] => 7 - (n + 1)
  | n + 1, c :: l => c.toNat * 256 ^ (n + 1) + key n l

theorem key_lt (n : Nat) (l : List UInt8) : key n l < 256 ^ (n + 1) := by
  induction n generalizing l with
  | zero => cases l <;> simp [key]
  | succ n ih =>
    have hp : 0 < 256 ^ n := Nat.pow_pos (by omega)
    cases l with
    | nil =>
      simp only [key]
      have : (256 : Nat) ^ (n + 1 + 1) = 256 * (256 * 256 ^ n) := by rw [Nat.pow_succ, Nat.pow_succ]; omega
      rw [this]; omega
    | cons c l =>
      have h1 := ih l
      have h2 := c.toNat_lt
      simp only [key]
      have e : (256 : Nat) ^ (n + 1 + 1) = 256 * 256 ^ (n + 1) := by rw [Nat.pow_succ]; omega
      rw [e]
      generalize 256 ^ (n + 1) = M at *
      have : c.toNat * M ≤ 255 * M := Nat.mul_le_mul_right M (by omega)
      omega

theorem key_ge (n : Nat) (l : List UInt8) : 7 - n ≤ key n l := by
  induction n generalizing l with
  | zero => cases l <;> simp [key]
  | succ n ih =>
    cases l with
    | nil => simp [key]
    | cons c l => have := ih l; simp only [key]; omega

/-- Two texts that are both longer and agree in what is laid get one key. -/
theorem key_same (n : Nat) (a b : List UInt8) (ha : n < a.length) (hb : n < b.length) (h : a.take n = b.take n) : key n a = key n b := by
  induction n generalizing a b with
  | zero =>
    cases a with
    | nil => simp at ha
    | cons c a => cases b with
      | nil => simp at hb
      | cons d b => simp [key]
  | succ n ih =>
    cases a with
    | nil => simp at ha
    | cons c a => cases b with
      | nil => simp at hb
      | cons d b =>
        simp only [List.take_succ_cons, List.cons.injEq] at h
        simp only [key]
        rw [h.1, ih a b (by simpa using ha) (by simpa using hb) h.2]

/-- Else the keys order them as their bytes do. -/
theorem key_order (n : Nat) (hn : n ≤ 7) (a b : List UInt8) (h : ¬ (n < a.length ∧ n < b.length ∧ a.take n = b.take n)) :
    (key n a < key n b ↔ cmpL a b < 0) ∧ (key n b < key n a ↔ 0 < cmpL a b) := by
  induction n generalizing a b with
  | zero =>
    cases a with
    | nil => cases b <;> simp [key, cmpL]
    | cons c a => cases b with
      | nil => simp [key, cmpL]
      | cons d b => simp at h
  | succ n ih =>
    cases a with
    | nil => cases b with
      | nil => simp [key, cmpL]
      | cons d b =>
        have h1 := key_ge n b
        simp only [key, cmpL]
        omega
    | cons c a => cases b with
      | nil =>
        have h1 := key_ge n a
        simp only [key, cmpL]
        omega
      | cons d b =>
        have h1 := key_lt n a
        have h2 := key_lt n b
        simp only [key, cmpL]
        generalize 256 ^ (n + 1) = M at *
        rcases Nat.lt_trichotomy c.toNat d.toNat with hlt | heq | hgt
        · have hm : (c.toNat + 1) * M ≤ d.toNat * M := Nat.mul_le_mul_right M hlt
          rw [Nat.add_mul, Nat.one_mul] at hm
          rw [if_pos hlt]
          omega
        · have hc : c = d := UInt8.toNat_inj.1 heq
          subst hc
          rw [if_neg (by omega), if_neg (by omega)]
          have := ih (by omega) a b (by
            intro hh
            apply h
            simp only [List.length_cons, List.take_succ_cons, List.cons.injEq, true_and]
            exact ⟨by omega, by omega, hh.2.2⟩)
          omega
        · have hm : (d.toNat + 1) * M ≤ c.toNat * M := Nat.mul_le_mul_right M hgt
          rw [Nat.add_mul, Nat.one_mul] at hm
          rw [if_neg (by omega), if_pos hgt]
          omega

/-- The number that the bytes of l spell, the first highest. -/
def num : List UInt8 → Nat
  | [] => 0
  | c :: l => c.toNat * 256 ^ l.length + num l

theorem num_snoc (l : List UInt8) (c : UInt8) : num (l ++ [c]) = num l * 256 + c.toNat := by
  induction l with
  | nil => simp [num]
  | cons d l ih =>
    simp only [List.cons_append, num, ih, List.length_append, List.length_cons, List.length_nil, Nat.zero_add]
    rw [Nat.pow_succ, Nat.add_mul, Nat.mul_assoc]
    omega

theorem num_lt (l : List UInt8) : num l < 256 ^ l.length := by
  induction l with
  | nil => simp [num]
  | cons c l ih =>
    have hc := c.toNat_lt
    simp only [num, List.length_cons, Nat.pow_succ]
    generalize 256 ^ l.length = M at *
    have : c.toNat * M ≤ 255 * M := Nat.mul_le_mul_right M (by omega)
    omega

/-- The key of a text with no more than n bytes. -/
theorem key_short (n : Nat) (hn : n ≤ 7) (l : List UInt8) (h : l.length ≤ n) : key n l = num l * 256 ^ (n + 1 - l.length) + (7 - n + l.length) := by
  induction n generalizing l with
  | zero =>
    cases l with
    | nil => simp [key, num]
    | cons c l => simp at h
  | succ n ih =>
    cases l with
    | nil => simp [key, num]
    | cons c l =>
      simp only [List.length_cons] at h
      simp only [key, num, List.length_cons]
      rw [ih (by omega) l (by omega), Nat.add_mul, Nat.mul_assoc, ← Nat.pow_add]
      rw [show l.length + (n + 1 + 1 - (l.length + 1)) = n + 1 from by omega, show n + 1 + 1 - (l.length + 1) = n + 1 - l.length from by omega]
      omega

/-- The key of a text with more than n bytes. -/
theorem key_long (n : Nat) (l : List UInt8) (h : n < l.length) : key n l = num (l.take n) * 256 + 8 := by
  induction n generalizing l with
  | zero =>
    cases l with
    | nil => simp at h
    | cons c l => simp [key, num]
  | succ n ih =>
    cases l with
    | nil => simp at h
    | cons c l =>
      simp only [List.length_cons] at h
      simp only [key, List.take_succ_cons, num]
      rw [ih l (by omega), List.length_take, Nat.min_eq_left (by omega), Nat.add_mul, Nat.mul_assoc, show (256 : Nat) ^ n * 256 = 256 ^ (n + 1) from (Nat.pow_succ 256 n).symm]
      omega

/-- Bits that do not meet: a high part, a byte below it, a low part below that. -/
theorem or_mid (H L c k : Nat) (hc : c < 256) (hL : L < 2 ^ k) : (H * 2 ^ (k + 8) + L) ||| (c * 2 ^ k) = (H * 256 + c) * 2 ^ k + L := by
  have hk : 2 ^ (k + 8) = 2 ^ k * 256 := by rw [Nat.pow_add]
  have h1 : c * 2 ^ k + L < 2 ^ (k + 8) := by
    rw [hk]
    have : c * 2 ^ k ≤ 255 * 2 ^ k := Nat.mul_le_mul_right _ (by omega)
    omega
  have h2 : L < 2 ^ (k + 8) := by omega
  rw [← Nat.shiftLeft_eq H, ← Nat.shiftLeft_eq c, Nat.shiftLeft_add_eq_or_of_lt h2, Nat.or_assoc, Nat.or_comm L, ← Nat.shiftLeft_add_eq_or_of_lt hL,
    ← Nat.shiftLeft_add_eq_or_of_lt (by rw [Nat.shiftLeft_eq]; exact h1), Nat.shiftLeft_eq, Nat.shiftLeft_eq, hk, Nat.add_mul, Nat.mul_assoc, Nat.mul_comm 256]
  omega

/-- The key as the short branch's loop has it behind m rounds. -/
def accK (l : List UInt8) (m : Nat) : Nat := num (l.take m) * 2 ^ (64 - 8 * m) + l.length

theorem accK_zero (l : List UInt8) : accK l 0 = l.length := by simp [accK, num]

theorem accK_succ (l : List UInt8) (m : Nat) (hm : m < l.length) (hl : l.length ≤ 7) : accK l m ||| (l[m].toNat * 2 ^ (56 - 8 * m)) = accK l (m + 1) := by
  have hL : l.length < 2 ^ (56 - 8 * m) := by
    have h8 : 2 ^ 8 ≤ 2 ^ (56 - 8 * m) := Nat.pow_le_pow_right (by omega) (by omega)
    omega
  have h := or_mid (num (l.take m)) l.length l[m].toNat (56 - 8 * m) l[m].toNat_lt hL
  unfold accK
  rw [show 64 - 8 * m = 56 - 8 * m + 8 from by omega, h, List.take_succ_eq_append_getElem hm, num_snoc, show 64 - 8 * (m + 1) = 56 - 8 * m from by omega]

theorem accK_lt (l : List UInt8) (m : Nat) (hm : m ≤ l.length) (hl : l.length ≤ 7) : accK l m < 18446744073709551616 := by
  have h := num_lt (l.take m)
  rw [List.length_take, Nat.min_eq_left hm] at h
  have e : (256 : Nat) ^ m = 2 ^ (8 * m) := by rw [Nat.pow_mul]
  rw [e] at h
  unfold accK
  have h2 : (num (l.take m) + 1) * 2 ^ (64 - 8 * m) ≤ 2 ^ (8 * m) * 2 ^ (64 - 8 * m) := Nat.mul_le_mul_right _ h
  rw [← Nat.pow_add, show 8 * m + (64 - 8 * m) = 64 from by omega, Nat.add_mul, Nat.one_mul] at h2
  have h3 : 2 ^ 8 ≤ 2 ^ (64 - 8 * m) := Nat.pow_le_pow_right (by omega) (by omega)
  omega

theorem accK_all (l : List UInt8) (hl : l.length ≤ 7) : accK l l.length = key 7 l := by
  rw [key_short 7 (by omega) l hl]
  unfold accK
  rw [List.take_length]
  have e : (256 : Nat) ^ (7 + 1 - l.length) = 2 ^ (64 - 8 * l.length) := by
    rw [show 64 - 8 * l.length = 8 * (7 + 1 - l.length) from by omega, Nat.pow_mul]
  rw [e]
  omega

end Go.Proofs.Qxb6601267a
