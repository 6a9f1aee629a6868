/-
  The plain functions of this seat: what 'appendString' appends, as lists of numbers. No Go in sight.
-/
namespace Go.Proofs.Qxb6601577a

/-- One lower-case hexadecimal digit. -/
def hexd (n : Int) : Int := if n < 10 then 48 + n else 87 + n
/-- What one byte is written as. -/
def esc (c : Int) : List Int :=
  if c = 34 ∨ c = 92 then [92, c] else if c = 8 then [92, 98] else if c = 9 then [92, 116] else if c = 10 then [92, 110] else if c = 12 then [92, 102] else if c = 13 then [92, 114]
  else if c < 32 then [92, 117, 48, 48, hexd (c / 16), hexd (c % 16)] else [c]
/-- What a list of bytes is written as. -/
def encL : List Int → List Int
  | [] => []
  | c :: l => esc c ++ encL l
/-- The quoted text. -/
def quo (l : List Int) : List Int := 34 :: (encL l ++ [34])
/-- A byte that stands as it is. -/
def plainC (c : Int) : Bool := !(decide (c < 32) || c == 34 || c == 92)
/-- A byte that takes six. -/
def worstC (c : Int) : Bool := !(decide (32 ≤ c) || c == 8 || c == 9 || c == 10 || c == 12 || c == 13)
def plainL (l : List Int) : Bool := l.all plainC
def worstL (l : List Int) : Bool := l.all worstC

theorem encL_append (a b : List Int) : encL (a ++ b) = encL a ++ encL b := by
  induction a with
  | nil => rfl
  | cons c l ih => simp [encL, ih]
theorem encL_snoc (a : List Int) (c : Int) : encL (a ++ [c]) = encL a ++ esc c := by simp [encL_append, encL]

theorem esc_len (c : Int) : 1 ≤ (esc c).length ∧ (esc c).length ≤ 6 := by
  unfold esc
  repeat' split
  all_goals simp
theorem esc_len_one (c : Int) : (esc c).length = 1 ↔ plainC c = true := by
  unfold esc plainC
  repeat' split
  all_goals simp
  all_goals omega
theorem esc_len_six (c : Int) : (esc c).length = 6 ↔ worstC c = true := by
  unfold esc worstC
  repeat' split
  all_goals simp
  all_goals omega

theorem encL_len (l : List Int) : l.length ≤ (encL l).length ∧ (encL l).length ≤ 6 * l.length := by
  induction l with
  | nil => simp [encL]
  | cons c l ih => have := esc_len c; simp only [encL, List.length_append, List.length_cons]; omega
theorem encL_len_plain (l : List Int) : (encL l).length = l.length ↔ plainL l = true := by
  induction l with
  | nil => simp [encL, plainL]
  | cons c l ih =>
    have h1 := esc_len c
    have h2 := esc_len_one c
    have h3 := encL_len l
    simp only [encL, List.length_append, List.length_cons, plainL, List.all_cons, Bool.and_eq_true] at *
    rw [← h2, ← ih]
    omega
theorem encL_len_worst (l : List Int) : (encL l).length = 6 * l.length ↔ worstL l = true := by
  induction l with
  | nil => simp [encL, worstL]
  | cons c l ih =>
    have h1 := esc_len c
    have h2 := esc_len_six c
    have h3 := encL_len l
    simp only [encL, List.length_append, List.length_cons, worstL, List.all_cons, Bool.and_eq_true] at *
    rw [← h2, ← ih]
    omega
theorem plainL_snoc (l : List Int) (c : Int) : plainL (l ++ [c]) = (plainL l && plainC c) := by simp [plainL]
theorem worstL_snoc (l : List Int) (c : Int) : worstL (l ++ [c]) = (worstL l && worstC c) := by simp [worstL]

/-- The bytes of a string as numbers. -/
def bs (s : ByteArray) : List Int := s.data.toList.map fun b => (b.toNat : Int)
theorem bs_length (s : ByteArray) : (bs s).length = s.size := by simp [bs]
theorem bs_take_succ (s : ByteArray) (k : Nat) (h : k < s.size) : (bs s).take (k + 1) = (bs s).take k ++ [((s[k]).toNat : Int)] := by
  rw [List.take_succ_eq_append_getElem (by simpa [bs_length] using h)]
  simp [bs]
  rfl
theorem bs_take_all (s : ByteArray) : (bs s).take s.size = bs s := List.take_of_length_le (by simp [bs_length])
theorem bs_append (s t : ByteArray) : bs (s ++ t) = bs s ++ bs t := by simp [bs]

/-- The quoted text of two strings behind one another. -/
theorem quo_append (a b : List Int) : quo (a ++ b) = (quo a).take ((quo a).length - 1) ++ (quo b).drop 1 := by
  have e : quo a = (34 :: encL a) ++ [34] := by simp [quo]
  have h : (quo a).take ((quo a).length - 1) = 34 :: encL a := by
    rw [e, List.take_append_of_le_length (by simp)]
    exact List.take_of_length_le (by simp)
  rw [h]
  simp [quo, encL_append]
theorem quo_len (a : List Int) : (quo a).length = (encL a).length + 2 := by simp [quo]
theorem quo_tail (zs a b : List Int) (E n : Nat) (hE : E = zs.length + (encL a).length + 1) (hn : (encL b).length + 1 ≤ n) : (quo b).drop 1 = ((zs ++ quo (a ++ b)).drop E).take n := by
  have h1 : (zs ++ (quo a).take ((quo a).length - 1)).length = E := by rw [List.length_append, List.length_take, quo_len, hE]; omega
  rw [quo_append, ← List.append_assoc, ← h1, List.drop_left]
  exact (List.take_of_length_le (by rw [List.length_drop, quo_len]; omega)).symm
theorem quo_head (zs a b : List Int) (n : Nat) (hn : n = (encL a).length + 1) : (quo a).take n = ((zs ++ quo (a ++ b)).drop zs.length).take n := by
  have h1 : ((quo a).take ((quo a).length - 1)).length = n := by rw [List.length_take, quo_len, hn]; omega
  rw [List.drop_left, quo_append, List.take_append_of_le_length (by omega), List.take_take, quo_len, hn, show (encL a).length + 2 - 1 = (encL a).length + 1 by omega, Nat.min_self]

end Go.Proofs.Qxb6601577a
