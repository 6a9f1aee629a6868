/-
  The plain functions of this seat, over lists of bytes: no Go in sight.
-/
namespace Go.Proofs.Qxb6605186a

abbrev Bytes := List UInt8

/-- What is kept from here on; the Bool: is the next byte escaped? -/
def scan : Bool → Bytes → Bytes
  | _, [] => []
  | true, c :: r => c :: scan false r
  | false, c :: r => if c = 92 then c :: scan true r else if c = 34 then [c] else c :: scan false r
/-- What 'quoted' returns. -/
def quotedL : Bytes → Bytes
  | [] => []
  | a :: r => a :: scan false r
/-- Is the byte at place j escaped? -/
def escd (l : Bytes) : Nat → Bool
  | 0 => false
  | 1 => false
  | (j + 2) => l[j + 1]? == some 92 && !escd l (j + 1)

theorem escd_succ (l : Bytes) (j : Nat) (h : 1 ≤ j) : escd l (j + 1) = (l[j]? == some 92 && !escd l j) := by
  match j, h with
  | j + 1, _ => rfl
theorem escd_one (l : Bytes) : escd l 1 = false := rfl

/-- The relation of both loops: what stands ahead of k is kept, the rest is scanned. -/
def At (l : Bytes) (b : Bool) (k : Nat) : Prop := quotedL l = l.take k ++ scan b (l.drop k)
theorem at_one (l : Bytes) : At l false 1 := by
  cases l with
  | nil => rfl
  | cons a r => simp [At, quotedL]
theorem at_end {l : Bytes} {b : Bool} {k : Nat} (h : At l b k) (hk : l.length ≤ k) : quotedL l = l := by
  unfold At at h
  rw [List.drop_eq_nil_of_le hk, List.take_of_length_le hk] at h
  rw [h]
  cases b <;> simp [scan]
theorem drop_cons {l : Bytes} {k : Nat} (hk : k < l.length) : l.drop k = l[k] :: l.drop (k + 1) := List.drop_eq_getElem_cons hk
theorem take_snoc {l : Bytes} {k : Nat} (hk : k < l.length) : l.take (k + 1) = l.take k ++ [l[k]] := List.take_succ_eq_append_getElem hk
/-- An escaped byte is kept. -/
theorem at_skip {l : Bytes} {k : Nat} (h : At l true k) (hk : k < l.length) : At l false (k + 1) := by
  unfold At at *
  rw [h, drop_cons hk, take_snoc hk, List.append_assoc]
  rfl
/-- A backslash: the next one is escaped. -/
theorem at_back {l : Bytes} {k : Nat} (h : At l false k) (hk : k < l.length) (hc : l[k] = 92) : At l true (k + 1) := by
  unfold At at *
  rw [h, drop_cons hk, take_snoc hk]
  simp [scan, hc]
/-- A plain byte. -/
theorem at_plain {l : Bytes} {k : Nat} (h : At l false k) (hk : k < l.length) (hc : ¬ l[k] = 92) (hq : ¬ l[k] = 34) : At l false (k + 1) := by
  unfold At at *
  rw [h, drop_cons hk, take_snoc hk, List.append_assoc]
  simp only [scan, hc, hq, if_false, List.cons_append, List.nil_append]
/-- The closing quote. -/
theorem at_quote {l : Bytes} {k : Nat} (h : At l false k) (hk : k < l.length) (hq : l[k] = 34) : quotedL l = l.take (k + 1) := by
  unfold At at h
  rw [h, drop_cons hk, take_snoc hk]
  simp [scan, hq]
/-- A backslash and whatever follows, 'quoted''s own step. -/
theorem at_two {l : Bytes} {k : Nat} (h : At l false k) (hk : k < l.length) (hc : l[k] = 92) : At l false (k + 2) := by
  have h1 := at_back h hk hc
  by_cases h2 : k + 1 < l.length
  · exact at_skip h1 h2
  · have e := at_end h1 (by omega)
    unfold At
    rw [List.drop_eq_nil_of_le (by omega), List.take_of_length_le (by omega), e]
    simp [scan]
/-- One step of the model by runs, where no quote stands. -/
theorem at_runs {l : Bytes} {k : Nat} (h1 : 1 ≤ k) (h : At l (escd l k) k) (hk : k < l.length) (hq : ¬ l[k] = 34) : At l (escd l (k + 1)) (k + 1) := by
  rw [escd_succ l k h1]
  have e : l[k]? = some l[k] := List.getElem?_eq_getElem hk
  rw [e]
  cases he : escd l k with
  | true =>
    rw [he] at h
    simpa using at_skip h hk
  | false =>
    rw [he] at h
    by_cases hc : l[k] = 92
    · rw [hc]; exact at_back h hk hc
    · have : (some l[k] == some 92) = false := by simpa using hc
      rw [this]; exact at_plain h hk hc hq
/-- .. and where an escaped quote stands. -/
theorem at_runs_quote {l : Bytes} {k : Nat} (h1 : 1 ≤ k) (h : At l (escd l k) k) (hk : k < l.length) (he : escd l k = true) : At l (escd l (k + 1)) (k + 1) := by
  rw [escd_succ l k h1, he]
  rw [he] at h
  simpa using at_skip h hk
/-- The parity of the run of backslashes that ends ahead of j says whether j is escaped. -/
theorem run_parity {l : Bytes} (m : Nat) (h0 : m = 0 ∨ ¬ l[m]? = some 92) : ∀ r, (∀ i, m < i → i < m + 1 + r → l[i]? = some 92) → escd l (m + 1 + r) = (r % 2 == 1) := by
  intro r
  induction r with
  | zero =>
    intro _
    rcases h0 with rfl | h0
    · rfl
    · by_cases hm : m = 0
      · subst hm; rfl
      · have := escd_succ l m (by omega)
        rw [Nat.add_zero, this]
        have : (l[m]? == some 92) = false := by simpa using h0
        rw [this]; rfl
  | succ r ih =>
    intro h
    have h1 := ih (fun i a b => h i a (by omega))
    have h2 := h (m + 1 + r) (by omega) (by omega)
    rw [show m + 1 + (r + 1) = (m + 1 + r) + 1 by omega, escd_succ l _ (by omega), h2, h1]
    simp only [BEq.rfl, Bool.true_and]
    rcases Nat.mod_two_eq_zero_or_one r with e | e
    · have : (r + 1) % 2 = 1 := by omega
      simp [e, this]
    · have : (r + 1) % 2 = 0 := by omega
      simp [e, this]

/-! ### The second law -/
/-- One byte with its backslash. -/
def escB (c : UInt8) : Bytes := if c = 34 ∨ c = 92 then [92, c] else [c]
def escL : Bytes → Bytes
  | [] => []
  | c :: l => escB c ++ escL l
theorem escL_append (a b : Bytes) : escL (a ++ b) = escL a ++ escL b := by
  induction a with
  | nil => rfl
  | cons c l ih => simp [escL, ih]
theorem escL_snoc (a : Bytes) (c : UInt8) : escL (a ++ [c]) = escL a ++ escB c := by simp [escL_append, escL]
theorem escB_len (c : UInt8) : 1 ≤ (escB c).length ∧ (escB c).length ≤ 2 := by unfold escB; split <;> simp
theorem escL_len (l : Bytes) : (escL l).length ≤ 2 * l.length := by
  induction l with
  | nil => simp [escL]
  | cons c l ih => have := escB_len c; simp only [escL, List.length_append, List.length_cons]; omega
theorem scan_escB (c : UInt8) (r : Bytes) : scan false (escB c ++ r) = escB c ++ scan false r := by
  unfold escB
  split
  · simp [scan]
  · rename_i h
    simp only [not_or] at h
    simp [scan, h.1, h.2]
theorem scan_escL (x r : Bytes) : scan false (escL x ++ r) = escL x ++ scan false r := by
  induction x with
  | nil => rfl
  | cons c l ih => simp only [escL, List.append_assoc, scan_escB, ih]
theorem law_closed (x t : Bytes) : quotedL ((34 :: escL x ++ [34]) ++ t) = 34 :: escL x ++ [34] := by
  simp only [List.cons_append, quotedL, List.append_assoc, scan_escL]
  simp [scan]
theorem law_open (x : Bytes) : quotedL (34 :: escL x) = 34 :: escL x := by
  have := scan_escL x []
  simp only [List.append_nil] at this
  simp [quotedL, this, scan]

end Go.Proofs.Qxb6605186a
