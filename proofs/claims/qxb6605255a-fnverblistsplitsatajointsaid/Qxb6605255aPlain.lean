/-
  The plain laws of this seat, over lists of bytes: what a joined text holds, and where. No Go in sight.
-/
import Derived.Lib.Join
namespace Go.Proofs.Qxb6605255a

abbrev Bytes := List UInt8
open Go.Lib (join joinTail lens join_cons join_one join_nil joinTail_length)

/-- What stands between two verbs. -/
def sep : Bytes := [32, 97, 110, 100, 32]
theorem sep_len : sep.length = 5 := rfl

theorem joinTail_append (s : Bytes) (a b : List Bytes) : joinTail s (a ++ b) = joinTail s a ++ joinTail s b := by simp [joinTail]
theorem joinTail_cons (s y : Bytes) (r : List Bytes) : joinTail s (y :: r) = s ++ join (y :: r) s := by
  rw [join_cons]; simp [joinTail]
/-- THE SECOND LAW's HEART: the text of a list that is cut in two. -/
theorem join_append (s : Bytes) (a b : List Bytes) (ha : a ≠ []) (hb : b ≠ []) : join (a ++ b) s = join a s ++ s ++ join b s := by
  match a, ha, b, hb with
  | x :: r, _, y :: q, _ =>
    rw [List.cons_append, join_cons, joinTail_append, join_cons x r, joinTail_cons]
    simp [List.append_assoc]
theorem join_prefix (s : Bytes) (a b : List Bytes) (ha : a ≠ []) : ∃ rest, join (a ++ b) s = join a s ++ rest := by
  match a, ha with
  | x :: r, _ => exact ⟨joinTail s b, by rw [List.cons_append, join_cons, joinTail_append, join_cons x r, List.append_assoc]⟩
theorem join_len (s : Bytes) (a : List Bytes) (ha : a ≠ []) : (join a s).length = s.length * (a.length - 1) + lens a := by
  match a, ha with
  | x :: r, _ => rw [Go.Lib.join_length]; simp
theorem lens_append (a b : List Bytes) : lens (a ++ b) = lens a + lens b := by simp [lens]

/-- Where verb i begins. -/
def off (vs : List Bytes) (i : Nat) : Nat := lens (vs.take i) + 5 * i
theorem off_zero (vs : List Bytes) : off vs 0 = 0 := by simp [off, lens]
theorem off_succ (vs : List Bytes) (i : Nat) (h : i < vs.length) : off vs (i + 1) = off vs i + (vs[i]).length + 5 := by
  unfold off
  rw [Go.Lib.lens_take_succ vs i vs[i] (List.getElem?_eq_getElem h)]
  omega
/-- The text up to verb i's end: what stands ahead of verb i, verb i, the rest. -/
theorem text_at (vs : List Bytes) (i : Nat) (h : i < vs.length) : ∃ pre rest, join vs sep = pre ++ (vs[i] ++ rest) ∧ pre.length = off vs i ∧ (0 < i → ∃ p0, pre = p0 ++ sep) := by
  have e : vs = vs.take i ++ (vs[i] :: vs.drop (i + 1)) := by
    rw [← List.drop_eq_getElem_cons h, List.take_append_drop]
  obtain ⟨rest, hrest⟩ := join_prefix sep [vs[i]] (vs.drop (i + 1)) (by simp)
  rw [join_one] at hrest
  have hr2 : join (vs[i] :: vs.drop (i + 1)) sep = vs[i] ++ rest := hrest
  by_cases h0 : i = 0
  · refine ⟨[], rest, ?_, ?_, fun hp => by omega⟩
    · have e2 : vs = vs[i] :: vs.drop (i + 1) := by
        have := e
        rw [show vs.take i = [] by rw [h0]; rfl] at this
        exact this
      rw [List.nil_append, ← hr2]
      exact congrArg (fun l => join l sep) e2
    · rw [h0, off_zero]; rfl
  · have hne : vs.take i ≠ [] := by
      intro hh
      have := congrArg List.length hh
      rw [List.length_take] at this
      simp only [List.length_nil] at this
      omega
    refine ⟨join (vs.take i) sep ++ sep, rest, ?_, ?_, fun _ => ⟨_, rfl⟩⟩
    · have := join_append sep (vs.take i) (vs[i] :: vs.drop (i + 1)) hne (List.cons_ne_nil _ _)
      rw [hr2] at this
      exact (congrArg (fun l => join l sep) e).trans this
    · rw [List.length_append, join_len sep _ hne, sep_len, List.length_take]
      unfold off
      omega
/-- Verb i's byte j. -/
theorem verb_at (vs : List Bytes) (i j : Nat) (h : i < vs.length) (hj : j < (vs[i]).length) : (join vs sep)[off vs i + j]? = some (vs[i])[j] ∧ off vs i + j < (join vs sep).length := by
  obtain ⟨pre, rest, e, hl, _⟩ := text_at vs i h
  have : (join vs sep)[off vs i + j]? = some (vs[i])[j] := by
    rw [e, ← hl, List.getElem?_append_right (by omega), show pre.length + j - pre.length = j by omega, List.getElem?_append_left hj, List.getElem?_eq_getElem hj]
  exact ⟨this, (List.getElem?_eq_some_iff.1 this).1⟩
/-- The gap ahead of verb i, its byte j. -/
theorem gap_at (vs : List Bytes) (i j : Nat) (h : i < vs.length) (h0 : 0 < i) (hj : j < 5) : (join vs sep)[off vs i - 5 + j]? = sep[j]? ∧ 5 ≤ off vs i ∧ off vs i - 5 + j < (join vs sep).length := by
  obtain ⟨pre, rest, e, hl, hp⟩ := text_at vs i h
  obtain ⟨p0, rfl⟩ := hp h0
  rw [List.length_append, sep_len] at hl
  have : (join vs sep)[off vs i - 5 + j]? = sep[j]? := by
    rw [e, ← hl, List.append_assoc, List.getElem?_append_right (by omega), show p0.length + 5 - 5 + j - p0.length = j by omega, List.getElem?_append_left (by rw [sep_len]; omega)]
  refine ⟨this, by omega, ?_⟩
  rw [e, List.length_append, List.length_append, sep_len]
  omega
theorem text_len (vs : List Bytes) : (join vs sep).length = if vs.length = 0 then 0 else lens vs + 5 * (vs.length - 1) := by
  by_cases h : vs.length = 0
  · obtain rfl : vs = [] := List.eq_nil_of_length_eq_zero h
    rw [join_nil]; rfl
  · rw [if_neg h, join_len sep vs (fun e => h (by rw [e]; rfl)), sep_len]; omega

end Go.Proofs.Qxb6605255a
