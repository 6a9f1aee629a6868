/-
  The plain functions of this seat, over lists of bytes: no Go in sight.
-/
namespace Go.Proofs.Qxb6605167a

abbrev Bytes := List UInt8

/-- It begins with 'W' and a slash. -/
def weakF : Bytes → Bool
  | a :: b :: _ => a == 87 && b == 47
  | _ => false
/-- Without its 'W' and slash. -/
def trimF (l : Bytes) : Bytes := if weakF l then l.drop 2 else l
def has (ss : List Bytes) (t : Bytes) : Bool := ss.any fun x => x == t
def hasW (ss : List Bytes) (t : Bytes) : Bool := ss.any fun x => weakF x && x.drop 2 == t
/-- What 'matches' answers of one element. -/
def hit (tag : Bytes) (weak : Bool) (x : Bytes) : Bool := (if weak then trimF x else x) == [42] || (if weak then trimF x else x) == tag
def matchF (ss : List Bytes) (tag : Bytes) (found weak : Bool) : Bool := found && ss.any (hit tag weak)
/-- What the law wants. -/
def wantF (ss : List Bytes) (tag : Bytes) (found weak : Bool) : Bool :=
  found && (has ss [42] || if weak then has ss [87, 47, 42] || hasW ss tag || (!weakF tag && has ss tag) else has ss tag)

theorem any_or {α : Type} (l : List α) (p q : α → Bool) : (l.any fun x => p x || q x) = (l.any p || l.any q) := by
  induction l with
  | nil => rfl
  | cons a l ih => simp only [List.any_cons, ih]; cases p a <;> cases q a <;> simp
theorem any_and_const {α : Type} (l : List α) (b : Bool) (q : α → Bool) : (l.any fun x => b && q x) = (b && l.any q) := by
  cases b <;> simp
theorem any_congr {α : Type} (l : List α) (p q : α → Bool) (h : ∀ x, p x = q x) : l.any p = l.any q := by
  rw [show p = q from funext h]

theorem weakF_cases (x : Bytes) : weakF x = true ↔ ∃ r, x = 87 :: 47 :: r := by
  match x with
  | [] => simp [weakF]
  | [a] => simp [weakF]
  | a :: b :: r => simp [weakF]

theorem hit_weak (tag x : Bytes) : hit tag true x = (((x == [42]) || (x == [87, 47, 42])) || ((weakF x && x.drop 2 == tag) || (!weakF tag && x == tag))) := by
  unfold hit trimF
  simp only [if_true]
  cases hw : weakF x with
  | true =>
    obtain ⟨r, rfl⟩ := (weakF_cases x).1 hw
    simp only [if_true, List.drop_succ_cons, List.drop_zero, Bool.true_and]
    have h1 : ((87 :: 47 :: r : Bytes) == [42]) = false := by simp
    have h2 : ((87 :: 47 :: r : Bytes) == [87, 47, 42]) = (r == [42]) := by rw [Bool.eq_iff_iff]; simp
    have h3 : (!weakF tag && (87 :: 47 :: r : Bytes) == tag) = false := by
      cases ht : weakF tag with
      | true => rfl
      | false =>
        simp only [Bool.not_false, Bool.true_and, beq_eq_false_iff_ne]
        intro e
        rw [← e] at ht
        simp [weakF] at ht
    rw [h1, h2, h3]
    simp
  | false =>
    simp only [Bool.false_eq_true, if_false, Bool.false_and, Bool.false_or]
    have h2 : (x == [87, 47, 42]) = false := by
      rw [beq_eq_false_iff_ne]; intro e; rw [e] at hw; simp [weakF] at hw
    rw [h2]
    cases ht : weakF tag with
    | true =>
      have h3 : (x == tag) = false := by
        rw [beq_eq_false_iff_ne]; intro e; rw [e, ht] at hw; simp at hw
      rw [h3]; simp
    | false => simp

/-- THE PLAIN LAW. -/
theorem law (ss : List Bytes) (tag : Bytes) (found weak : Bool) : matchF ss tag found weak = wantF ss tag found weak := by
  unfold matchF wantF
  cases found with
  | false => rfl
  | true =>
    simp only [Bool.true_and]
    cases weak with
    | false =>
      simp only [Bool.false_eq_true, if_false]
      rw [any_congr ss (hit tag false) (fun x => (x == [42]) || (x == tag)) (fun x => by simp [hit]), any_or]
      rfl
    | true =>
      simp only [if_true]
      rw [any_congr ss (hit tag true) _ (hit_weak tag), any_or, any_or, any_or, any_and_const]
      unfold has hasW
      simp only [Bool.or_assoc]

end Go.Proofs.Qxb6605167a
