/-
  What the walks of this seat share: a slice of bytes that the call itself owns ('Held'); a slice that is read ('Reads'); an append as a step of a region that draws its order.
-/
import Derived.Test.Qxb6601577aRows
import Derived.Test.Qxb6601577aPlain
import Derived.WalkKit
import Derived.WalkSpells
import Derived.WalkLawsBesides
import Derived.Laws.CopyOwn
import Derived.Deep.RegionLaw
import Derived.Deep.QuietTactic
import Derived.BigQuiet
namespace Go.Proofs.Qxb6601577a
open Go.RowKit

theorem info5 : (Try.prog.info? 5).map (fun i => (i.zero, i.size, i.bytes)) = some (some (.int .u8 0), 1, 1) := by kernel_rfl

/-- Bytes as cells. -/
def cells8 (zs : List Int) : List Value := zs.map (Value.int .u8)
theorem cells8_append (a b : List Int) : cells8 (a ++ b) = cells8 a ++ cells8 b := by simp [cells8]
theorem cells8_length (a : List Int) : (cells8 a).length = a.length := by simp [cells8]
theorem cells8_one (a : List Int) : ∀ u ∈ cells8 a, u.oneCell' = true := by
  intro u hu
  obtain ⟨_, _, rfl⟩ := List.mem_map.1 hu
  rfl
theorem cells8_get {a : List Int} {j : Nat} {u : Value} (h : (cells8 a)[j]? = some u) : j < a.length ∧ u = .int .u8 (a.getD j 0) := by
  have hj : j < (cells8 a).length := (List.getElem?_eq_some_iff.1 h).1
  rw [cells8_length] at hj
  refine ⟨hj, ?_⟩
  simp [cells8, hj] at h
  simp [List.getD, hj, h]

/-- The slice value v is the call's own (its block from 'base' on) and holds the bytes zs; below 'base' the world is as w0 was. -/
def Held (base : Nat) (w0 w : World) (v : Value) (zs : List Int) : Prop :=
  w.ownsRow base 5 1 v zs.length (cells8 zs) ∧ Below base w0 w ∧ base ≤ w.heap.size
theorem Held.next {base : Nat} {w0 w w1 : World} {v v' : Value} {zs : List Int} {o : Obj} (h : Held base w0 w v zs) (new : List Int)
    (hown : w1.ownsRow base 5 1 v' (zs.length + new.length) (cells8 zs ++ cells8 new)) (hg : (w.alloc o).grownBy w1 v.ownBlock) : Held base w0 w1 v' (zs ++ new) := by
  refine ⟨by rw [cells8_append, List.length_append]; exact hown, ?_, ?_⟩
  · exact (h.2.1.alloc h.2.2 o).grown hg (by have := h.2.2; simp; omega) (fun k hk => (h.1.lt k hk).1)
  · have := hg.size; have h2 := h.2.2; simp at this; omega
theorem Held.drew {base : Nat} {w0 w : World} {v : Value} {zs : List Int} (h : Held base w0 w v zs) : Held base w0 w.drew v zs := ⟨h.1.drew, h.2.1.drew, h.2.2⟩
theorem Held.le {base : Nat} {w0 w : World} {v : Value} {zs : List Int} (h : Held base w0 w v zs) : base ≤ w.heap.size := h.2.2
theorem Held.own {base : Nat} {w0 w : World} {v : Value} {zs : List Int} (h : Held base w0 w v zs) (o : Obj) : (w.alloc o).ownsRow base 5 1 v zs.length (cells8 zs) := h.1.alloc o

/-- The cells of a block that has just been laid. -/
theorem news_at (w : World) (new : List Int) (t : TypeId) : ∀ j u, (cells8 new)[j]? = some u → (w.alloc (.cells (cells8 new).toArray t)).cell? ((⟨w.heap.size, 0, none⟩ : Addr).add j) = some u := by
  intro j u hu
  rw [Addr.add_lit, cell_of_row _ _ _ _ _ (0, 0) (heap_alloc_new w _)]
  simpa using hu

/-- An append onto a slice of the call's own, as one step of a region that draws its order. -/
theorem step_append_own {P : Program} {ops : Array Oper} {o : Oper} {a : Act} {w : World} {K : Act → World → Prop} {Q : Exit → Act → World → Prop} {E : Prop} (hgd : o.guard = none) (s x : Operand) (t : TypeId)
    (ho : o.op = .call { callee := .builtin .append, args := #[s, x], argTypes := #[t, t] })
    (base : Nat) (e : TypeId) (i : TypeInfo) (z : Value) (size bytes : Nat) (ht : P.underlying t = some (.slice e)) (hi : P.info? e = some i) (hz : i.zero = some z)
    (hsize : i.size = size) (hby : i.bytes = bytes) (hzs : z.cells.size = size) (hsz : 0 < size)
    (v : Value) (n : Nat) (xs : List Value) (hs : a.eval s = v) (hown : w.ownsRow base e size v n xs)
    (ad : Addr) (m c : Nat) (news : List Value) (hx : a.eval x = .slice (some ad) m c) (hl : news.length = m * size) (hnews : ∀ j u, news[j]? = some u → w.cell? (ad.add j) = some u) (h1 : ∀ u ∈ news, u.oneCell' = true)
    (h63 : n + m ≤ maxLen) (hbytes : (n + m) * bytes ≤ 140737488355328) (hbase : base ≤ w.heap.size)
    (h : ∀ v' w', w'.ownsRow base e size v' (n + m) (xs ++ news) → w.grownBy w' v.ownBlock → K (a.put o.dst v') w') :
    if Region.wanted o (yielded ops a.tmps) = true then Oper.wp P o a w K Q else E := by
  have hw : Region.wanted o (yielded ops a.tmps) = true := by simp [Region.wanted, hgd]
  rw [if_pos hw]
  exact wp_append_own w s x t ho base e i z size bytes ht hi hz hsize hby hzs hsz v n xs hs hown ad m c news hx hl hnews h1 h63 hbytes hbase fun v' w' h2 h3 _ => h v' w' h2 h3

end Go.Proofs.Qxb6601577a
