/-
  A row of strings that the call itself fills ('HeldS'); the contract of toVerbs (7).
-/
import Derived.Test.Qxb6605255aWalksA
namespace Go.Proofs.Qxb6605255a
open Go.RowKit
open Go.Lib (join joinTail lens)

theorem info9 : (Try.prog.info? 9).map (fun i => (i.zero, i.size, i.bytes)) = some (some (.string ByteArray.empty), 1, 16) := by kernel_rfl
theorem info26 : (Try.prog.info? 26).map (fun i => (i.zero, i.size, i.bytes)) = some (some (.string ByteArray.empty), 1, 16) := by kernel_rfl

def cellsS (ss : List ByteArray) : List Value := ss.map Value.string

/-- The row at the head of block B, n strings long (their type e), holds xs; below B the world is as w was. -/
def HeldS (e : TypeId) (B n : Nat) (w wr : World) (xs : List ByteArray) : Prop :=
  wr.ownsRow B e 1 (.slice (some ⟨B, 0, none⟩) n n) n (cellsS xs) ∧ Below B w wr ∧ B ≤ wr.heap.size

theorem HeldS.len {e : TypeId} {B n : Nat} {w wr : World} {xs : List ByteArray} (h : HeldS e B n w wr xs) : xs.length = n := by
  have := h.1.1
  simpa [cellsS] using this
theorem HeldS.cell {e : TypeId} {B n : Nat} {w wr : World} {xs : List ByteArray} (h : HeldS e B n w wr xs) (k : Nat) (hk : k < n) : wr.cell? ⟨B, k, none⟩ = some (.string (xs.getD k ByteArray.empty)) := by
  rw [h.1.cellAt k (by omega)]
  have := h.len
  simp [cellsS, List.getD, show k < xs.length by omega]
theorem HeldS.free {e : TypeId} {B n : Nat} {w wr : World} {xs : List ByteArray} (h : HeldS e B n w wr xs) (k : Nat) : wr.frozen? ⟨B, k, none⟩ = false := h.1.frozenAt k
theorem HeldS.store {e : TypeId} {B n : Nat} {w wr : World} {xs : List ByteArray} (h : HeldS e B n w wr xs) (k : Nat) (x : ByteArray) : HeldS e B n w (wr.setCell ⟨B, k, none⟩ (.string x)) (xs.set k x) := by
  have h1 := h.1.stored k (.string x)
  refine ⟨?_, h.2.1.setCell (Nat.le_refl _) _, ?_⟩
  · have e1 : cellsS (xs.set k x) = (cellsS xs).set k (.string x) := by simp [cellsS]
    rw [e1]; exact h1.1
  · have := h1.2.size; have := h.2.2; omega
/-- What the loop has filled so far. -/
def fill (ss : List ByteArray) (k : Nat) : List ByteArray := ss.take k ++ List.replicate (ss.length - k) ByteArray.empty
theorem fill_zero (ss : List ByteArray) : fill ss 0 = List.replicate ss.length ByteArray.empty := by simp [fill]
theorem fill_all (ss : List ByteArray) (k : Nat) (h : ss.length ≤ k) : fill ss k = ss := by
  unfold fill
  rw [List.take_of_length_le h, show ss.length - k = 0 by omega]; simp
theorem fill_step (ss : List ByteArray) (k : Nat) (h : k < ss.length) : (fill ss k).set k (ss.getD k ByteArray.empty) = fill ss (k + 1) := by
  unfold fill
  have e1 : (ss.take k).length = k := by simp; omega
  rw [List.set_append, if_neg (by omega), e1, Nat.sub_self, show ss.length - k = (ss.length - (k + 1)) + 1 by omega, List.replicate_succ, List.set_cons_zero]
  have e2 : ss.getD k ByteArray.empty = ss[k] := by simp [List.getD, h]
  rw [e2, List.take_succ_eq_append_getElem h, List.append_assoc]
  rfl
theorem made_cells (n : Nat) : (madeCells #[Value.string ByteArray.empty] n).toList = cellsS (List.replicate n ByteArray.empty) := by
  rw [toList_madeCells_one]; simp [cellsS]

theorem HeldS.reads {e : TypeId} {B n : Nat} {w wr : World} {ss : List ByteArray} (h : HeldS e B n w wr ss) (hn : n ≤ maxLen) (hs : ∀ s ∈ ss, s.size ≤ maxLen) : ReadsS wr (.slice (some ⟨B, 0, none⟩) n n) ss := by
  have hl := h.len
  refine ⟨some ⟨B, 0, none⟩, n, by rw [hl], by omega, by omega, fun h => (by simp at h), fun _ => ⟨B, 0, rfl, fun i hi => ?_⟩, hs⟩
  rw [Nat.zero_add]
  exact h.cell i (by omega)

set_option maxHeartbeats 400000 in
theorem toVerbs_any (v : Value) (ss : List ByteArray) (w : World) (hR : ReadsS w v ss) (hn : ss.length ≤ 65536) :
    Calls Try.prog 7 #[v] w fun e w' => ∃ ao cap, e = .returned (.slice ao ss.length cap) ∧ ReadsS w' (.slice ao ss.length cap) ss ∧ Below w.heap.size w w' := by
  have hR0 := hR
  obtain ⟨ao, cap, rfl, hl, hm, hnone, hc, hsz⟩ := hR
  obtain ⟨i0, hi, hz0, hz1, hz2⟩ := info_parts info26
  cases ao with
  | none =>
    obtain ⟨rfl, rfl⟩ := hnone rfl
    have hnil := fun wx => Lib.run_eql_slice_nil (P := Try.prog) wx 22 9 none 0 0 0 0 Try.underlying22
    go_enter Try.func7, Try.ntmps7
    go_wp2
    go_ret
    exact ⟨_, _, rfl, hR0, Below.refl _ _⟩
  | some a =>
    clear hnone hR0
    have hnil := fun wx => Lib.run_eql_slice_nil (P := Try.prog) wx 22 9 (some a) ss.length cap 0 0 Try.underlying22
    go_enter Try.func7, Try.ntmps7
    go_wp2_with (at_make; refine wpList_make_full _ rfl _ _ 24 rfl w.heap.size 26 i0 (.string ByteArray.empty) 1 Try.underlying24 hi hz0 hz1 _ _ _ _ ss.length rfl rfl rfl rfl ?c1 ?c2 ?c3 ?_)
    case c1 => rw [hz2]; omega
    case c2 => unfold maxLen; omega
    case c3 => exact Nat.le_refl _
    intro w1 hown1 hg1
    have H1 : HeldS 26 w.heap.size ss.length w w1 (fill ss 0) := by
      refine ⟨?_, (Below.refl _ _).grown hg1 (Nat.le_refl _) (fun k h => by cases h), hg1.size⟩
      rw [fill_zero, ← made_cells]
      simpa using hown1
    clear hown1 hg1 hnil
    go_wp2
    go_loopg [4] ss.length (fun g i wr => ∃ k : Nat, Hid (k + g = ss.length) ∧ i = .int .i64 k ∧ HeldS 26 w.heap.size ss.length w wr (fill ss k))
    case atStart => exact ⟨0, by show _ = _; omega, rfl, H1⟩
    case round =>
      obtain ⟨k, hk, rfl, hr⟩ := hrel
      clear H1
      by_cases hlt : k < ss.length
      · obtain ⟨b, off, hab, hcell⟩ := hc (by omega)
        simp only [Option.some.injEq] at hab
        subst hab
        have c0 := hcell k hlt
        rw [← hr.2.1.cell (p := ⟨b, off + k, none⟩) (World.block_lt_of_cell? _ _ c0)] at c0
        have hbB : b < w.heap.size := World.block_lt_of_cell? _ _ (hcell k hlt)
        have c1 := hr.cell k hlt
        have f1 := hr.free k
        have hst := fill_step ss k hlt
        have hsn := hr.store k (ss.getD k ByteArray.empty)
        rw [hst] at hsn
        obtain ⟨x, hx⟩ : ∃ x, x = ss.getD k ByteArray.empty := ⟨_, rfl⟩
        obtain ⟨y, hy⟩ : ∃ y, y = (fill ss k).getD k ByteArray.empty := ⟨_, rfl⟩
        rw [← hx] at c0 hsn
        rw [← hy] at c1
        clear hcell hc hx hy hst hr
        have hi1 : (k : Int) < (ss.length : Int) := by omega
        go_wp2
        go_roundg (gk - 1)
        case measure => have := hk.out; omega
        case rel => exact ⟨k + 1, by show _ = _; have := hk.out; omega, by go_num, hsn⟩
      · rw [fill_all ss k (by omega)] at hr
        go_wp2
        go_ret
        exact ⟨_, _, rfl, hr.reads (by unfold maxLen; omega) hsz, hr.2.1⟩

end Go.Proofs.Qxb6605255a
