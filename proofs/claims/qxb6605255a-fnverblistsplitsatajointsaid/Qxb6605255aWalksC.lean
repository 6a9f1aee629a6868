/-
  The contracts of verbList (10) and ZZverbList (8): the verbs joined.
-/
import Derived.Test.Qxb6605255aWalksB
import Derived.Test.Qxb6605255aShelf
namespace Go.Proofs.Qxb6605255a
open Go.RowKit
open Go.Lib (join joinTail lens)

set_option maxHeartbeats 400000 in
theorem verbList_any (ao : Option Addr) (cap : Nat) (ss : List ByteArray) (w : World) (hR : ReadsS w (.slice ao ss.length cap) ss) (hn : ss.length ≤ 65536) (hsum : lens (lb ss) ≤ 1048576) :
    Calls Try.prog 10 #[.slice ao ss.length cap] w fun e w' => ∃ t : ByteArray, e = .returned (.string t) ∧ t.data.toList = join (lb ss) sep ∧ Below w.heap.size w w' := by
  obtain ⟨ao', cap', hv, hl, hm, hnone, hc, hsz⟩ := hR
  simp only [Value.slice.injEq] at hv
  obtain ⟨rfl, _, rfl⟩ := hv
  obtain ⟨i0, hi, hz0, hz1, hz2⟩ := info_parts info9
  clear hnone
  go_enter Try.func10, Try.ntmps10
  go_wp2_with (at_make; refine wpList_make_full _ rfl _ _ 22 rfl w.heap.size 9 i0 (.string ByteArray.empty) 1 Try.underlying22 hi hz0 hz1 _ _ _ _ ss.length rfl rfl rfl rfl ?c1 ?c2 ?c3 ?_)
  case c1 => rw [hz2]; omega
  case c2 => unfold maxLen; omega
  case c3 => exact Nat.le_refl _
  intro w1 hown1 hg1
  have H1 : HeldS 9 w.heap.size ss.length w w1 (fill ss 0) := by
    refine ⟨?_, (Below.refl _ _).grown hg1 (Nat.le_refl _) (fun k h => by cases h), hg1.size⟩
    rw [fill_zero, ← made_cells]
    simpa using hown1
  clear hown1 hg1
  go_wp2
  go_loopg [11] ss.length (fun g i wr => ∃ k : Nat, Hid (k + g = ss.length) ∧ i = .int .i64 k ∧ HeldS 9 w.heap.size ss.length w wr (fill ss k))
  case atStart => exact ⟨0, by show _ = _; omega, rfl, H1⟩
  case round =>
    obtain ⟨k, hk, rfl, hr⟩ := hrel
    clear H1
    by_cases hlt : k < ss.length
    · obtain ⟨b, off, rfl, hcell⟩ := hc (by omega)
      have c0 := hcell k hlt
      rw [← hr.2.1.cell (p := ⟨b, off + k, none⟩) (World.block_lt_of_cell? _ _ c0)] at c0
      have c1 := hr.cell k hlt
      have f1 := hr.free k
      have hst := fill_step ss k hlt
      have hsn := hr.store k (ss.getD k ByteArray.empty)
      rw [hst] at hsn
      obtain ⟨x, hx⟩ : ∃ x, x = ss.getD k ByteArray.empty := ⟨_, rfl⟩
      obtain ⟨y, hy⟩ : ∃ y, y = (fill ss k).getD k ByteArray.empty := ⟨_, rfl⟩
      rw [← hx] at c0 hsn
      rw [← hy] at c1
      clear hcell hc hx hy hst hr
      have hi1 : (k : Int) < (ss.length : Int) := by omega
      go_wp2
      go_roundg (gk - 1)
      case measure => have := hk.out; omega
      case rel => exact ⟨k + 1, by show _ = _; have := hk.out; omega, by go_num, hsn⟩
    · rw [fill_all ss k (by omega)] at hr
      have hlen : (join (lb ss) sep).length ≤ 140737488355328 := by
        rw [text_len, lb_len]
        split <;> omega
      have hBlt : w.heap.size < wr.heap.size := by
        rcases hr.1.2 with ⟨h, _⟩ | ⟨g, cp, cur, h, _, hg, _⟩
        · simp at h
        · simp only [Value.slice.injEq, Option.some.injEq, Addr.mk.injEq, and_true] at h
          obtain ⟨rfl, _⟩ := h
          exact (Array.getElem?_eq_some_iff.1 hg).1
      have hJ := Try.strings_Join w.heap.size 0 ss.length ss ⟨#[32, 97, 110, 100, 32]⟩ wr (fun j x hx => by
        have hj : j < ss.length := (List.getElem?_eq_some_iff.1 hx).1
        rw [Nat.zero_add, hr.cell j hj]
        simp [List.getD, hx]) hBlt (by omega) (Nat.le_refl _) hlen
      go_wp2_with fail
      refine hJ.mono ?_
      rintro e w2 ⟨rfl, hb2⟩
      go_wp2
      go_ret
      exact ⟨_, rfl, rfl, hr.2.1.trans (hb2.mono hr.2.2)⟩

theorem zzverbs_any (ao : Option Addr) (cap : Nat) (ss : List ByteArray) (w : World) (hR : ReadsS w (.slice ao ss.length cap) ss) (hn : ss.length ≤ 65536) (hsum : lens (lb ss) ≤ 1048576) :
    Calls Try.prog 8 #[.slice ao ss.length cap] w fun e w' => ∃ t : ByteArray, e = .returned (.string t) ∧ t.data.toList = join (lb ss) sep ∧ Below w.heap.size w w' := by
  go_enter Try.func8, Try.ntmps8
  go_wp2_with fail
  refine (verbList_any ao cap ss w hR hn hsum).mono ?_
  rintro e w' ⟨t, rfl, ht, hb⟩
  go_wp2
  go_ret
  exact ⟨_, rfl, ht, hb⟩

end Go.Proofs.Qxb6605255a
