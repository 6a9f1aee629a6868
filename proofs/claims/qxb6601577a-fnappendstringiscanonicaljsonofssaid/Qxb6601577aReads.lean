/-
  A slice of bytes that is read ('Reads'), and the contracts of zzClone (7), zzEqual (9), ZZappendString (8).
-/
import Derived.Test.Qxb6601577aApp
import Derived.Lib.SliceRun
namespace Go.Proofs.Qxb6601577a
open Go.RowKit

/-- The slice value v reads as the bytes zs. -/
def Reads (w : World) (v : Value) (zs : List Int) : Prop :=
  ∃ ao cap, v = .slice ao zs.length cap ∧ zs.length ≤ cap ∧ (ao = none → zs = [] ∧ cap = 0) ∧
    (0 < zs.length → ∃ b off, ao = some ⟨b, off, none⟩ ∧ ∀ i, i < zs.length → w.cell? ⟨b, off + i, none⟩ = some (.int .u8 (zs.getD i 0)))

theorem Reads.below {w w' : World} {v : Value} {zs : List Int} (h : Reads w v zs) (hb : Below w.heap.size w w') : Reads w' v zs := by
  obtain ⟨ao, cap, hv, hl, hn, hc⟩ := h
  refine ⟨ao, cap, hv, hl, hn, fun hp => ?_⟩
  obtain ⟨b, off, ha, hcell⟩ := hc hp
  refine ⟨b, off, ha, fun i hi => ?_⟩
  have h1 := hcell i hi
  rw [← h1]
  exact hb.cell (World.block_lt_of_cell? _ _ h1)

theorem Reads.drewN {w : World} {v : Value} {zs : List Int} (h : Reads w v zs) (n : Nat) : Reads (w.drewN n) v zs := h
/-- A part of a slice that reads. -/
theorem Reads.sub {w : World} {b off n cap : Nat} {L : List Int} (h : Reads w (.slice (some ⟨b, off, none⟩) n cap) L) (lo m c : Nat) (ao : Option Addr) (M : List Int) (hM : M = (L.drop lo).take m) (hlo : lo + m ≤ n) (hmc : m ≤ c)
    (hao : 0 < m → ao = some ⟨b, off + lo, none⟩) (hnone : ao = none → m = 0 ∧ c = 0) : Reads w (.slice ao m c) M := by
  obtain ⟨ao', cap', hv, hl, _, hc⟩ := h
  simp only [Value.slice.injEq] at hv
  obtain ⟨rfl, rfl, rfl⟩ := hv
  have hlen : M.length = m := by rw [hM]; simp; omega
  refine ⟨ao, c, by rw [hlen], by omega, fun h => ⟨List.eq_nil_of_length_eq_zero (by have := (hnone h).1; omega), (hnone h).2⟩, fun hp => ?_⟩
  rw [hlen] at hp
  refine ⟨b, off + lo, hao hp, fun i hi => ?_⟩
  rw [hlen] at hi
  obtain ⟨b', off', hb, hcell⟩ := hc (by omega)
  simp only [Option.some.injEq, Addr.mk.injEq, and_true] at hb
  obtain ⟨rfl, rfl⟩ := hb
  rw [Nat.add_assoc, hcell (lo + i) (by omega), hM]
  simp [List.getD, hi]

theorem Held.reads {base : Nat} {w0 w : World} {v : Value} {zs : List Int} (h : Held base w0 w v zs) : Reads w v zs := by
  have hown := h.1
  rcases hown.2 with ⟨rfl, h0⟩ | ⟨g, cap, cur, rfl, _, _, hnc, _⟩
  · have : zs = [] := List.eq_nil_of_length_eq_zero h0
    subst this
    exact ⟨none, 0, rfl, Nat.le_refl _, fun _ => ⟨rfl, rfl⟩, fun hp => absurd hp (by simp)⟩
  · refine ⟨some ⟨g, 0, none⟩, cap, rfl, hnc, fun h => (by simp at h), fun _ => ⟨g, 0, rfl, fun i hi => ?_⟩⟩
    have := hown.cellAt i (by simpa using hi)
    rw [Nat.zero_add, this]
    simp [cells8, List.getD, hi]

/-- A slice that is the call's own stays so while the world turns from its size on. -/
theorem Held.below {base : Nat} {w0 w w' : World} {v : Value} {zs : List Int} (h : Held base w0 w v zs) (hb : Below w.heap.size w w') : Held base w0 w' v zs := by
  refine ⟨?_, h.2.1.trans (hb.mono h.2.2), Nat.le_trans h.2.2 hb.size⟩
  exact h.1.kept (row := none) ⟨hb.os, hb.tape, hb.output, hb.size, fun k hk _ => hb.block k hk⟩ (by cases hv : v.ownBlock <;> simp)

theorem belowDrewN {B : Nat} {a w : World} (h : Below B a w) (n : Nat) : Below B a (w.drewN n) := h.trans ⟨rfl, rfl, rfl, Nat.le_refl _, fun _ _ => rfl⟩

set_option maxHeartbeats 400000 in
theorem clone_any (v : Value) (zs : List Int) (w : World) (hR : Reads w v zs) (hz : zs.length ≤ 10000000) :
    Calls Try.prog 7 #[v] w fun e w' => ∃ v', e = .returned v' ∧ Held w.heap.size w w' v' zs := by
  obtain ⟨ao, cap, rfl, hl, hn, hc⟩ := hR
  obtain ⟨i0, hi, hz0, hz1, hz2⟩ := info_parts info5
  cases ao with
  | none =>
    obtain ⟨rfl, rfl⟩ := hn rfl
    have hnil := fun wx => Lib.run_eql_slice_nil (P := Try.prog) wx 22 5 none 0 0 0 0 Try.underlying22
    go_enter Try.func7, Try.ntmps7
    go_wp2
    go_ret
    exact ⟨_, rfl, World.ownsRow_nil _ _ _ _, Below.refl _ _, Nat.le_refl _⟩
  | some a =>
    clear hn
    have hnil := fun wx => Lib.run_eql_slice_nil (P := Try.prog) wx 22 5 (some a) zs.length cap 0 0 Try.underlying22
    go_enter Try.func7, Try.ntmps7
    go_wp2_with (at_make; refine wpList_make_full _ rfl _ _ 22 rfl w.heap.size 5 i0 (.int .u8 0) 1 Try.underlying22 hi hz0 hz1 _ _ _ _ zs.length rfl rfl rfl rfl ?c1 ?c2 ?c3 ?_)
    case c1 => rw [hz2]; omega
    case c2 => unfold maxLen; omega
    case c3 => exact Nat.le_refl _
    intro w1 hown1 hg1
    obtain ⟨cur, hcur, hcs⟩ : ∃ cur : List Value, w1.heap[w.heap.size]? = some (.cells cur.toArray 5 (0, 0)) ∧ cur.length = zs.length := by
      rcases hown1.2 with ⟨h, _⟩ | ⟨g, cap, cur, h, _, hg, _, _, hs, _⟩
      · simp at h
      · simp only [Value.slice.injEq, Option.some.injEq, Addr.mk.injEq, and_true, true_and] at h
        obtain ⟨rfl, rfl⟩ := h
        exact ⟨cur.toList, by simpa using hg, by simpa using hs⟩
    have hb1 : Below w.heap.size w w1 := (Below.refl _ _).grown hg1 (Nat.le_refl _) (fun k h => by cases h)
    clear hown1 hg1
    go_wp2_with (refine wpList_copy_splice rfl (.tmp 9) (.tmp 10) 22 22 rfl 5 Try.underlying22 (by rw [hi]; simp [hz1]) _ _ _ _ _ _ rfl rfl w.heap.size 0 cur 5 hcur (cells8 zs) ?d1 ?d2 ?d3 (cells8_one _) w.heap.size w hb1 (Nat.le_refl _) ?_)
    case d1 => simp [cells8]
    case d2 =>
      intro hp
      rw [cells8_length] at hp
      obtain ⟨b, off, ha, hcell⟩ := hc hp
      intro j v hj
      obtain rfl := Option.some.inj ha
      obtain ⟨hj1, rfl⟩ := cells8_get hj
      rw [Addr.add_lit]
      have h1 := hcell j hj1
      rw [← h1]
      exact hb1.cell (World.block_lt_of_cell? _ _ h1)
    case d3 => simp [cells8, hcs]
    intro w2 hw2 hb2
    go_wp2
    go_ret
    refine ⟨_, rfl, ⟨by simp [cells8], .inr ⟨w.heap.size, zs.length, (splice cur 0 (cells8 zs)).toArray, rfl, Nat.le_refl _, hw2.out, Nat.le_refl _, by unfold maxLen; omega, ?_, ?_⟩⟩, hb2, hb2.size⟩
    · simp [splice, cells8, hcs]
    · simp [splice, cells8]

/-- ZZappendString hands on to appendString. -/
theorem zzapp_any (base : Nat) (v : Value) (zs : List Int) (s : ByteArray) (w0 w : World) (hH : Held base w0 w v zs) (hz : zs.length ≤ 10000000) (hs : s.size ≤ 2097152) :
    Calls Try.prog 8 #[v, .string s] w fun e w' => ∃ v', e = .returned v' ∧ Held base w0 w' v' (zs ++ quo (bs s)) := by
  go_enter Try.func8, Try.ntmps8
  go_wp2_with (go_at_call 13; refine (app_any base v zs s w0 _ hH hz hs).mono ?_; rintro e w' ⟨v', rfl, hH'⟩)
  go_ret
  exact ⟨_, rfl, hH'⟩

set_option maxHeartbeats 400000 in
theorem equal_any (va vb : Value) (zs : List Int) (w : World) (ha : Reads w va zs) (hb : Reads w vb zs) (hz : zs.length ≤ 100000000) :
    Calls Try.prog 9 #[va, vb] w fun e w' => e = .returned (.bool true) ∧ ∃ m, w' = w.drewN m := by
  obtain ⟨aa, capa, rfl, hla, _, hca⟩ := ha
  obtain ⟨ab, capb, rfl, hlb, _, hcb⟩ := hb
  go_enter Try.func9, Try.ntmps9
  go_wp2
  go_loopw [5] (fun i wr => ∃ k : Nat, k ≤ zs.length ∧ i = .int .i64 k ∧ ∃ d, wr = w.drewN d) (fun i _ => zs.length - (intOf i).toNat)
  case atStart => exact ⟨0, Nat.zero_le _, rfl, 0, rfl⟩
  case round =>
    obtain ⟨k, hk, rfl, d, rfl⟩ := hrel
    by_cases hlt : k < zs.length
    · obtain ⟨ba, oa, rfl, ga⟩ := hca (by omega)
      obtain ⟨bb, ob, rfl, gb⟩ := hcb (by omega)
      have ca := ga k hlt
      have cb := gb k hlt
      clear ga gb hca hcb
      have hlt' : (k : Int) < (zs.length : Int) := by omega
      go_wp2
      go_quiet (fail)
      go_wp2
      go_roundw
      case rel => exact ⟨k + 1, by omega, by go_num, _, rfl⟩
      case measure => simp [intOf]; omega
    · go_wp2
      go_ret
      exact ⟨rfl, d, rfl⟩

theorem Held.shape {base : Nat} {w0 w : World} {v : Value} {zs : List Int} (h : Held base w0 w v zs) : ∃ ao cap, v = .slice ao zs.length cap := by
  obtain ⟨ao, cap, hv, _⟩ := h.reads
  exact ⟨ao, cap, hv⟩

/-- The two contracts with the slice's shape written out. -/
theorem clone_sl (v : Value) (zs : List Int) (w : World) (hR : Reads w v zs) (hz : zs.length ≤ 10000000) :
    Calls Try.prog 7 #[v] w fun e w' => ∃ ao cap, e = .returned (.slice ao zs.length cap) ∧ Held w.heap.size w w' (.slice ao zs.length cap) zs := by
  refine (clone_any v zs w hR hz).mono fun e w' h => ?_
  obtain ⟨v', he, hH⟩ := h
  obtain ⟨ao, cap, hv⟩ := hH.shape
  exact ⟨ao, cap, by rw [he, hv], by rw [← hv]; exact hH⟩
theorem zzapp_sl (base : Nat) (v : Value) (zs : List Int) (s : ByteArray) (w0 w : World) (n : Nat) (hn : n = zs.length + (encL (bs s)).length + 2) (hH : Held base w0 w v zs) (hz : zs.length ≤ 10000000) (hs : s.size ≤ 2097152) :
    Calls Try.prog 8 #[v, .string s] w fun e w' => ∃ ao cap, e = .returned (.slice ao n cap) ∧ Held base w0 w' (.slice ao n cap) (zs ++ quo (bs s)) := by
  refine (zzapp_any base v zs s w0 w hH hz hs).mono fun e w' h => ?_
  obtain ⟨v', he, hH'⟩ := h
  obtain ⟨ao, cap, hv⟩ := hH'.shape
  have hl : (zs ++ quo (bs s)).length = n := by rw [hn, List.length_append, quo_len]; omega
  rw [hl] at hv
  exact ⟨ao, cap, by rw [he, hv], by rw [← hv]; exact hH'⟩

/-- What appendString hands back is not nil: it lies at the head of a block. -/
theorem zzapp_at (base : Nat) (v : Value) (zs : List Int) (s : ByteArray) (w0 w : World) (n : Nat) (hn : n = zs.length + (encL (bs s)).length + 2) (hH : Held base w0 w v zs) (hz : zs.length ≤ 10000000) (hs : s.size ≤ 2097152) :
    Calls Try.prog 8 #[v, .string s] w fun e w' => ∃ g cap, e = .returned (.slice (some ⟨g, 0, none⟩) n cap) ∧ n ≤ cap ∧ cap ≤ maxLen ∧ Held base w0 w' (.slice (some ⟨g, 0, none⟩) n cap) (zs ++ quo (bs s)) := by
  refine (zzapp_any base v zs s w0 w hH hz hs).mono fun e w' h => ?_
  obtain ⟨v', he, hH'⟩ := h
  have hl : (zs ++ quo (bs s)).length = n := by rw [hn, List.length_append, quo_len]; omega
  rcases hH'.1.2 with ⟨hv, h0⟩ | ⟨g, cap, cur, hv, _, _, hnc, hcm, _⟩
  · omega
  · rw [hl] at hv hnc
    exact ⟨g, cap, by rw [he, hv], hnc, hcm, by rw [← hv]; exact hH'⟩

/-- A slice of bytes that came in, as the shell tells it. -/
theorem reads_of_row {w : World} {a : Option Addr} {len cap : Nat} {zs : List Int}
    (h : (a = none ∧ len = 0 ∧ cap = 0 ∧ zs = []) ∨ ∃ x, a = some x ∧ len ≤ cap ∧ cap ≤ maxLen ∧ zs.length = cap ∧ (∀ i, i < zs.length → w.cell? (x.add i) = some (.int .u8 (zs.getD i 0))) ∧ ∀ n ∈ zs, (Lit.int .u8 n).wf = true) :
    Reads w (.slice a len cap) (zs.take len) ∧ (zs.take len).length = len := by
  rcases h with ⟨rfl, rfl, rfl, rfl⟩ | ⟨x, rfl, hl, _, hz, hc, _⟩
  · exact ⟨⟨none, 0, rfl, Nat.le_refl _, fun _ => ⟨rfl, rfl⟩, fun hp => absurd hp (by simp)⟩, rfl⟩
  · have hlen : (zs.take len).length = len := by simp; omega
    refine ⟨⟨some x, cap, by rw [hlen], by omega, fun h => (by simp at h), fun hp => ?_⟩, hlen⟩
    rw [hlen] at hp
    obtain ⟨b, off, spot⟩ := x
    have hspot : spot = none := by simpa [Addr.add] using World.cell?_spot (hc 0 (by omega))
    subst hspot
    refine ⟨b, off, rfl, fun i hi => ?_⟩
    rw [hlen] at hi
    have := hc i (by omega)
    rw [Addr.add_lit] at this
    rw [this]
    simp [List.getD, hi]

end Go.Proofs.Qxb6601577a
