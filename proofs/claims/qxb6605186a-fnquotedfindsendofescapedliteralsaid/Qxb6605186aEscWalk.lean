/-
  escapeQuotesAndBackslashes (9), and the walk of FnQuotedFindsEndOfEscapedLiteral (4), with zzBytes_FnQuotedFindsEndOfEscapedLiteral (8).
-/
import Derived.Test.Qxb6605186aWalksA
import Derived.Laws.IdiomStrings
namespace Go.Proofs.Qxb6605186a
open Go.RowKit

theorem info5 : (Try.prog.info? 5).map (fun i => (i.zero, i.size, i.bytes)) = some (some (.int .u8 0), 1, 1) := by kernel_rfl

/-- Bytes as cells. -/
def cellsU (l : Bytes) : List Value := l.map fun b => Value.int .u8 (b.toNat : Int)
theorem cellsU_append (a b : Bytes) : cellsU (a ++ b) = cellsU a ++ cellsU b := by simp [cellsU]
theorem cellsU_length (a : Bytes) : (cellsU a).length = a.length := by simp [cellsU]
theorem cellsU_one (a : Bytes) : ∀ u ∈ cellsU a, u.oneCell' = true := by
  intro u hu
  obtain ⟨_, _, rfl⟩ := List.mem_map.1 hu
  rfl
theorem news_at (w : World) (new : Bytes) (t : TypeId) : ∀ j u, (cellsU new)[j]? = some u → (w.alloc (.cells (cellsU new).toArray t)).cell? ((⟨w.heap.size, 0, none⟩ : Addr).add j) = some u := by
  intro j u hu
  rw [Addr.add_lit, cell_of_row _ _ _ _ _ (0, 0) (heap_alloc_new w _)]
  simpa using hu

/-- The row at the head of block B holds the bytes L; below B the world is as w was. -/
def HeldU (B cap : Nat) (w wr : World) (L : Bytes) : Prop :=
  wr.ownsRow B 5 1 (.slice (some ⟨B, 0, none⟩) L.length cap) L.length (cellsU L) ∧ Below B w wr ∧ B ≤ wr.heap.size
theorem HeldU.next {B cap : Nat} {w wr w1 : World} {L : Bytes} {o : Obj} (h : HeldU B cap w wr L) (new : Bytes)
    (hown : w1.ownsRow B 5 1 (.slice (some ⟨B, 0, none⟩) (L.length + new.length) cap) (L.length + new.length) (cellsU L ++ cellsU new)) (hg : (wr.alloc o).grownBy w1 (some B)) : HeldU B cap w w1 (L ++ new) := by
  refine ⟨by rw [cellsU_append, List.length_append]; exact hown, ?_, ?_⟩
  · exact (h.2.1.alloc h.2.2 o).grown hg (by have := h.2.2; simp; omega) (fun k hk => by cases hk; exact Nat.le_refl _)
  · have := hg.size; have h2 := h.2.2; simp at this; omega
theorem HeldU.own {B cap : Nat} {w wr : World} {L : Bytes} (h : HeldU B cap w wr L) (o : Obj) : (wr.alloc o).ownsRow B 5 1 (.slice (some ⟨B, 0, none⟩) L.length cap) L.length (cellsU L) := h.1.alloc o
theorem HeldU.le {B cap : Nat} {w wr : World} {L : Bytes} (h : HeldU B cap w wr L) : B ≤ wr.heap.size := h.2.2
theorem HeldU.cell {B cap : Nat} {w wr : World} {L : Bytes} (h : HeldU B cap w wr L) : ∀ j (hj : j < L.length), wr.cell? ((⟨B, 0, none⟩ : Addr).add j) = some (.int .u8 (L[j].toNat : Int)) := by
  intro j hj
  rw [Addr.add_lit, Nat.zero_add, h.1.cellAt j (by simpa using hj)]
  simp [cellsU, hj]

theorem esc_step {x : ByteArray} {k : Nat} (hlt : k < x.size) : escL (x.toList.take (k + 1)) = escL (x.toList.take k) ++ escB x[k] := by
  rw [take_snoc (by rw [toList_len]; exact hlt), escL_snoc, get_toList x k hlt]

set_option maxHeartbeats 800000 in
theorem escape_any (x : ByteArray) (w : World) (hx : x.size ≤ 1048576) :
    Calls Try.prog 9 #[.string x] w fun e w' => ∃ t : ByteArray, e = .returned (.string t) ∧ t.toList = escL x.toList ∧ Below w.heap.size w w' := by
  obtain ⟨i0, hi, hz0, hz1, hz2⟩ := info_parts info5
  go_enter Try.func9, Try.ntmps9
  go_wp2_with (at_make; refine wpList_make_own _ rfl _ _ 25 rfl w.heap.size 5 i0 (.int .u8 0) 1 Try.underlying25 hi hz0 hz1 _ _ _ (2 * x.size) rfl rfl ?c0 ?c1 ?c2 ?c3 ?_)
  case c0 => omega
  case c1 => rw [hz2]; omega
  case c2 => unfold maxLen; omega
  case c3 => exact Nat.le_refl _
  intro w1 hown1 hg1
  have H1 : HeldU w.heap.size (2 * x.size) w w1 [] := ⟨hown1, (Below.refl _ _).grown hg1 (Nat.le_refl _) (fun k h => by cases h), hg1.size⟩
  clear hown1 hg1
  go_wp2
  go_loopg [3, 4] x.size (fun g v i wr => ∃ (k : Nat) (L : Bytes), Hid (k + g = x.size ∧ L = escL (x.toList.take k)) ∧ L.length ≤ 2 * k ∧ i = .int .i64 k ∧ v = .slice (some ⟨w.heap.size, 0, none⟩) L.length (2 * x.size) ∧ HeldU w.heap.size (2 * x.size) w wr L)
  case atStart => exact ⟨0, [], ⟨by omega, by simp [escL]⟩, by simp, rfl, rfl, H1⟩
  case round =>
    obtain ⟨k, L, hk, hL, rfl, rfl, hr⟩ := hrel
    clear H1
    by_cases hlt : k < x.size
    · have hst := esc_step hlt
      by_cases h34 : ((x[k]).toNat : Int) = 34
      · have hE : escB x[k] = [92, 34] := by rw [byte_of _ 34 (by omega) h34]; rfl
        rw [hE] at hst
        have HST : Hid (escL (x.toList.take (k + 1)) = escL (x.toList.take k) ++ [92, 34]) := hst
        clear hst hE
        go_wp2_with (at_builtin; refine wpList_append_fits _ rfl (.tmp 25) (.tmp 26) 25 rfl w.heap.size 5 i0 1 Try.underlying25 hi hz1 w.heap.size L.length (2 * x.size) (cellsU L) rfl (hr.own _) ⟨wr.heap.size, 0, none⟩ 1 1 (cellsU [92]) rfl rfl (news_at _ _ _) (cellsU_one _) ?d1 ?_)
        case d1 => omega
        intro w1 hown1 hg1
        have R1 := hr.next [92] hown1 hg1
        clear hg1
        go_wp2_with (at_builtin; refine wpList_append_fits _ rfl (.tmp 28) (.tmp 30) 25 rfl w.heap.size 5 i0 1 Try.underlying25 hi hz1 w.heap.size (L.length + 1) (2 * x.size) (cellsU L ++ cellsU [92]) rfl (hown1.alloc _) ⟨w1.heap.size, 0, none⟩ 1 1 (cellsU [34]) rfl rfl (news_at _ _ _) (cellsU_one _) ?e1 ?_)
        case e1 => omega
        intro w2 hown2 hg2
        have R2 := R1.next [34] (by simpa [cellsU_append] using hown2) hg2
        clear hown1 hown2 hg2 R1 hr
        go_wp2
        go_roundg (gk - 1)
        case measure => have := hk.out.1; omega
        case rel => exact ⟨k + 1, L ++ [92] ++ [34], ⟨by have := hk.out.1; omega, by rw [HST.out, ← hk.out.2]; simp⟩, by simp; omega, by go_num, by simp, R2⟩
      · by_cases h92 : ((x[k]).toNat : Int) = 92
        · have hE : escB x[k] = [92, 92] := by rw [byte_of _ 92 (by omega) h92]; rfl
          rw [hE] at hst
          have HST : Hid (escL (x.toList.take (k + 1)) = escL (x.toList.take k) ++ [92, 92]) := hst
          clear hst hE
          go_wp2_with (at_builtin; refine wpList_append_fits _ rfl (.tmp 25) (.tmp 26) 25 rfl w.heap.size 5 i0 1 Try.underlying25 hi hz1 w.heap.size L.length (2 * x.size) (cellsU L) rfl (hr.own _) ⟨wr.heap.size, 0, none⟩ 1 1 (cellsU [92]) rfl rfl (news_at _ _ _) (cellsU_one _) ?d1 ?_)
          case d1 => omega
          intro w1 hown1 hg1
          have R1 := hr.next [92] hown1 hg1
          clear hg1
          go_wp2_with (at_builtin; refine wpList_append_fits _ rfl (.tmp 28) (.tmp 30) 25 rfl w.heap.size 5 i0 1 Try.underlying25 hi hz1 w.heap.size (L.length + 1) (2 * x.size) (cellsU L ++ cellsU [92]) rfl (hown1.alloc _) ⟨w1.heap.size, 0, none⟩ 1 1 (cellsU [92]) rfl rfl (news_at _ _ _) (cellsU_one _) ?e1 ?_)
          case e1 => omega
          intro w2 hown2 hg2
          have R2 := R1.next [92] (by simpa [cellsU_append] using hown2) hg2
          clear hown1 hown2 hg2 R1 hr
          go_wp2
          go_roundg (gk - 1)
          case measure => have := hk.out.1; omega
          case rel => exact ⟨k + 1, L ++ [92] ++ [92], ⟨by have := hk.out.1; omega, by rw [HST.out, ← hk.out.2]; simp⟩, by simp; omega, by go_num, by simp, R2⟩
        · have hE : escB x[k] = [x[k]] := by
            unfold escB
            rw [if_neg]
            intro h
            rcases h with h | h
            · exact byte_not _ 34 (by omega) h34 h
            · exact byte_not _ 92 (by omega) h92 h
          rw [hE] at hst
          have HST : Hid (escL (x.toList.take (k + 1)) = escL (x.toList.take k) ++ [x[k]]) := hst
          have k34 : (((x[k]).toNat : Int) == 34) = false := beq_eq_false_iff_ne.2 h34
          have k92 : (((x[k]).toNat : Int) == 92) = false := beq_eq_false_iff_ne.2 h92
          clear hst hE
          go_wp2_with (at_builtin; refine wpList_append_fits _ rfl (.tmp 28) (.tmp 30) 25 rfl w.heap.size 5 i0 1 Try.underlying25 hi hz1 w.heap.size L.length (2 * x.size) (cellsU L) rfl (hr.own _) ⟨wr.heap.size, 0, none⟩ 1 1 (cellsU [x[k]]) rfl rfl (news_at _ _ _) (cellsU_one _) ?d1 ?_)
          case d1 => omega
          intro w1 hown1 hg1
          have R1 := hr.next [x[k]] hown1 hg1
          clear hg1 hown1 hr
          go_wp2
          go_roundg (gk - 1)
          case measure => have := hk.out.1; omega
          case rel => exact ⟨k + 1, L ++ [x[k]], ⟨by have := hk.out.1; omega, by rw [HST.out, ← hk.out.2]⟩, by simp; omega, by go_num, by simp, R1⟩
    · have hcv := run_convert_bytes_back (P := Try.prog) wr 25 9 5 ⟨w.heap.size, 0, none⟩ (2 * x.size) L Try.underlying25 Try.underlying5 Try.underlying9 hr.cell
      have HE : Hid (L = escL x.toList) := by
        show _ = _
        rw [hk.out.2, List.take_of_length_le]
        rw [toList_len]; omega
      go_wp2
      go_ret
      exact ⟨_, rfl, by rw [ByteArray.toList_mk]; exact HE.out, hr.2.1⟩

theorem zzb8_yes (x t : ByteArray) (w : World) (h : x.size + t.size ≤ 1048576) :
    Calls Try.prog 8 #[.string x, .string t] w fun e w' => e = .returned (.bool true) ∧ w = w' := by
  go_enter Try.func8, Try.ntmps8
  go_wp2
  go_ret
  exact ⟨rfl, rfl⟩
theorem zzb8_no (x t : ByteArray) (w : World) (h : ¬ x.size + t.size ≤ 1048576) (hx : x.size ≤ maxLen) (ht : t.size ≤ maxLen) :
    Calls Try.prog 8 #[.string x, .string t] w fun e w' => e = .returned (.bool false) ∧ w = w' := by
  unfold maxLen at hx ht
  by_cases h1 : 1048576 < x.size
  · go_enter Try.func8, Try.ntmps8
    go_wp2
    go_ret
    exact ⟨rfl, rfl⟩
  · by_cases h2 : 1048576 < t.size
    · go_enter Try.func8, Try.ntmps8
      go_wp2
      go_ret
      exact ⟨rfl, rfl⟩
    · go_enter Try.func8, Try.ntmps8
      go_wp2
      go_ret
      exact ⟨rfl, rfl⟩

theorem toList_append (a b : ByteArray) : (a ++ b).toList = a.toList ++ b.toList := by
  rw [ByteArray.toList_eq, ByteArray.toList_eq, ByteArray.toList_eq]; simp
theorem q_toList : (⟨#[34]⟩ : ByteArray).toList = [34] := ByteArray.toList_mk [34]

set_option maxHeartbeats 800000 in
theorem end_walk (x t : ByteArray) (w : World) (hx : x.size ≤ maxLen) (ht : t.size ≤ maxLen) :
    Calls Try.prog 4 #[.string x, .string t] w fun e w' => e = .returned (.bool true) ∧ Below w.heap.size w w' := by
  by_cases h : x.size + t.size ≤ 1048576
  · by_cases h2 : x.size ≤ 524288 ∧ t.size ≤ 524288
    · obtain ⟨hx2, ht2⟩ := h2
      have hd1 : decide ((524288 : Int) < (x.size : Int)) = false := decide_eq_false (by omega)
      have hd2 : decide ((524288 : Int) < (t.size : Int)) = false := decide_eq_false (by omega)
      go_enter Try.func4, Try.ntmps4
      go_wp2_with (go_at_call 8; refine (zzb8_yes _ _ _ h).mono ?_; rintro e w' ⟨rfl, rfl⟩)
      refine (escape_any x w (by omega)).mono ?_
      rintro e w1 ⟨tb, rfl, htb, hB⟩
      have hsz : tb.size ≤ 1048576 := by
        have h1 := escL_len x.toList
        rw [← htb, toList_len, toList_len] at h1
        omega
      have HT : Hid (tb.toList = escL x.toList) := htb
      clear htb hd1 hd2
      go_wp2_with fail
      generalize hO : (⟨#[34]⟩ ++ tb : ByteArray) = O
      generalize hC : O ++ ⟨#[34]⟩ = C
      have eO : O.toList = 34 :: escL x.toList := by rw [← hO, toList_append, q_toList, HT.out]; rfl
      have eC : C.toList = 34 :: escL x.toList ++ [34] := by rw [← hC, toList_append, q_toList, eO]
      have sO : O.size ≤ 1048577 := by have e1 : (⟨#[34]⟩ : ByteArray).size = 1 := rfl; rw [← hO, ByteArray.size_append]; omega
      have sC : C.size ≤ 1048578 := by have e1 : (⟨#[34]⟩ : ByteArray).size = 1 := rfl; rw [← hC, ByteArray.size_append]; omega
      have HO : Hid (O.toList = 34 :: escL x.toList) := eO
      have HC : Hid (C.toList = 34 :: escL x.toList ++ [34]) := eC
      clear hO hC eO eC HT
      refine (zzquoted_any (C ++ t) w1 (by simp; omega)).mono ?_
      rintro e w2 ⟨t1, rfl, ht1, rfl⟩
      have q1 : (t1.toList == C.toList) = true := by rw [ht1, toList_append, HC.out, law_closed]; exact BEq.rfl
      clear ht1
      go_wp2_with fail
      refine (zzquoted_any O w1 (by omega)).mono ?_
      rintro e w2 ⟨t2, rfl, ht2, rfl⟩
      have q2 : (t2.toList == O.toList) = true := by rw [ht2, HO.out, law_open]; exact BEq.rfl
      clear ht2
      go_wp2
      go_ret
      exact ⟨rfl, hB⟩
    · go_enter Try.func4, Try.ntmps4
      go_wp2_with (go_at_call 8; refine (zzb8_yes _ _ _ h).mono ?_; rintro e w' ⟨rfl, rfl⟩)
      all_goals
        go_ret
        exact ⟨rfl, Below.refl _ _⟩
  · go_enter Try.func4, Try.ntmps4
    go_wp2_with (go_at_call 8; refine (zzb8_no _ _ _ h hx ht).mono ?_; rintro e w' ⟨rfl, rfl⟩)
    go_ret
    exact ⟨rfl, Below.refl _ _⟩
end Go.Proofs.Qxb6605186a
