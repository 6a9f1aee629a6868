/-
  zzBytes_FnMatchesAgreesWithNameSet (4) and the law FnMatchesAgreesWithNameSet (3).
-/
import Derived.Test.Qxb6605167aWalksB
import Derived.Laws.CopyOwn
namespace Go.Proofs.Qxb6605167a
open Go.RowKit

/-- How zzBytes ends: it says true only where the lengths are small. -/
def SmallSaid (ss : List ByteArray) (tag : ByteArray) (w : World) (e : Ending) (w' : World) : Prop :=
  ∃ b, e = .returned (.bool b) ∧ w = w' ∧ (b = true → ss.length ≤ 1048576 ∧ tag.size ≤ 1048576)

set_option maxHeartbeats 400000 in
theorem zzb_any (v : Value) (ss : List ByteArray) (tag : ByteArray) (found weak : Bool) (w : World) (hR : ReadsS w v ss) (ht : tag.size ≤ maxLen) :
    Calls Try.prog 4 #[v, .string tag, .bool found, .bool weak] w fun e w' => SmallSaid ss tag w e w' := by
  obtain ⟨ao, cap, rfl, hl, hm, _, hc, hsz⟩ := hR
  unfold maxLen at hm ht
  by_cases hn : ss.length ≤ 1048576
  · have hd : decide ((1048576 : Int) < (ss.length : Int)) = false := decide_eq_false (by omega)
    go_enter Try.func4, Try.ntmps4
    go_wp2
    go_loopg [9, 10] ss.length (fun g z i wr => ∃ k n : Nat, Hid (k + g = ss.length) ∧ i = .int .i64 k ∧ z = .int .i64 n ∧ n ≤ 1048576 ∧ w = wr)
    case atStart => exact ⟨0, ss.length, by show _ = _; omega, rfl, rfl, hn, rfl⟩
    case round =>
      obtain ⟨k, n, hk, rfl, rfl, hnb, rfl⟩ := hrel
      by_cases hlt : k < ss.length
      · obtain ⟨b, off, rfl, hcell⟩ := hc (by omega)
        have c0 := hcell k hlt
        obtain ⟨x, hx⟩ : ∃ x, x = ss.getD k ByteArray.empty := ⟨_, rfl⟩
        have hxs : x.size ≤ maxLen := hsz x (by rw [hx]; simp [List.getD, hlt])
        unfold maxLen at hxs
        rw [← hx] at c0
        clear hcell hc hx hsz
        have hi : (k : Int) < (ss.length : Int) := by omega
        by_cases h1 : 1048576 < x.size
        · go_wp2
          go_ret
          exact ⟨_, rfl, rfl, fun h => by cases h⟩
        · by_cases h2 : 1048576 < n + x.size
          · go_wp2
            go_ret
            exact ⟨_, rfl, rfl, fun h => by cases h⟩
          · go_wp2
            go_roundg (gk - 1)
            case measure => have := hk.out; omega
            case rel => exact ⟨k + 1, n + x.size, by show _ = _; have := hk.out; omega, by go_num, by go_num, by omega, rfl⟩
      · by_cases h1 : 1048576 < tag.size
        · go_wp2
          go_ret
          exact ⟨_, rfl, rfl, fun h => by cases h⟩
        · by_cases h2 : 1048576 < n + tag.size
          · go_wp2
            go_ret
            exact ⟨_, rfl, rfl, fun h => by cases h⟩
          · go_wp2
            go_ret
            exact ⟨_, rfl, rfl, fun _ => ⟨hn, by omega⟩⟩
  · have hd : (1048576 : Int) < (ss.length : Int) := by omega
    go_enter Try.func4, Try.ntmps4
    go_wp2
    go_ret
    exact ⟨_, rfl, rfl, fun h => by cases h⟩

/-- zzHasString's contract with its answer known. -/
theorem has_val (b : Bool) (v : Value) (ss : List ByteArray) (t : ByteArray) (w : World) (hR : ReadsS w v ss) (h : has (lb ss) t.toList = b) :
    Calls Try.prog 5 #[v, .string t] w fun e w' => e = .returned (.bool b) ∧ w = w' := by rw [← h]; exact has_any v ss t w hR
theorem hasw_val (b : Bool) (v : Value) (ss : List ByteArray) (t : ByteArray) (w : World) (hR : ReadsS w v ss) (ht : t.size ≤ 1048576) (h : hasW (lb ss) t.toList = b) :
    Calls Try.prog 6 #[v, .string t] w fun e w' => e = .returned (.bool b) ∧ w = w' := by rw [← h]; exact hasw_any v ss t w hR ht
theorem weak_val (b : Bool) (s : ByteArray) (w : World) (hs : s.size ≤ maxLen) (h : weakF s.toList = b) :
    Calls Try.prog 7 #[.string s] w fun e w' => e = .returned (.bool b) ∧ w = w' := by rw [← h]; exact weak_any s w hs
theorem match_val (b : Bool) (v : Value) (ss : List ByteArray) (tag : ByteArray) (found weak : Bool) (w : World) (hR : ReadsS w v ss) (h : wantF (lb ss) tag.toList found weak = b) :
    Calls Try.prog 8 #[v, .string tag, .bool found, .bool weak] w fun e w' => e = .returned (.bool b) ∧ w = w' := by
  rw [← h, ← law]; exact zzmatch_any v ss tag found weak w hR
theorem star_toList : (⟨#[42]⟩ : ByteArray).toList = [42] := ByteArray.toList_mk [42]
theorem wstar_toList : (⟨#[87, 47, 42]⟩ : ByteArray).toList = [87, 47, 42] := ByteArray.toList_mk [87, 47, 42]

theorem info9 : (Try.prog.info? 9).map (fun i => (i.zero, i.size, i.bytes)) = some (some (.string ByteArray.empty), 1, 16) := by kernel_rfl

theorem ReadsS.below {w w' : World} {v : Value} {ss : List ByteArray} (h : ReadsS w v ss) (hb : Below w.heap.size w w') : ReadsS w' v ss := by
  obtain ⟨ao, cap, hv, hl, hm, hn, hc, hs⟩ := h
  refine ⟨ao, cap, hv, hl, hm, hn, fun hp => ?_, hs⟩
  obtain ⟨b, off, ha, hcell⟩ := hc hp
  refine ⟨b, off, ha, fun i hi => ?_⟩
  have h1 := hcell i hi
  rw [← h1]
  exact hb.cell (World.block_lt_of_cell? _ _ h1)

/-- A slice of strings that came in. -/
theorem reads_of_strings {w : World} {x : Addr} {len cap : Nat} {zs : List ByteArray} (hl : len ≤ cap) (hm : cap ≤ maxLen) (hz : zs.length = cap)
    (hc : ∀ i, i < zs.length → w.cell? (x.add i) = some (.string (zs.getD i ByteArray.empty))) (hw : ∀ s ∈ zs, s.size ≤ maxLen) :
    ∃ ss, ReadsS w (.slice (some x) len cap) ss ∧ ss.length = len := by
  have hlen : (zs.take len).length = len := by simp; omega
  refine ⟨zs.take len, ⟨some x, cap, by rw [hlen], by omega, by omega, fun h => (by simp at h), fun hp => ?_, fun s hs => hw s (List.mem_of_mem_take hs)⟩, hlen⟩
  rw [hlen] at hp
  obtain ⟨b, off, spot⟩ := x
  have hspot : spot = none := by simpa [Addr.add] using World.cell?_spot (hc 0 (by omega))
  subst hspot
  refine ⟨b, off, rfl, fun i hi => ?_⟩
  rw [hlen] at hi
  have := hc i (by omega)
  rw [Addr.add_lit] at this
  rw [this]
  simp [List.getD, hi]

def cellsS (ss : List ByteArray) : List Value := ss.map Value.string
theorem cellsS_one (a : List ByteArray) : ∀ u ∈ cellsS a, u.oneCell' = true := by
  intro u hu
  obtain ⟨_, _, rfl⟩ := List.mem_map.1 hu
  rfl
theorem cellsS_get {a : List ByteArray} {j : Nat} {u : Value} (h : (cellsS a)[j]? = some u) : j < a.length ∧ u = .string (a.getD j ByteArray.empty) := by
  have hj : j < (cellsS a).length := (List.getElem?_eq_some_iff.1 h).1
  simp [cellsS] at hj
  refine ⟨hj, ?_⟩
  simp [cellsS, hj] at h
  simp [List.getD, hj, h]
/-- The copy reads as the strings did. -/
theorem reads_copy {w : World} {g : Nat} {cur : List Value} {ss : List ByteArray} (h : w.heap[g]? = some (.cells (splice cur 0 (cellsS ss)).toArray 9 (0, 0))) (hl : ss.length ≤ 65536) (hs : ∀ s ∈ ss, s.size ≤ maxLen) :
    ReadsS w (.slice (some ⟨g, 0, none⟩) ss.length ss.length) ss := by
  refine ⟨_, _, rfl, Nat.le_refl _, by unfold maxLen; omega, fun h => (by simp at h), fun _ => ⟨g, 0, rfl, fun i hi => ?_⟩, hs⟩
  rw [cell_of_row _ _ _ _ _ (0, 0) h]
  have hi2 : i < (cellsS ss).length := by simpa [cellsS] using hi
  simp only [splice, List.take_zero, List.nil_append, Nat.zero_add]
  rw [List.getElem?_toArray, List.getElem?_append_left hi2]
  simp [cellsS, List.getD, hi]
theorem wantF_no (ss : List Bytes) (t : Bytes) (weak : Bool) : wantF ss t false weak = false := rfl

set_option maxHeartbeats 2000000 in
theorem law_some (a : Addr) (cap0 : Nat) (ss : List ByteArray) (tag : ByteArray) (found weak : Bool) (w : World) (hR : ReadsS w (.slice (some a) ss.length cap0) ss) (ht : tag.size ≤ maxLen) (hn : ss.length ≤ 65536) (htag : tag.size ≤ 1048576) :
    Calls Try.prog 3 #[.slice (some a) ss.length cap0, .string tag, .bool found, .bool weak] w fun e w' => e = .returned (.bool true) ∧ Below w.heap.size w w' := by
  obtain ⟨i0, hi, hz0, hz1, hz2⟩ := info_parts info9
  have hnil := fun wx => run_neq_slice_nil_any (P := Try.prog) wx 22 9 (some a) ss.length cap0 0 0 Try.underlying22
  have hd1 : decide ((65536 : Int) < (ss.length : Int)) = false := decide_eq_false (by omega)
  have hd2 : decide ((1048576 : Int) < (tag.size : Int)) = false := decide_eq_false (by omega)
  go_enter Try.func3, Try.ntmps3
  go_wp2_with fail
  refine (zzb_any _ ss tag found weak w hR ht).mono ?_
  rintro e w' ⟨b, rfl, rfl, _⟩
  cases b with
  | false =>
    go_wp2
    go_ret
    exact ⟨rfl, Below.refl _ _⟩
  | true =>
    go_wp2_with (at_make; refine wpList_make_full _ rfl _ _ 22 rfl w.heap.size 9 i0 (.string ByteArray.empty) 1 Try.underlying22 hi hz0 hz1 _ _ _ _ ss.length rfl rfl rfl rfl ?c1 ?c2 ?c3 ?_)
    case c1 => rw [hz2]; omega
    case c2 => unfold maxLen; omega
    case c3 => exact Nat.le_refl _
    intro w1 hown1 hg1
    obtain ⟨cur, hcur, hcs⟩ : ∃ cur : List Value, w1.heap[w.heap.size]? = some (.cells cur.toArray 9 (0, 0)) ∧ cur.length = ss.length := by
      rcases hown1.2 with ⟨h, _⟩ | ⟨g, cap, cur, h, _, hg, _, _, hs, _⟩
      · simp at h
      · simp only [Value.slice.injEq, Option.some.injEq, Addr.mk.injEq, and_true, true_and] at h
        obtain ⟨rfl, rfl⟩ := h
        exact ⟨cur.toList, by simpa using hg, by simpa using hs⟩
    have hb1 : Below w.heap.size w w1 := (Below.refl _ _).grown hg1 (Nat.le_refl _) (fun k h => by cases h)
    clear hown1 hg1
    go_wp2_with (refine wpList_copy_splice rfl (.tmp 32) (.tmp 33) 22 22 rfl 9 Try.underlying22 (by rw [hi]; simp [hz1]) _ _ _ _ _ _ rfl rfl w.heap.size 0 cur 9 hcur (cellsS ss) ?d1 ?d2 ?d3 (cellsS_one _) w.heap.size w hb1 (Nat.le_refl _) ?_)
    case d1 => simp [cellsS]
    case d2 =>
      obtain ⟨ao, cap, hv, _, _, _, hc, _⟩ := hR
      simp only [Value.slice.injEq] at hv
      obtain ⟨rfl, _, rfl⟩ := hv
      intro hp
      simp only [cellsS, List.length_map] at hp
      obtain ⟨b, off, ha, hcell⟩ := hc hp
      intro j v hj
      obtain rfl := Option.some.inj ha
      obtain ⟨hj1, rfl⟩ := cellsS_get hj
      rw [Addr.add_lit]
      have h1 := hcell j hj1
      rw [← h1]
      exact hb1.cell (World.block_lt_of_cell? _ _ h1)
    case d3 => simp [cellsS, hcs]
    intro w2 hw2 hB2
    have R2 : ReadsS w2 (.slice (some ⟨w.heap.size, 0, none⟩) ss.length ss.length) ss := reads_copy hw2.out hn (by obtain ⟨_, _, _, _, _, _, _, hs⟩ := hR; exact hs)
    clear hb1 hcur hw2 hnil
    go_wp2
    clear hd1 hd2
    go_loopg [10, 11] ss.length (fun g z i wr => ∃ k n : Nat, Hid (k + g = ss.length) ∧ i = .int .i64 k ∧ z = .int .i64 n ∧ n ≤ 3145728 ∧ w2 = wr)
    case atStart => exact ⟨0, 16 * ss.length + tag.size, by show _ = _; omega, rfl, by go_num, by omega, rfl⟩
    case round =>
      obtain ⟨k, n, hk, rfl, rfl, hnb, rfl⟩ := hrel
      by_cases hlt : k < ss.length
      · obtain ⟨aoR, capR, hvR, _, _, _, hcR, hszR⟩ := R2
        simp only [Value.slice.injEq] at hvR
        obtain ⟨rfl, _, rfl⟩ := hvR
        obtain ⟨bR, offR, hbR, hcell⟩ := hcR (by omega)
        simp only [Option.some.injEq, Addr.mk.injEq, and_true] at hbR
        obtain ⟨rfl, rfl⟩ := hbR
        simp only [Nat.zero_add] at hcell
        have c0 := hcell k hlt
        obtain ⟨x, hx⟩ : ∃ x, x = ss.getD k ByteArray.empty := ⟨_, rfl⟩
        have hxs : x.size ≤ maxLen := hszR x (by rw [hx]; simp [List.getD, hlt])
        unfold maxLen at hxs
        rw [← hx] at c0
        clear hcell hx hszR hcR
        have hi : (k : Int) < (ss.length : Int) := by omega
        by_cases h1 : 1048576 < x.size
        · go_wp2
          go_ret
          exact ⟨rfl, hB2⟩
        · by_cases h2 : 1048576 < n + x.size
          · go_wp2
            go_ret
            exact ⟨rfl, hB2⟩
          · go_wp2
            go_roundg (gk - 1)
            case measure => have := hk.out; omega
            case rel => exact ⟨k + 1, n + x.size, by show _ = _; have := hk.out; omega, by go_num, by go_num, by omega, rfl⟩
      · cases found with
        | false =>
          go_wp2_with (go_at_call 8; refine (match_val false _ ss tag _ _ _ R2 (wantF_no _ _ _)).mono ?_; rintro e w' ⟨rfl, rfl⟩)
          go_ret
          exact ⟨rfl, hB2⟩
        | true =>
          cases hS : has (lb ss) [42] with
          | true =>
            have HM : Hid (wantF (lb ss) tag.toList true weak = true) := by show _ = _; simp [wantF, hS]
            have HS : Hid (has (lb ss) [42] = true) := hS
            clear hS
            go_wp2_with fail
            refine (has_val true _ ss _ _ R2 (by rw [star_toList]; exact HS.out)).mono ?_
            rintro e w' ⟨rfl, rfl⟩
            go_wp2_with fail
            refine (match_val true _ ss tag _ _ _ R2 HM.out).mono ?_
            rintro e w' ⟨rfl, rfl⟩
            go_wp2
            go_ret
            exact ⟨rfl, hB2⟩
          | false =>
            have HS : Hid (has (lb ss) [42] = false) := hS
            clear hS
            cases weak with
            | false =>
              obtain ⟨bt, hT⟩ : ∃ b, has (lb ss) tag.toList = b := ⟨_, rfl⟩
              have HM : Hid (wantF (lb ss) tag.toList true false = bt) := by show _ = _; simp [wantF, HS.out, hT]
              have HT : Hid (has (lb ss) tag.toList = bt) := hT
              clear hT
              go_wp2_with fail
              refine (has_val false _ ss _ _ R2 (by rw [star_toList]; exact HS.out)).mono ?_
              rintro e w' ⟨rfl, rfl⟩
              go_wp2_with fail
              refine (has_val bt _ ss _ _ R2 HT.out).mono ?_
              rintro e w' ⟨rfl, rfl⟩
              go_wp2_with fail
              refine (match_val bt _ ss tag _ _ _ R2 HM.out).mono ?_
              rintro e w' ⟨rfl, rfl⟩
              cases bt
              all_goals
                go_wp2
                go_ret
                exact ⟨rfl, hB2⟩
            | true =>
              cases h1 : has (lb ss) [87, 47, 42] with
              | true =>
                have HM : Hid (wantF (lb ss) tag.toList true true = true) := by show _ = _; simp [wantF, h1]
                have H1 : Hid (has (lb ss) [87, 47, 42] = true) := h1
                clear h1
                go_wp2_with fail
                refine (has_val false _ ss _ _ R2 (by rw [star_toList]; exact HS.out)).mono ?_
                rintro e w' ⟨rfl, rfl⟩
                go_wp2_with fail
                refine (has_val true _ ss _ _ R2 (by rw [wstar_toList]; exact H1.out)).mono ?_
                rintro e w' ⟨rfl, rfl⟩
                go_wp2_with fail
                refine (match_val true _ ss tag _ _ _ R2 HM.out).mono ?_
                rintro e w' ⟨rfl, rfl⟩
                go_wp2
                go_ret
                exact ⟨rfl, hB2⟩
              | false =>
                have H1 : Hid (has (lb ss) [87, 47, 42] = false) := h1
                clear h1
                cases h2 : hasW (lb ss) tag.toList with
                | true =>
                  have HM : Hid (wantF (lb ss) tag.toList true true = true) := by show _ = _; simp [wantF, h2]
                  have H2 : Hid (hasW (lb ss) tag.toList = true) := h2
                  clear h2
                  go_wp2_with fail
                  refine (has_val false _ ss _ _ R2 (by rw [star_toList]; exact HS.out)).mono ?_
                  rintro e w' ⟨rfl, rfl⟩
                  go_wp2_with fail
                  refine (has_val false _ ss _ _ R2 (by rw [wstar_toList]; exact H1.out)).mono ?_
                  rintro e w' ⟨rfl, rfl⟩
                  go_wp2_with fail
                  refine (hasw_val true _ ss _ _ R2 htag H2.out).mono ?_
                  rintro e w' ⟨rfl, rfl⟩
                  go_wp2_with fail
                  refine (match_val true _ ss tag _ _ _ R2 HM.out).mono ?_
                  rintro e w' ⟨rfl, rfl⟩
                  go_wp2
                  go_ret
                  exact ⟨rfl, hB2⟩
                | false =>
                  have H2 : Hid (hasW (lb ss) tag.toList = false) := h2
                  clear h2
                  cases h3 : weakF tag.toList with
                  | true =>
                    have HM : Hid (wantF (lb ss) tag.toList true true = false) := by show _ = _; simp [wantF, HS.out, H1.out, H2.out, h3]
                    have H3 : Hid (weakF tag.toList = true) := h3
                    clear h3
                    go_wp2_with fail
                    refine (has_val false _ ss _ _ R2 (by rw [star_toList]; exact HS.out)).mono ?_
                    rintro e w' ⟨rfl, rfl⟩
                    go_wp2_with fail
                    refine (has_val false _ ss _ _ R2 (by rw [wstar_toList]; exact H1.out)).mono ?_
                    rintro e w' ⟨rfl, rfl⟩
                    go_wp2_with fail
                    refine (hasw_val false _ ss _ _ R2 htag H2.out).mono ?_
                    rintro e w' ⟨rfl, rfl⟩
                    go_wp2_with fail
                    refine (weak_val true _ _ ht H3.out).mono ?_
                    rintro e w' ⟨rfl, rfl⟩
                    go_wp2_with fail
                    refine (match_val false _ ss tag _ _ _ R2 HM.out).mono ?_
                    rintro e w' ⟨rfl, rfl⟩
                    go_wp2
                    go_ret
                    exact ⟨rfl, hB2⟩
                  | false =>
                    obtain ⟨bt, hT⟩ : ∃ b, has (lb ss) tag.toList = b := ⟨_, rfl⟩
                    have HM : Hid (wantF (lb ss) tag.toList true true = bt) := by show _ = _; simp [wantF, HS.out, H1.out, H2.out, h3, hT]
                    have HT : Hid (has (lb ss) tag.toList = bt) := hT
                    have H3 : Hid (weakF tag.toList = false) := h3
                    clear h3 hT
                    go_wp2_with fail
                    refine (has_val false _ ss _ _ R2 (by rw [star_toList]; exact HS.out)).mono ?_
                    rintro e w' ⟨rfl, rfl⟩
                    go_wp2_with fail
                    refine (has_val false _ ss _ _ R2 (by rw [wstar_toList]; exact H1.out)).mono ?_
                    rintro e w' ⟨rfl, rfl⟩
                    go_wp2_with fail
                    refine (hasw_val false _ ss _ _ R2 htag H2.out).mono ?_
                    rintro e w' ⟨rfl, rfl⟩
                    go_wp2_with fail
                    refine (weak_val false _ _ ht H3.out).mono ?_
                    rintro e w' ⟨rfl, rfl⟩
                    go_wp2_with fail
                    refine (has_val bt _ ss _ _ R2 HT.out).mono ?_
                    rintro e w' ⟨rfl, rfl⟩
                    go_wp2_with fail
                    refine (match_val bt _ ss tag _ _ _ R2 HM.out).mono ?_
                    rintro e w' ⟨rfl, rfl⟩
                    cases bt
                    all_goals
                      go_wp2
                      go_ret
                      exact ⟨rfl, hB2⟩

set_option maxHeartbeats 2000000 in
theorem law_nil (ss : List ByteArray) (tag : ByteArray) (found weak : Bool) (w2 : World) (R2 : ReadsS w2 (.slice none ss.length 0) ss) (ht : tag.size ≤ maxLen) (hn : ss.length ≤ 65536) (htag : tag.size ≤ 1048576) :
    Calls Try.prog 3 #[.slice none ss.length 0, .string tag, .bool found, .bool weak] w2 fun e w' => e = .returned (.bool true) ∧ Below w2.heap.size w2 w' := by
  have hB2 := Below.refl w2.heap.size w2
  have hnil := fun wx => run_neq_slice_nil_any (P := Try.prog) wx 22 9 none ss.length 0 0 0 Try.underlying22
  have hd1 : decide ((65536 : Int) < (ss.length : Int)) = false := decide_eq_false (by omega)
  have hd2 : decide ((1048576 : Int) < (tag.size : Int)) = false := decide_eq_false (by omega)
  go_enter Try.func3, Try.ntmps3
  go_wp2_with fail
  refine (zzb_any _ ss tag found weak w2 R2 ht).mono ?_
  rintro e w' ⟨b, rfl, rfl, _⟩
  cases b with
  | false =>
    go_wp2
    go_ret
    exact ⟨rfl, Below.refl _ _⟩
  | true =>
    go_wp2
    clear hd1 hd2 hnil
    go_loopg [10, 11] ss.length (fun g z i wr => ∃ k n : Nat, Hid (k + g = ss.length) ∧ i = .int .i64 k ∧ z = .int .i64 n ∧ n ≤ 3145728 ∧ w2 = wr)
    case atStart => exact ⟨0, 16 * ss.length + tag.size, by show _ = _; omega, rfl, by go_num, by omega, rfl⟩
    case round =>
      obtain ⟨k, n, hk, rfl, rfl, hnb, rfl⟩ := hrel
      by_cases hlt : k < ss.length
      · obtain ⟨aoR, capR, hvR, _, _, _, hcR, hszR⟩ := R2
        simp only [Value.slice.injEq] at hvR
        obtain ⟨rfl, _, rfl⟩ := hvR
        obtain ⟨bR, offR, hbR, hcell⟩ := hcR (by omega)
        exact absurd hbR (by simp)
      · cases found with
        | false =>
          go_wp2_with (go_at_call 8; refine (match_val false _ ss tag _ _ _ R2 (wantF_no _ _ _)).mono ?_; rintro e w' ⟨rfl, rfl⟩)
          go_ret
          exact ⟨rfl, hB2⟩
        | true =>
          cases hS : has (lb ss) [42] with
          | true =>
            have HM : Hid (wantF (lb ss) tag.toList true weak = true) := by show _ = _; simp [wantF, hS]
            have HS : Hid (has (lb ss) [42] = true) := hS
            clear hS
            go_wp2_with fail
            refine (has_val true _ ss _ _ R2 (by rw [star_toList]; exact HS.out)).mono ?_
            rintro e w' ⟨rfl, rfl⟩
            go_wp2_with fail
            refine (match_val true _ ss tag _ _ _ R2 HM.out).mono ?_
            rintro e w' ⟨rfl, rfl⟩
            go_wp2
            go_ret
            exact ⟨rfl, hB2⟩
          | false =>
            have HS : Hid (has (lb ss) [42] = false) := hS
            clear hS
            cases weak with
            | false =>
              obtain ⟨bt, hT⟩ : ∃ b, has (lb ss) tag.toList = b := ⟨_, rfl⟩
              have HM : Hid (wantF (lb ss) tag.toList true false = bt) := by show _ = _; simp [wantF, HS.out, hT]
              have HT : Hid (has (lb ss) tag.toList = bt) := hT
              clear hT
              go_wp2_with fail
              refine (has_val false _ ss _ _ R2 (by rw [star_toList]; exact HS.out)).mono ?_
              rintro e w' ⟨rfl, rfl⟩
              go_wp2_with fail
              refine (has_val bt _ ss _ _ R2 HT.out).mono ?_
              rintro e w' ⟨rfl, rfl⟩
              go_wp2_with fail
              refine (match_val bt _ ss tag _ _ _ R2 HM.out).mono ?_
              rintro e w' ⟨rfl, rfl⟩
              cases bt
              all_goals
                go_wp2
                go_ret
                exact ⟨rfl, hB2⟩
            | true =>
              cases h1 : has (lb ss) [87, 47, 42] with
              | true =>
                have HM : Hid (wantF (lb ss) tag.toList true true = true) := by show _ = _; simp [wantF, h1]
                have H1 : Hid (has (lb ss) [87, 47, 42] = true) := h1
                clear h1
                go_wp2_with fail
                refine (has_val false _ ss _ _ R2 (by rw [star_toList]; exact HS.out)).mono ?_
                rintro e w' ⟨rfl, rfl⟩
                go_wp2_with fail
                refine (has_val true _ ss _ _ R2 (by rw [wstar_toList]; exact H1.out)).mono ?_
                rintro e w' ⟨rfl, rfl⟩
                go_wp2_with fail
                refine (match_val true _ ss tag _ _ _ R2 HM.out).mono ?_
                rintro e w' ⟨rfl, rfl⟩
                go_wp2
                go_ret
                exact ⟨rfl, hB2⟩
              | false =>
                have H1 : Hid (has (lb ss) [87, 47, 42] = false) := h1
                clear h1
                cases h2 : hasW (lb ss) tag.toList with
                | true =>
                  have HM : Hid (wantF (lb ss) tag.toList true true = true) := by show _ = _; simp [wantF, h2]
                  have H2 : Hid (hasW (lb ss) tag.toList = true) := h2
                  clear h2
                  go_wp2_with fail
                  refine (has_val false _ ss _ _ R2 (by rw [star_toList]; exact HS.out)).mono ?_
                  rintro e w' ⟨rfl, rfl⟩
                  go_wp2_with fail
                  refine (has_val false _ ss _ _ R2 (by rw [wstar_toList]; exact H1.out)).mono ?_
                  rintro e w' ⟨rfl, rfl⟩
                  go_wp2_with fail
                  refine (hasw_val true _ ss _ _ R2 htag H2.out).mono ?_
                  rintro e w' ⟨rfl, rfl⟩
                  go_wp2_with fail
                  refine (match_val true _ ss tag _ _ _ R2 HM.out).mono ?_
                  rintro e w' ⟨rfl, rfl⟩
                  go_wp2
                  go_ret
                  exact ⟨rfl, hB2⟩
                | false =>
                  have H2 : Hid (hasW (lb ss) tag.toList = false) := h2
                  clear h2
                  cases h3 : weakF tag.toList with
                  | true =>
                    have HM : Hid (wantF (lb ss) tag.toList true true = false) := by show _ = _; simp [wantF, HS.out, H1.out, H2.out, h3]
                    have H3 : Hid (weakF tag.toList = true) := h3
                    clear h3
                    go_wp2_with fail
                    refine (has_val false _ ss _ _ R2 (by rw [star_toList]; exact HS.out)).mono ?_
                    rintro e w' ⟨rfl, rfl⟩
                    go_wp2_with fail
                    refine (has_val false _ ss _ _ R2 (by rw [wstar_toList]; exact H1.out)).mono ?_
                    rintro e w' ⟨rfl, rfl⟩
                    go_wp2_with fail
                    refine (hasw_val false _ ss _ _ R2 htag H2.out).mono ?_
                    rintro e w' ⟨rfl, rfl⟩
                    go_wp2_with fail
                    refine (weak_val true _ _ ht H3.out).mono ?_
                    rintro e w' ⟨rfl, rfl⟩
                    go_wp2_with fail
                    refine (match_val false _ ss tag _ _ _ R2 HM.out).mono ?_
                    rintro e w' ⟨rfl, rfl⟩
                    go_wp2
                    go_ret
                    exact ⟨rfl, hB2⟩
                  | false =>
                    obtain ⟨bt, hT⟩ : ∃ b, has (lb ss) tag.toList = b := ⟨_, rfl⟩
                    have HM : Hid (wantF (lb ss) tag.toList true true = bt) := by show _ = _; simp [wantF, HS.out, H1.out, H2.out, h3, hT]
                    have HT : Hid (has (lb ss) tag.toList = bt) := hT
                    have H3 : Hid (weakF tag.toList = false) := h3
                    clear h3 hT
                    go_wp2_with fail
                    refine (has_val false _ ss _ _ R2 (by rw [star_toList]; exact HS.out)).mono ?_
                    rintro e w' ⟨rfl, rfl⟩
                    go_wp2_with fail
                    refine (has_val false _ ss _ _ R2 (by rw [wstar_toList]; exact H1.out)).mono ?_
                    rintro e w' ⟨rfl, rfl⟩
                    go_wp2_with fail
                    refine (hasw_val false _ ss _ _ R2 htag H2.out).mono ?_
                    rintro e w' ⟨rfl, rfl⟩
                    go_wp2_with fail
                    refine (weak_val false _ _ ht H3.out).mono ?_
                    rintro e w' ⟨rfl, rfl⟩
                    go_wp2_with fail
                    refine (has_val bt _ ss _ _ R2 HT.out).mono ?_
                    rintro e w' ⟨rfl, rfl⟩
                    go_wp2_with fail
                    refine (match_val bt _ ss tag _ _ _ R2 HM.out).mono ?_
                    rintro e w' ⟨rfl, rfl⟩
                    cases bt
                    all_goals
                      go_wp2
                      go_ret
                      exact ⟨rfl, hB2⟩

set_option maxHeartbeats 400000 in
theorem law_big (ao : Option Addr) (cap0 : Nat) (ss : List ByteArray) (tag : ByteArray) (found weak : Bool) (w : World) (hR : ReadsS w (.slice ao ss.length cap0) ss) (ht : tag.size ≤ maxLen) (hbig : ¬ (ss.length ≤ 65536 ∧ tag.size ≤ 1048576)) :
    Calls Try.prog 3 #[.slice ao ss.length cap0, .string tag, .bool found, .bool weak] w fun e w' => e = .returned (.bool true) ∧ Below w.heap.size w w' := by
  go_enter Try.func3, Try.ntmps3
  go_wp2_with fail
  refine (zzb_any _ ss tag found weak w hR ht).mono ?_
  rintro e w' ⟨b, rfl, rfl, hb⟩
  cases b with
  | false =>
    go_wp2
    go_ret
    exact ⟨rfl, Below.refl _ _⟩
  | true =>
    have h1 := (hb rfl).1
    have h2 := (hb rfl).2
    have hd1 : (65536 : Int) < (ss.length : Int) := by omega
    clear hb hbig
    go_wp2
    go_ret
    exact ⟨rfl, Below.refl _ _⟩

/-- THE LAW's WALK. -/
theorem law_walk (ao : Option Addr) (n cap0 : Nat) (ss : List ByteArray) (tag : ByteArray) (found weak : Bool) (w : World) (hR : ReadsS w (.slice ao n cap0) ss) (hl : ss.length = n) (ht : tag.size ≤ maxLen) :
    Calls Try.prog 3 #[.slice ao n cap0, .string tag, .bool found, .bool weak] w fun e w' => e = .returned (.bool true) ∧ Below w.heap.size w w' := by
  subst hl
  by_cases hs : ss.length ≤ 65536 ∧ tag.size ≤ 1048576
  · cases ao with
    | none =>
      obtain ⟨ao', cap', hv, _, _, hn, _⟩ := hR
      simp only [Value.slice.injEq] at hv
      obtain ⟨rfl, _, rfl⟩ := hv
      obtain ⟨_, rfl⟩ := hn rfl
      exact law_nil ss tag found weak w ⟨none, 0, rfl, by assumption, by assumption, hn, by assumption⟩ ht hs.1 hs.2
    | some a => exact law_some a cap0 ss tag found weak w hR ht hs.1 hs.2
  · exact law_big ao cap0 ss tag found weak w hR ht hs

end Go.Proofs.Qxb6605167a
