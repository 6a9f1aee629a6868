/-
  The walk of FnVerbListSplitsAtAJoint (4).
-/
import Derived.Test.Qxb6605255aWalksC
import Derived.Deep.RegionHeld3
namespace Go.Proofs.Qxb6605255a
open Go.RowKit
open Go.Lib (join joinTail lens)

set_option maxHeartbeats 400000 in
/-- toVerbs of a slice that is not nil: the new slice lies at the head of a block, with no spare room. -/
theorem toVerbs_new (a : Addr) (cap : Nat) (ss : List ByteArray) (w : World) (hR : ReadsS w (.slice (some a) ss.length cap) ss) (hn : ss.length ≤ 65536) :
    Calls Try.prog 7 #[.slice (some a) ss.length cap] w fun e w' => ∃ B, e = .returned (.slice (some ⟨B, 0, none⟩) ss.length ss.length) ∧ ReadsS w' (.slice (some ⟨B, 0, none⟩) ss.length ss.length) ss ∧ Below w.heap.size w w' := by
  obtain ⟨ao, cap', hv, hl, hm, hnone, hc, hsz⟩ := hR
  simp only [Value.slice.injEq] at hv
  obtain ⟨rfl, _, rfl⟩ := hv
  obtain ⟨i0, hi, hz0, hz1, hz2⟩ := info_parts info26
  clear hnone
  have hnil := fun wx => Lib.run_eql_slice_nil (P := Try.prog) wx 22 9 (some a) ss.length cap 0 0 Try.underlying22
  go_enter Try.func7, Try.ntmps7
  go_wp2_with (at_make; refine wpList_make_full _ rfl _ _ 24 rfl w.heap.size 26 i0 (.string ByteArray.empty) 1 Try.underlying24 hi hz0 hz1 _ _ _ _ ss.length rfl rfl rfl rfl ?c1 ?c2 ?c3 ?_)
  case c1 => rw [hz2]; omega
  case c2 => unfold maxLen; omega
  case c3 => exact Nat.le_refl _
  intro w1 hown1 hg1
  have H1 : HeldS 26 w.heap.size ss.length w w1 (fill ss 0) := by
    refine ⟨?_, (Below.refl _ _).grown hg1 (Nat.le_refl _) (fun k h => by cases h), hg1.size⟩
    rw [fill_zero, ← made_cells]
    simpa using hown1
  clear hown1 hg1 hnil
  go_wp2
  go_loopg [4] ss.length (fun g i wr => ∃ k : Nat, Hid (k + g = ss.length) ∧ i = .int .i64 k ∧ HeldS 26 w.heap.size ss.length w wr (fill ss k))
  case atStart => exact ⟨0, by show _ = _; omega, rfl, H1⟩
  case round =>
    obtain ⟨k, hk, rfl, hr⟩ := hrel
    clear H1
    by_cases hlt : k < ss.length
    · obtain ⟨b, off, hab, hcell⟩ := hc (by omega)
      simp only [Option.some.injEq] at hab
      subst hab
      have c0 := hcell k hlt
      rw [← hr.2.1.cell (p := ⟨b, off + k, none⟩) (World.block_lt_of_cell? _ _ c0)] at c0
      have hbB : b < w.heap.size := World.block_lt_of_cell? _ _ (hcell k hlt)
      have c1 := hr.cell k hlt
      have f1 := hr.free k
      have hst := fill_step ss k hlt
      have hsn := hr.store k (ss.getD k ByteArray.empty)
      rw [hst] at hsn
      obtain ⟨x, hx⟩ : ∃ x, x = ss.getD k ByteArray.empty := ⟨_, rfl⟩
      obtain ⟨y, hy⟩ : ∃ y, y = (fill ss k).getD k ByteArray.empty := ⟨_, rfl⟩
      rw [← hx] at c0 hsn
      rw [← hy] at c1
      clear hcell hc hx hy hst hr
      have hi1 : (k : Int) < (ss.length : Int) := by omega
      go_wp2
      go_roundg (gk - 1)
      case measure => have := hk.out; omega
      case rel => exact ⟨k + 1, by show _ = _; have := hk.out; omega, by go_num, hsn⟩
    · rw [fill_all ss k (by omega)] at hr
      go_wp2
      go_ret
      exact ⟨_, rfl, hr.reads (by unfold maxLen; omega) hsz, hr.2.1⟩

/-- A part of a slice that reads. -/
theorem ReadsS.sub {w : World} {B n cap : Nat} {ss : List ByteArray} (h : ReadsS w (.slice (some ⟨B, 0, none⟩) n cap) ss) (lo m c : Nat) (ao : Option Addr) (M : List ByteArray) (hM : M = (ss.drop lo).take m) (hlo : lo + m ≤ n) (hmc : m ≤ c)
    (hao : 0 < m → ao = some ⟨B, lo, none⟩) (hnone : ao = none → m = 0 ∧ c = 0) : ReadsS w (.slice ao m c) M ∧ M.length = m := by
  obtain ⟨ao', cap', hv, hl, hx, _, hc, hs⟩ := h
  simp only [Value.slice.injEq] at hv
  obtain ⟨rfl, rfl, rfl⟩ := hv
  have hlen : M.length = m := by rw [hM]; simp; omega
  refine ⟨⟨ao, c, by rw [hlen], by omega, by omega, fun h => ⟨List.eq_nil_of_length_eq_zero (by have := (hnone h).1; omega), (hnone h).2⟩, fun hp => ?_, fun s hs' => hs s (by rw [hM] at hs'; exact List.mem_of_mem_drop (List.mem_of_mem_take hs'))⟩, hlen⟩
  rw [hlen] at hp
  refine ⟨B, lo, hao hp, fun i hi => ?_⟩
  rw [hlen] at hi
  obtain ⟨b', off', hb, hcell⟩ := hc (by omega)
  simp only [Option.some.injEq, Addr.mk.injEq, and_true] at hb
  obtain ⟨rfl, rfl⟩ := hb
  have h1 := hcell (lo + i) (by omega)
  rw [Nat.zero_add] at h1
  rw [h1, hM]
  simp [List.getD, hi]

/-- ZZverbList's contract with the length as a number of its own. -/
theorem zzverbs_at (ao : Option Addr) (n cap : Nat) (ss : List ByteArray) (w : World) (hR : ReadsS w (.slice ao n cap) ss ∧ ss.length = n) (hn : n ≤ 65536) (hsum : lens (lb ss) ≤ 1048576) :
    Calls Try.prog 8 #[.slice ao n cap] w fun e w' => ∃ t : ByteArray, e = .returned (.string t) ∧ t.data.toList = join (lb ss) sep ∧ Below w.heap.size w w' := by
  obtain ⟨h, rfl⟩ := hR
  exact zzverbs_any ao cap ss w h hn hsum

theorem lb_append (a b : List ByteArray) : lb (a ++ b) = lb a ++ lb b := by simp [lb]
theorem lens_split (ss : List ByteArray) (k : Nat) : lens (lb (ss.take k)) + lens (lb (ss.drop k)) = lens (lb ss) := by
  rw [← lens_append, ← lb_append, List.take_append_drop]
theorem toList_data (s : ByteArray) : s.toList = s.data.toList := ByteArray.toList_eq s

theorem ReadsS.drew {w : World} {v : Value} {ss : List ByteArray} (h : ReadsS w v ss) : ReadsS w.drew v ss := h
theorem ReadsS.at {w : World} {B n cap : Nat} {ss : List ByteArray} (h : ReadsS w (.slice (some ⟨B, 0, none⟩) n cap) ss) (k : Nat) (hk : k < ss.length) : w.cell? ⟨B, k, none⟩ = some (.string (ss.getD k ByteArray.empty)) := by
  obtain ⟨ao', cap', hv, _, _, _, hc, _⟩ := h
  simp only [Value.slice.injEq] at hv
  obtain ⟨rfl, _, rfl⟩ := hv
  obtain ⟨b', off', hb, hcell⟩ := hc (by omega)
  simp only [Option.some.injEq, Addr.mk.injEq, and_true] at hb
  obtain ⟨rfl, rfl⟩ := hb
  have h1 := hcell k hk
  rwa [Nat.zero_add] at h1
theorem one_sub {ss : List ByteArray} {k H : Nat} {x : ByteArray} (hk : k < ss.length) (hx : x = ss.getD k ByteArray.empty) (hH : H = k + 1) : [x] = (ss.drop k).take (H - k) := by
  have e : ss.getD k ByteArray.empty = ss[k] := by simp [List.getD, hk]
  rw [hH, show k + 1 - k = 1 by omega, List.drop_eq_getElem_cons hk, hx, e]
  rfl
theorem lens_one {ss : List ByteArray} {k : Nat} {x : ByteArray} (hk : k < ss.length) (hx : x = ss.getD k ByteArray.empty) : lens (lb [x]) ≤ lens (lb ss) := by
  have h1 := lens_step ss k hk
  have h2 := Go.Lib.lens_take_le (lb ss) (k + 1)
  rw [← lb_take, h1, ← hx] at h2
  have h3 : lens (lb [x]) = x.size := by simp [lens, lb]
  omega
theorem size_of' {t : ByteArray} {l : Bytes} (h : t.data.toList = l) : t.size = l.length := by rw [← h]; simp
theorem take_ne {ss : List ByteArray} {k : Nat} (h0 : 0 < k) (h : 0 < ss.length) : lb (ss.take k) ≠ [] := by
  intro e
  have := congrArg List.length e
  rw [lb_len, List.length_take] at this
  simp only [List.length_nil] at this
  omega
theorem drop_ne {ss : List ByteArray} {k : Nat} (h : k < ss.length) : lb (ss.drop k) ≠ [] := by
  intro e
  have := congrArg List.length e
  rw [lb_len, List.length_drop] at this
  simp only [List.length_nil] at this
  omega

/-- toVerbs of the nil slice. -/
theorem toVerbs_none (w : World) : Calls Try.prog 7 #[.slice none 0 0] w fun e w' => e = .returned (.slice none 0 0) ∧ w = w' := by
  have hnil := fun wx => Lib.run_eql_slice_nil (P := Try.prog) wx 22 9 none 0 0 0 0 Try.underlying22
  go_enter Try.func7, Try.ntmps7
  go_wp2
  go_ret
  exact ⟨rfl, rfl⟩

set_option maxRecDepth 100000 in
set_option maxHeartbeats 1000000 in
/-- The cut lies ahead of the list's end. -/
theorem split_lt (a : Addr) (cap k : Nat) (ss : List ByteArray) (w : World) (hR : ReadsS w (.slice (some a) ss.length cap) ss) (hn : ss.length ≤ 65536) (hsum : lens (lb ss) ≤ 1048576) (hkn : k < ss.length) :
    Calls Try.prog 4 #[.slice (some a) ss.length cap, .int .i64 (k : Int)] w fun e w' => e = .returned (.bool true) ∧ Below w.heap.size w w' := by
  have hd1 : decide ((k : Int) < 0) = false := decide_eq_false (by omega)
  have hd2 : decide (ss.length < k) = false := decide_eq_false (by omega)
  have b1 : (k : Int) ≤ (ss.length : Int) := by omega
  have b2 : ¬ ss.length = k := by omega
  have hk1 : (k : Int) < (ss.length : Int) := by omega
  go_enter Try.func4, Try.ntmps4
  go_wp2_with fail
  refine (zzb9_any _ ss _ w hR).mono ?_
  rintro e w' ⟨b, rfl, rfl⟩
  cases b with
  | false =>
    go_wp2
    go_ret
    exact ⟨rfl, Below.refl _ _⟩
  | true =>
    go_wp2_with fail
    refine (fit_any _ ss w hR).mono ?_
    rintro e w' ⟨b, rfl, rfl, _⟩
    cases b with
    | false =>
      go_wp2
      go_ret
      exact ⟨rfl, Below.refl _ _⟩
    | true =>
      go_wp2_with fail
      refine (toVerbs_new a cap ss w hR hn).mono ?_
      rintro e w1 ⟨B, rfl, R1, hB1⟩
      clear hR
      go_wp2_with fail
      refine (zzverbs_any _ _ ss w1 R1 hn hsum).mono ?_
      rintro e w2 ⟨t1, rfl, ht1, hB2⟩
      have R2 := R1.below hB2
      clear R1
      have hls := lens_split ss k
      have HL : Hid (lens (lb (ss.take k)) + lens (lb (ss.drop k)) = lens (lb ss)) := hls
      clear hls
      go_wp2_with fail
      refine (zzverbs_at _ k _ (ss.take k) w2 (R2.sub 0 k _ _ _ (by simp) (by omega) (by omega) (fun _ => rfl) (fun h => by cases h)) (by omega) (by have := HL.out; omega)).mono ?_
      rintro e w3 ⟨t2, rfl, ht2, hB3⟩
      have R3 := R2.below hB3
      clear R2
      go_wp2_with fail
      refine (zzverbs_at _ (ss.length - k) _ (ss.drop k) w3 (R3.sub k (ss.length - k) _ _ _ (by rw [List.take_of_length_le]; simp) (by omega) (by omega) (fun _ => rfl) (fun h => by cases h)) (by omega) (by have := HL.out; omega)).mono ?_
      rintro e w4 ⟨t3, rfl, ht3, hB4⟩
      have R4 := R3.below hB4
      clear R3
      have hB : Below w.heap.size w w4 := ((hB1.trans (hB2.mono hB1.size)).trans (hB3.mono (Nat.le_trans hB1.size hB2.size))).trans (hB4.mono (Nat.le_trans (Nat.le_trans hB1.size hB2.size) hB3.size))
      by_cases hk0 : k = 0
      · have e0 : ((k : Int) == 0) = true := by simp [hk0]
        have heq : (t1.toList == t3.toList) = true := by
          rw [toList_data, toList_data, ht1, ht3, hk0, List.drop_zero]
          exact BEq.rfl
        clear ht1 ht2 ht3 hB1 hB2 hB3 hB4 HL hd1 hd2 hk0
        go_wp2_with fail
        obtain ⟨x, hx⟩ : ∃ x, x = ss.getD k ByteArray.empty := ⟨_, rfl⟩
        have c0 : w4.cell? ⟨B, k, none⟩ = some (.string x) := by rw [hx]; exact R4.at k hkn
        obtain ⟨H, hH⟩ : ∃ H, H = k + 1 := ⟨_, rfl⟩
        have X1 : ReadsS w4.drew (.slice (some ⟨B, k, none⟩) (H - k) (ss.length - k)) [x] ∧ [x].length = H - k := (R4.drew).sub k _ _ _ _ (one_sub hkn hx hH) (by omega) (by omega) (fun _ => rfl) (fun h => by cases h)
        have hlx : lens (lb [x]) ≤ 1048576 := by have := lens_one hkn hx; omega
        have q1 : IntKind.i64.wrap ((k : Int) + 1) = (H : Int) := by rw [IntKind.wrap_i64]; omega
        have q2 : (k : Int) ≤ (H : Int) := by omega
        have q3 : (H : Int) ≤ (ss.length : Int) := by omega
        have q4 : H - k ≤ 65536 := by omega
        clear hx hH heq e0 R4
        go_region_held3 (fun w' => w'.cell? ⟨B, k, none⟩ = some (.string x)) (go_keep) (first | (go_at_call 8; refine (zzverbs_at _ (H - k) _ [x] _ X1 q4 hlx).mono ?_; rintro e w5 ⟨t4, rfl, ht4, hB5⟩; have c1 : w5.cell? ⟨B, k, none⟩ = some (.string x) := (hB5.cell (p := ⟨B, k, none⟩) (World.block_lt_of_cell? _ _ c0)).trans c0; have qe : (t4.toList == x.toList) = true := by (rw [toList_data, toList_data, ht4]; simp [lb, Go.Lib.join_one])))
        go_wp2
        go_ret
        exact ⟨rfl, hB.drew.trans (hB5.mono hB.size)⟩
      · have s1 : t1.size ≤ 2000000 := by rw [size_of' ht1, text_len, lb_len]; split <;> omega
        have s2 : t2.size ≤ 2000000 := by rw [size_of' ht2, text_len, lb_len]; have := HL.out; simp only [List.length_take]; split <;> omega
        have s3 : t3.size ≤ 2000000 := by rw [size_of' ht3, text_len, lb_len]; have := HL.out; simp only [List.length_drop]; split <;> omega
        have e0 : ((k : Int) == 0) = false := by rw [beq_eq_false_iff_ne]; omega
        have e1 : ((k : Int) == (ss.length : Int)) = false := by rw [beq_eq_false_iff_ne]; omega
        have heq : (t1.toList == (t2 ++ ⟨#[32, 97, 110, 100, 32]⟩ ++ t3).toList) = true := by
          rw [toList_data, toList_data, ht1]
          have h1 : (t2 ++ ⟨#[32, 97, 110, 100, 32]⟩ ++ t3 : ByteArray).data.toList = t2.data.toList ++ sep ++ t3.data.toList := by simp [sep]
          rw [h1, ht2, ht3, ← join_append sep _ _ (take_ne (by omega) (by omega)) (drop_ne hkn), ← lb_append, List.take_append_drop]
          exact BEq.rfl
        clear ht1 ht2 ht3 hB1 hB2 hB3 hB4 HL hd1 hd2
        go_wp2_with fail
        clear e1 s1 s2 s3
        obtain ⟨x, hx⟩ : ∃ x, x = ss.getD k ByteArray.empty := ⟨_, rfl⟩
        have c0 : w4.cell? ⟨B, k, none⟩ = some (.string x) := by rw [hx]; exact R4.at k hkn
        obtain ⟨H, hH⟩ : ∃ H, H = k + 1 := ⟨_, rfl⟩
        have X1 : ReadsS w4.drew (.slice (some ⟨B, k, none⟩) (H - k) (ss.length - k)) [x] ∧ [x].length = H - k := (R4.drew).sub k _ _ _ _ (one_sub hkn hx hH) (by omega) (by omega) (fun _ => rfl) (fun h => by cases h)
        have hlx : lens (lb [x]) ≤ 1048576 := by have := lens_one hkn hx; omega
        have q1 : IntKind.i64.wrap ((k : Int) + 1) = (H : Int) := by rw [IntKind.wrap_i64]; omega
        have q2 : (k : Int) ≤ (H : Int) := by omega
        have q3 : (H : Int) ≤ (ss.length : Int) := by omega
        have q4 : H - k ≤ 65536 := by omega
        clear hx hH heq e0 R4
        go_region_held3 (fun w' => w'.cell? ⟨B, k, none⟩ = some (.string x)) (go_keep) (first | (go_at_call 8; refine (zzverbs_at _ (H - k) _ [x] _ X1 q4 hlx).mono ?_; rintro e w5 ⟨t4, rfl, ht4, hB5⟩; have c1 : w5.cell? ⟨B, k, none⟩ = some (.string x) := (hB5.cell (p := ⟨B, k, none⟩) (World.block_lt_of_cell? _ _ c0)).trans c0; have qe : (t4.toList == x.toList) = true := by (rw [toList_data, toList_data, ht4]; simp [lb, Go.Lib.join_one])))
        go_wp2
        go_ret
        exact ⟨rfl, hB.drew.trans (hB5.mono hB.size)⟩

set_option maxRecDepth 100000 in
set_option maxHeartbeats 1000000 in
/-- The cut lies at the list's end. -/
theorem split_end (a : Addr) (cap : Nat) (ss : List ByteArray) (w : World) (hR : ReadsS w (.slice (some a) ss.length cap) ss) (hn : ss.length ≤ 65536) (hsum : lens (lb ss) ≤ 1048576) :
    Calls Try.prog 4 #[.slice (some a) ss.length cap, .int .i64 (ss.length : Int)] w fun e w' => e = .returned (.bool true) ∧ Below w.heap.size w w' := by
  have hd1 : decide ((ss.length : Int) < 0) = false := decide_eq_false (by omega)
  go_enter Try.func4, Try.ntmps4
  go_wp2_with fail
  refine (zzb9_any _ ss _ w hR).mono ?_
  rintro e w' ⟨b, rfl, rfl⟩
  cases b with
  | false =>
    go_wp2
    go_ret
    exact ⟨rfl, Below.refl _ _⟩
  | true =>
    go_wp2_with fail
    refine (fit_any _ ss w hR).mono ?_
    rintro e w' ⟨b, rfl, rfl, _⟩
    cases b with
    | false =>
      go_wp2
      go_ret
      exact ⟨rfl, Below.refl _ _⟩
    | true =>
      go_wp2_with fail
      refine (toVerbs_new a cap ss w hR hn).mono ?_
      rintro e w1 ⟨B, rfl, R1, hB1⟩
      clear hR
      go_wp2_with fail
      refine (zzverbs_any _ _ ss w1 R1 hn hsum).mono ?_
      rintro e w2 ⟨t1, rfl, ht1, hB2⟩
      have R2 := R1.below hB2
      clear R1
      have hls := lens_split ss ss.length
      have HL : Hid (lens (lb (ss.take ss.length)) + lens (lb (ss.drop ss.length)) = lens (lb ss)) := hls
      clear hls
      go_wp2_with fail
      refine (zzverbs_at _ ss.length _ (ss.take ss.length) w2 (R2.sub 0 ss.length _ _ _ (by simp) (by omega) (by omega) (fun _ => rfl) (fun h => by cases h)) (by omega) (by have := HL.out; omega)).mono ?_
      rintro e w3 ⟨t2, rfl, ht2, hB3⟩
      have R3 := R2.below hB3
      clear R2
      go_wp2_with fail
      refine (zzverbs_at _ 0 _ (ss.drop ss.length) w3 (R3.sub ss.length 0 _ _ _ (by rw [List.take_of_length_le]; simp) (by omega) (by omega) (fun h => absurd h (by omega)) (fun h => by cases h)) (by omega) (by have := HL.out; omega)).mono ?_
      rintro e w4 ⟨t3, rfl, ht3, hB4⟩
      have R4 := R3.below hB4
      clear R3
      have hB : Below w.heap.size w w4 := ((hB1.trans (hB2.mono hB1.size)).trans (hB3.mono (Nat.le_trans hB1.size hB2.size))).trans (hB4.mono (Nat.le_trans (Nat.le_trans hB1.size hB2.size) hB3.size))
      by_cases hz : ss.length = 0
      · have e0 : ((ss.length : Int) == 0) = true := by simp [hz]
        have heq : (t1.toList == t3.toList) = true := by
          rw [toList_data, toList_data, ht1, ht3]
          have h1 : ss = [] := List.eq_nil_of_length_eq_zero hz
          rw [h1]
          exact BEq.rfl
        clear ht1 ht2 ht3 hB1 hB2 hB3 hB4 HL hd1 hz
        go_wp2
        go_ret
        exact ⟨rfl, hB⟩
      · have e0 : ((ss.length : Int) == 0) = false := by rw [beq_eq_false_iff_ne]; omega
        have heq : (t1.toList == t2.toList) = true := by
          rw [toList_data, toList_data, ht1, ht2, List.take_of_length_le (Nat.le_refl _)]
          exact BEq.rfl
        clear ht1 ht2 ht3 hB1 hB2 hB3 hB4 HL hd1
        go_wp2
        go_ret
        exact ⟨rfl, hB⟩

set_option maxRecDepth 100000 in
set_option maxHeartbeats 1000000 in
/-- The nil slice. -/
theorem split_nil (w : World) : Calls Try.prog 4 #[.slice none 0 0, .int .i64 0] w fun e w' => e = .returned (.bool true) ∧ Below w.heap.size w w' := by
  have hR : ReadsS w (.slice none ([] : List ByteArray).length 0) [] := ⟨none, 0, rfl, Nat.le_refl _, Nat.zero_le _, fun _ => ⟨rfl, rfl⟩, fun hp => absurd hp (by simp), fun s hs => by cases hs⟩
  go_enter Try.func4, Try.ntmps4
  go_wp2_with fail
  refine (zzb9_any _ [] _ w hR).mono ?_
  rintro e w' ⟨b, rfl, rfl⟩
  cases b with
  | false =>
    go_wp2
    go_ret
    exact ⟨rfl, Below.refl _ _⟩
  | true =>
    go_wp2_with fail
    refine (fit_any _ [] w hR).mono ?_
    rintro e w' ⟨b, rfl, rfl, _⟩
    cases b with
    | false =>
      go_wp2
      go_ret
      exact ⟨rfl, Below.refl _ _⟩
    | true =>
      have hnil := fun wx => Lib.run_eql_slice_nil (P := Try.prog) wx 22 9 none 0 0 0 0 Try.underlying22
      go_wp2_with fail
      refine (toVerbs_none w).mono ?_
      rintro e w1 ⟨rfl, rfl⟩
      go_wp2_with fail
      refine (zzverbs_at none 0 0 [] w ⟨hR, rfl⟩ (by omega) (by simp [lens, lb])).mono ?_
      rintro e w2 ⟨t1, rfl, ht1, hB2⟩
      go_wp2_with fail
      refine (zzverbs_at none 0 0 [] w2 ⟨hR.below hB2, rfl⟩ (by omega) (by simp [lens, lb])).mono ?_
      rintro e w3 ⟨t2, rfl, ht2, hB3⟩
      go_wp2_with fail
      refine (zzverbs_at none 0 0 [] w3 ⟨(hR.below hB2).below hB3, rfl⟩ (by omega) (by simp [lens, lb])).mono ?_
      rintro e w4 ⟨t3, rfl, ht3, hB4⟩
      have hB : Below w.heap.size w w4 := (hB2.trans (hB3.mono hB2.size)).trans (hB4.mono (Nat.le_trans hB2.size hB3.size))
      have heq : (t1.toList == t3.toList) = true := by
        rw [toList_data, toList_data, ht1, ht3]
        exact BEq.rfl
      clear ht1 ht2 ht3 hB2 hB3 hB4
      go_wp2
      go_ret
      exact ⟨rfl, hB⟩

set_option maxHeartbeats 400000 in
/-- The list is long, or the cut lies outside it. -/
theorem split_out (ao : Option Addr) (cap : Nat) (q : Int) (ss : List ByteArray) (w : World) (hR : ReadsS w (.slice ao ss.length cap) ss) (hout : ¬ (ss.length ≤ 65536 ∧ lens (lb ss) ≤ 1048576) ∨ q < 0 ∨ (ss.length : Int) < q) :
    Calls Try.prog 4 #[.slice ao ss.length cap, .int .i64 q] w fun e w' => e = .returned (.bool true) ∧ Below w.heap.size w w' := by
  go_enter Try.func4, Try.ntmps4
  go_wp2_with fail
  refine (zzb9_any _ ss _ w hR).mono ?_
  rintro e w' ⟨b, rfl, rfl⟩
  cases b with
  | false =>
    go_wp2
    go_ret
    exact ⟨rfl, Below.refl _ _⟩
  | true =>
    go_wp2_with fail
    refine (fit_any _ ss w hR).mono ?_
    rintro e w' ⟨b, rfl, rfl, hb⟩
    cases b with
    | false =>
      go_wp2
      go_ret
      exact ⟨rfl, Below.refl _ _⟩
    | true =>
      have hq : q < 0 ∨ (ss.length : Int) < q := by
        rcases hout with h | h
        · exact absurd (hb rfl) h
        · exact h
      clear hb hout
      by_cases hq0 : q < 0
      · go_wp2
        go_ret
        exact ⟨rfl, Below.refl _ _⟩
      · have hq1 : (ss.length : Int) < q := by omega
        have hq2 : decide (q < 0) = false := decide_eq_false hq0
        clear hq
        go_wp2
        go_ret
        exact ⟨rfl, Below.refl _ _⟩

/-- THE LAW's WALK. -/
theorem split_walk (ao : Option Addr) (cap : Nat) (q : Int) (ss : List ByteArray) (w : World) (hR : ReadsS w (.slice ao ss.length cap) ss) :
    Calls Try.prog 4 #[.slice ao ss.length cap, .int .i64 q] w fun e w' => e = .returned (.bool true) ∧ Below w.heap.size w w' := by
  by_cases hfit : ss.length ≤ 65536 ∧ lens (lb ss) ≤ 1048576
  · by_cases hq : 0 ≤ q ∧ q ≤ (ss.length : Int)
    · obtain ⟨k, rfl⟩ := Int.eq_ofNat_of_zero_le hq.1
      have hk : k ≤ ss.length := by omega
      cases ao with
      | none =>
        obtain ⟨ao', cap', hv, _, _, hn, _⟩ := hR
        simp only [Value.slice.injEq] at hv
        obtain ⟨rfl, _, rfl⟩ := hv
        obtain ⟨rfl, rfl⟩ := hn rfl
        obtain rfl : k = 0 := by simpa using hk
        exact split_nil w
      | some a =>
        by_cases hkn : k < ss.length
        · exact split_lt a cap k ss w hR hfit.1 hfit.2 hkn
        · obtain rfl : k = ss.length := by omega
          exact split_end a cap ss w hR hfit.1 hfit.2
    · exact split_out ao cap q ss w hR (.inr (by omega))
  · exact split_out ao cap q ss w hR (.inl hfit)

end Go.Proofs.Qxb6605255a
