/-
  The walk of FnVerbListLaysVerbsBetweenAnds (3).
-/
import Derived.Test.Qxb6605255aWalksC
import Derived.Deep.QuietTactic
import Derived.BigQuiet
namespace Go.Proofs.Qxb6605255a
open Go.RowKit
open Go.Lib (join joinTail lens)

theorem belowDrewN {B : Nat} {a w : World} (h : Below B a w) (n : Nat) : Below B a (w.drewN n) := h.trans ⟨rfl, rfl, rfl, Nat.le_refl _, fun _ _ => rfl⟩
/-- What the law wants of the text's length. -/
theorem size_of {t : ByteArray} {l : Bytes} (h : t.data.toList = l) : t.size = l.length := by rw [← h]; simp

/-- Verb k ends within the text. -/
theorem verb_end {ss : List ByteArray} {t x : ByteArray} {k P : Nat} (hx : (lb ss)[k]? = some x.data.toList) (ht : t.data.toList = join (lb ss) sep) (hP : P = off (lb ss) k) : P + x.size ≤ t.size := by
  obtain ⟨hk, he⟩ := List.getElem?_eq_some_iff.1 hx
  obtain ⟨pre, rest, e, hl, _⟩ := text_at (lb ss) k hk
  have h1 := size_of ht
  have h2 := size_of (t := x) rfl
  rw [e, he, List.length_append, List.length_append, hl, ← hP, ← h2] at h1
  omega
theorem verb_next {ss : List ByteArray} {x : ByteArray} {k P : Nat} (hx : (lb ss)[k]? = some x.data.toList) (hP : P = off (lb ss) k) : P + x.size + 5 = off (lb ss) (k + 1) := by
  obtain ⟨hk, he⟩ := List.getElem?_eq_some_iff.1 hx
  have h2 := size_of (t := x) rfl
  rw [off_succ _ _ hk, he, ← hP, ← h2]
theorem get_of_list {t : ByteArray} {q : Nat} (h : q < t.size) : t.data.toList[q]? = some t[q] := by
  rw [List.getElem?_eq_getElem (by simpa using h)]; rfl
theorem verb_byte {ss : List ByteArray} {t x : ByteArray} {k P j q : Nat} (hx : (lb ss)[k]? = some x.data.toList) (ht : t.data.toList = join (lb ss) sep) (hP : P = off (lb ss) k) (hj : j < x.size) (hqt : q < t.size) (hq : q = P + j) : t[q] = x[j] := by
  obtain ⟨hk, he⟩ := List.getElem?_eq_some_iff.1 hx
  have hj2 : j < ((lb ss)[k]).length := by rw [he]; simpa using hj
  have h1 := (verb_at (lb ss) k j hk hj2).1
  rw [← ht, ← hP, ← hq, get_of_list hqt] at h1
  have h2 : ((lb ss)[k])[j]? = some x[j] := by rw [he]; exact get_of_list hj
  rw [List.getElem?_eq_getElem hj2] at h2
  rw [Option.some.inj h1, Option.some.inj h2]
theorem gap_in {ss : List ByteArray} {t : ByteArray} {k p j q : Nat} (ht : t.data.toList = join (lb ss) sep) (hp : p + 5 = off (lb ss) k) (hk0 : 0 < k) (hk : k < ss.length) (hj : j < 5) (hq : q = p + j) : q < t.size := by
  have h1 := (gap_at (lb ss) k j (by rw [lb_len]; exact hk) hk0 hj).2.2
  rw [size_of ht]
  omega
theorem gap_byte {ss : List ByteArray} {t : ByteArray} {k p j q : Nat} (ht : t.data.toList = join (lb ss) sep) (hp : p + 5 = off (lb ss) k) (hk0 : 0 < k) (hk : k < ss.length) (hj : j < 5) (hq : q = p + j) (hqt : q < t.size)
    (hh : j < (⟨#[32, 97, 110, 100, 32]⟩ : ByteArray).size) : ((t[q]).toNat : Int) = (((⟨#[32, 97, 110, 100, 32]⟩ : ByteArray)[j]'hh).toNat : Int) := by
  have h1 := (gap_at (lb ss) k j (by rw [lb_len]; exact hk) hk0 hj).1
  rw [← ht, ← hp, show p + 5 - 5 + j = q by omega, get_of_list hqt] at h1
  have h2 : sep[j]? = some ((⟨#[32, 97, 110, 100, 32]⟩ : ByteArray)[j]'hh) := get_of_list hh
  rw [h2] at h1
  rw [Option.some.inj h1]

set_option maxRecDepth 100000 in
set_option maxHeartbeats 2000000 in
theorem lay_walk (ao : Option Addr) (cap : Nat) (ss : List ByteArray) (w : World) (hR : ReadsS w (.slice ao ss.length cap) ss) :
    Calls Try.prog 3 #[.slice ao ss.length cap] w fun e w' => e = .returned (.bool true) ∧ Below w.heap.size w w' := by
  go_enter Try.func3, Try.ntmps3
  go_wp2_with fail
  refine (zzb5_any _ ss w hR).mono ?_
  rintro e w' ⟨b, rfl, rfl⟩
  cases b with
  | false =>
    go_wp2
    go_ret
    exact ⟨rfl, Below.refl _ _⟩
  | true =>
    go_wp2_with fail
    refine (fit_any _ ss w hR).mono ?_
    rintro e w' ⟨b, rfl, rfl, hb⟩
    cases b with
    | false =>
      go_wp2
      go_ret
      exact ⟨rfl, Below.refl _ _⟩
    | true =>
      obtain ⟨hn, hsum⟩ := hb rfl
      clear hb
      go_wp2_with fail
      refine (toVerbs_any _ ss w hR hn).mono ?_
      rintro e w1 ⟨ao1, cap1, rfl, R1, hB1⟩
      clear hR
      go_wp2
      go_loopg [5, 6] ss.length (fun g z i wr => ∃ k n : Nat, Hid (k + g = ss.length) ∧ i = .int .i64 k ∧ z = .int .i64 n ∧ n ≤ 1048576 ∧ Hid (lens (lb (ss.take k)) = n) ∧ w1 = wr)
      case atStart => exact ⟨0, 0, by show _ = _; omega, rfl, rfl, by omega, by simp [lb, lens, Hid], rfl⟩
      case round =>
        obtain ⟨k, n, hk, rfl, rfl, hnb, hsm, rfl⟩ := hrel
        by_cases hlt : k < ss.length
        · obtain ⟨aoR, capR, hvR, _, _, _, hcR, hszR⟩ := R1
          simp only [Value.slice.injEq] at hvR
          obtain ⟨rfl, _, rfl⟩ := hvR
          obtain ⟨bR, offR, rfl, hcell⟩ := hcR (by omega)
          have c0 := hcell k hlt
          have hst := lens_step ss k hlt
          obtain ⟨x, hx⟩ : ∃ x, x = ss.getD k ByteArray.empty := ⟨_, rfl⟩
          rw [← hx] at c0 hst
          have HST : Hid (lens (lb (ss.take (k + 1))) = n + x.size) := by show _ = _; rw [hst, hsm.out]
          have hxb : n + x.size ≤ 1048576 := by
            have h1 := HST.out
            rw [lb_take] at h1
            have h2 := Go.Lib.lens_take_le (lb ss) (k + 1)
            omega
          clear hcell hcR hx hszR hst
          have hi : (k : Int) < (ss.length : Int) := by omega
          go_wp2
          go_roundg (gk - 1)
          case measure => have := hk.out; omega
          case rel => exact ⟨k + 1, n + x.size, by show _ = _; have := hk.out; omega, by go_num, by go_num, by omega, HST, rfl⟩
        · have hns : n = lens (lb ss) := by
            have := hsm.out
            rw [List.take_of_length_le (by omega)] at this
            exact this.symm
          go_wp2_with fail
          refine (zzverbs_any ao1 cap1 ss w1 R1 hn hsum).mono ?_
          rintro e w2 ⟨t, rfl, ht, hB2⟩
          have hts := size_of ht
          rw [text_len, lb_len, ← hns] at hts
          -- TAIL
          have HT : Hid (t.data.toList = join (lb ss) sep) := ht
          have R2 : ReadsS w2 (.slice ao1 ss.length cap1) ss := R1.below hB2
          have hB : Below w.heap.size w w2 := hB1.trans (hB2.mono hB1.size)
          have htb : t.size ≤ 2000000 := by rw [hts]; split <;> omega
          clear ht R1 hB1 hB2 hsm
          by_cases h0 : ss.length = 0
          · have hz : (t.size : Int) = 0 := by rw [hts, if_pos h0]; rfl
            have hd0 : decide ((0 : Int) < (ss.length : Int)) = false := decide_eq_false (by omega)
            have hd1 : ¬ (0 : Int) < (ss.length : Int) := by omega
            have hne : ((t.size : Int) != 0) = false := by rw [hz]; rfl
            clear hts hz hns
            go_wp2
            go_loopg [9, 10] 0 (fun g pp i wr => i = .int .i64 0 ∧ w2 = wr)
            case atStart => exact ⟨rfl, rfl⟩
            case round =>
              obtain ⟨rfl, rfl⟩ := hrel
              go_wp2
              go_ret
              exact ⟨rfl, hB⟩
          · have hz : (t.size : Int) = (n : Int) + 5 * ((ss.length : Int) - 1) := by rw [hts, if_neg h0]; omega
            have hd0 : decide (0 < ss.length) = true := decide_eq_true (by omega)
            have hne : ((t.size : Int) != (n : Int) + 5 * ((ss.length : Int) - 1)) = false := by rw [hz]; simp
            clear hts hz hns
            go_wp2
            clear hne
            go_loopg [9, 10] ss.length (fun g pp i wr => ∃ k p d : Nat, Hid (g = ss.length - k) ∧ k ≤ ss.length ∧ i = .int .i64 k ∧ pp = .int .i64 p ∧ p ≤ 2000000 ∧ Hid ((if k = 0 then p else p + 5) = off (lb ss) k) ∧ wr = w2.drewN d)
            case atStart => exact ⟨0, 0, 0, rfl, by omega, rfl, rfl, by omega, by show _ = _; rw [if_pos rfl, off_zero], rfl⟩
            case round =>
              obtain ⟨k, p, d, hg, hkn, rfl, rfl, hpb, hp, rfl⟩ := hrel
              by_cases hlt : k < ss.length
              · by_cases hk0 : k = 0
                · have hkd : ¬ (0 : Int) < (k : Int) := by omega
                  have HP : Hid (p = off (lb ss) k) := by have := hp.out; rwa [if_pos hk0] at this
                  clear hk0
                  obtain ⟨aoR, capR, hvR, _, _, _, hcR, hszR⟩ := R2
                  simp only [Value.slice.injEq] at hvR
                  obtain ⟨rfl, _, rfl⟩ := hvR
                  obtain ⟨bR, offR, rfl, hcell⟩ := hcR (by omega)
                  have c0 := hcell k hlt
                  obtain ⟨x, hx⟩ : ∃ x, x = ss.getD k ByteArray.empty := ⟨_, rfl⟩
                  rw [← hx] at c0
                  have HX : Hid ((lb ss)[k]? = some x.data.toList) := by rw [hx]; exact lb_get ss k hlt
                  have hend := verb_end HX.out HT.out HP.out
                  have hPx : p + x.size ≤ 2000000 := by omega
                  have HN : Hid (p + x.size + 5 = off (lb ss) (k + 1)) := verb_next HX.out HP.out
                  clear hcell hcR hx hszR
                  have hi1 : (k : Int) < (ss.length : Int) := by omega
                  go_wp2
                  go_loopg [13] x.size (fun g i wr => ∃ j dd : Nat, Hid (j + g = x.size) ∧ i = .int .i64 j ∧ wr = w2.drewN dd)
                  case atStart => exact ⟨0, _, by show _ = _; omega, rfl, rfl⟩
                  case round =>
                    obtain ⟨j, dd, hj, rfl, rfl⟩ := hrel
                    by_cases hjl : j < x.size
                    · obtain ⟨q, hq⟩ : ∃ q, q = p + j := ⟨_, rfl⟩
                      have hqt : q < t.size := by omega
                      have q1 : IntKind.i64.wrap ((p : Int) + (j : Int)) = (q : Int) := by rw [IntKind.wrap_i64]; omega
                      have q2 : (q : Int) < (t.size : Int) := by omega
                      have q3 : (j : Int) < (x.size : Int) := by omega
                      have r1 : ((t[q]).toNat : Int) = ((x[j]).toNat : Int) := by rw [verb_byte HX.out HT.out HP.out hjl hqt hq]
                      clear hq
                      go_wp2_with fail
                      go_quiet (fail)
                      go_wp2
                      go_roundg (gk - 1)
                      case measure => have := hj.out; omega
                      case rel => exact ⟨j + 1, _, by show _ = _; have := hj.out; omega, by go_num, rfl⟩
                    · go_wp2
                      go_roundg (ss.length - (k + 1))
                      case measure => have := hg.out; omega
                      case rel => exact ⟨k + 1, p + x.size, _, rfl, by omega, by go_num, by go_num, by omega, by show _ = _; rw [if_neg (by omega)]; exact HN.out, rfl⟩
                · have hkp : (0 : Int) < (k : Int) := by omega
                  have HG : Hid (p + 5 = off (lb ss) k) := by have := hp.out; rwa [if_neg hk0] at this
                  go_wp2
                  go_loopg [11] 5 (fun g i wr => ∃ j dd : Nat, Hid (j + g = 5) ∧ i = .int .i64 j ∧ wr = w2.drewN dd)
                  case atStart => exact ⟨0, _, by show _ = _; omega, rfl, rfl⟩
                  case round =>
                    obtain ⟨j, dd, hj, rfl, rfl⟩ := hrel
                    by_cases hjl : j < 5
                    · obtain ⟨q, hq⟩ : ∃ q, q = p + j := ⟨_, rfl⟩
                      have hqt : q < t.size := gap_in HT.out HG.out (by omega) hlt hjl hq
                      have q1 : IntKind.i64.wrap ((p : Int) + (j : Int)) = (q : Int) := by rw [IntKind.wrap_i64]; omega
                      have q2 : (q : Int) < (t.size : Int) := by omega
                      have q3 : (j : Int) < 5 := by omega
                      have r1 := fun hh : j < (⟨#[32, 97, 110, 100, 32]⟩ : ByteArray).size => gap_byte HT.out HG.out (by omega) hlt hjl hq hqt hh
                      clear hq
                      go_wp2_with fail
                      go_quiet (fail)
                      go_wp2
                      go_roundg (gk - 1)
                      case measure => have := hj.out; omega
                      case rel => exact ⟨j + 1, _, by show _ = _; have := hj.out; omega, by go_num, rfl⟩
                    · obtain ⟨P, hP⟩ : ∃ P, P = p + 5 := ⟨_, rfl⟩
                      have HP : Hid (P = off (lb ss) k) := by show _ = _; rw [hP]; exact HG.out
                      have eP : (p : Int) + 5 = (P : Int) := by omega
                      clear hP
                      obtain ⟨aoR, capR, hvR, _, _, _, hcR, hszR⟩ := R2
                      simp only [Value.slice.injEq] at hvR
                      obtain ⟨rfl, _, rfl⟩ := hvR
                      obtain ⟨bR, offR, rfl, hcell⟩ := hcR (by omega)
                      have c0 := hcell k hlt
                      obtain ⟨x, hx⟩ : ∃ x, x = ss.getD k ByteArray.empty := ⟨_, rfl⟩
                      rw [← hx] at c0
                      have HX : Hid ((lb ss)[k]? = some x.data.toList) := by rw [hx]; exact lb_get ss k hlt
                      have hend := verb_end HX.out HT.out HP.out
                      have hPx : P + x.size ≤ 2000000 := by omega
                      have HN : Hid (P + x.size + 5 = off (lb ss) (k + 1)) := verb_next HX.out HP.out
                      clear hcell hcR hx hszR
                      have hi1 : (k : Int) < (ss.length : Int) := by omega
                      go_wp2
                      go_loopg [13] x.size (fun g i wr => ∃ j dd : Nat, Hid (j + g = x.size) ∧ i = .int .i64 j ∧ wr = w2.drewN dd)
                      case atStart => exact ⟨0, _, by show _ = _; omega, rfl, rfl⟩
                      case round =>
                        obtain ⟨j, dd, hj, rfl, rfl⟩ := hrel
                        by_cases hjl : j < x.size
                        · obtain ⟨q, hq⟩ : ∃ q, q = P + j := ⟨_, rfl⟩
                          have hqt : q < t.size := by omega
                          have q1 : IntKind.i64.wrap ((P : Int) + (j : Int)) = (q : Int) := by rw [IntKind.wrap_i64]; omega
                          have q2 : (q : Int) < (t.size : Int) := by omega
                          have q3 : (j : Int) < (x.size : Int) := by omega
                          have r1 : ((t[q]).toNat : Int) = ((x[j]).toNat : Int) := by rw [verb_byte HX.out HT.out HP.out hjl hqt hq]
                          clear hq
                          go_wp2_with fail
                          go_quiet (fail)
                          go_wp2
                          go_roundg (gk - 1)
                          case measure => have := hj.out; omega
                          case rel => exact ⟨j + 1, _, by show _ = _; have := hj.out; omega, by go_num, rfl⟩
                        · go_wp2
                          go_roundg (ss.length - (k + 1))
                          case measure => have := hg.out; omega
                          case rel => exact ⟨k + 1, P + x.size, _, rfl, by omega, by go_num, by go_num, by omega, by show _ = _; rw [if_neg (by omega)]; exact HN.out, rfl⟩
              · go_wp2
                go_ret
                exact ⟨rfl, belowDrewN hB _⟩
end Go.Proofs.Qxb6605255a
