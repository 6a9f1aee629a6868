/-
  zzLowerHex (14) and zzCanonical (10): the text that appendString has written is the canonical one.
-/
import Derived.Test.Qxb6601577aReads
import Derived.Deep.LoopGhost
namespace Go.Proofs.Qxb6601577a
open Go.RowKit

theorem hexd_lo (x : Int) (h : x < 10) : hexd x = 48 + x := by unfold hexd; rw [if_pos h]
theorem hexd_hi (x : Int) (h : ¬ x < 10) : hexd x = 87 + x := by unfold hexd; rw [if_neg h]
theorem lowhex_any (x : Int) (w : World) (h0 : 0 ≤ x) (h1 : x < 16) :
    Calls Try.prog 14 #[.int .u8 (hexd x)] w fun e w' => e = .returned (.tuple #[.int .u8 x, .bool true]) ∧ w = w' := by
  by_cases h : x < 10
  · rw [hexd_lo x h]
    obtain ⟨y, hy⟩ : ∃ y, y = 48 + x := ⟨_, rfl⟩
    rw [← hy]
    have e1 : Hid (y - 48 = x) := by show _ = _; omega
    have b1 : 48 ≤ y := by omega
    have b2 : y ≤ 57 := by omega
    clear hy
    go_enter Try.func14, Try.ntmps14
    go_wp2
    go_ret2
    exact ⟨by simp [e1.out], rfl⟩
  · rw [hexd_hi x h]
    obtain ⟨y, hy⟩ : ∃ y, y = 87 + x := ⟨_, rfl⟩
    rw [← hy]
    have e1 : Hid (y - 97 + 10 = x) := by show _ = _; omega
    have b1 : 97 ≤ y := by omega
    have b2 : y ≤ 102 := by omega
    have b3 : decide (y ≤ 57) = false := decide_eq_false (by omega)
    clear hy
    go_enter Try.func14, Try.ntmps14
    go_wp2
    go_ret2
    exact ⟨by simp [e1.out], rfl⟩

/-- What stands at the place of byte k of s. -/
theorem canon_cell {zs : List Int} {s : ByteArray} {k J t : Nat} (hlt : k < s.size) (hJ : J = zs.length + 1 + (encL ((bs s).take k)).length) (ht : t < (esc ((s[k]).toNat : Int)).length) :
    (zs ++ quo (bs s)).getD (J + t) 0 = (esc ((s[k]).toNat : Int)).getD t 0 ∧ J + t + 1 < zs.length + (encL (bs s)).length + 2 := by
  have h1 : bs s = (bs s).take k ++ ([((s[k]).toNat : Int)] ++ (bs s).drop (k + 1)) := by
    rw [← List.append_assoc, ← bs_take_succ s k hlt, List.take_append_drop]
  have h2 : encL (bs s) = encL ((bs s).take k) ++ (esc ((s[k]).toNat : Int) ++ encL ((bs s).drop (k + 1))) := by
    have := congrArg encL h1
    rw [encL_append, encL_append] at this
    simpa [encL] using this
  have h3 : zs ++ quo (bs s) = (zs ++ 34 :: encL ((bs s).take k)) ++ (esc ((s[k]).toNat : Int) ++ (encL ((bs s).drop (k + 1)) ++ [34])) := by
    unfold quo; rw [h2]; simp
  have h4 : (zs ++ 34 :: encL ((bs s).take k)).length = J := by rw [hJ]; simp; omega
  constructor
  · rw [h3]
    simp only [List.getD, List.getElem?_append]
    rw [if_neg (by omega), h4, show J + t - J = t by omega, if_pos ht]
  · rw [h2, hJ]; simp; omega
theorem canon_end {zs : List Int} {s : ByteArray} {J : Nat} (hJ : J = zs.length + 1 + (encL (bs s)).length) : (zs ++ quo (bs s)).getD J 0 = 34 := by
  have h3 : zs ++ quo (bs s) = (zs ++ 34 :: encL (bs s)) ++ [34] := by simp [quo]
  have h4 : (zs ++ 34 :: encL (bs s)).length = J := by rw [hJ]; simp; omega
  rw [h3]
  simp only [List.getD, List.getElem?_append]
  rw [if_neg (by omega), h4]
  simp
theorem canon_next {zs : List Int} {s : ByteArray} {k J m : Nat} (hlt : k < s.size) (hJ : J = zs.length + 1 + (encL ((bs s).take k)).length) (hm : (esc ((s[k]).toNat : Int)).length = m) :
    J + m = zs.length + 1 + (encL ((bs s).take (k + 1))).length := by
  rw [bs_take_succ s k hlt, encL_snoc, List.length_append, hm]; omega

set_option maxRecDepth 100000 in
set_option maxHeartbeats 2000000 in
theorem canon_any (g n cap : Nat) (zs : List Int) (s : ByteArray) (w : World) (hR : Reads w (.slice (some ⟨g, 0, none⟩) n cap) (zs ++ quo (bs s))) (hz : zs.length ≤ 10000000) (hs : s.size ≤ 2097152) :
    Calls Try.prog 10 #[.slice (some ⟨g, 0, none⟩) n cap, .int .i64 (zs.length : Int), .string s] w fun e w' => e = .returned (.bool true) ∧ w = w' := by
  have hlen : n = zs.length + (encL (bs s)).length + 2 ∧ ∀ i, i < n → w.cell? ⟨g, i, none⟩ = some (.int .u8 ((zs ++ quo (bs s)).getD i 0)) := by
    obtain ⟨ao, cap', hv, _, _, hc⟩ := hR
    simp only [Value.slice.injEq] at hv
    obtain ⟨rfl, rfl, rfl⟩ := hv
    have hl : (zs ++ quo (bs s)).length = zs.length + (encL (bs s)).length + 2 := by rw [List.length_append, quo_len]; omega
    obtain ⟨b, off, hb, hcell⟩ := hc (by omega)
    simp only [Option.some.injEq, Addr.mk.injEq, and_true] at hb
    obtain ⟨rfl, rfl⟩ := hb
    exact ⟨hl, fun i hi => by simpa using hcell i hi⟩
  obtain ⟨hn0, hc0⟩ := hlen
  clear hR
  have hA := encL_len (bs s)
  rw [bs_length] at hA
  have hnb : n ≤ 100000000 := by omega
  have hzn : zs.length + 1 < n := by omega
  have cq : w.cell? ⟨g, zs.length, none⟩ = some (.int .u8 34) := by
    rw [hc0 _ (by omega)]; simp [quo]
  have HN : Hid (n = zs.length + (encL (bs s)).length + 2) := hn0
  have HC : Hid (∀ i, i < n → w.cell? ⟨g, i, none⟩ = some (.int .u8 ((zs ++ quo (bs s)).getD i 0))) := hc0
  clear hn0 hc0 hA
  have hd1 : decide (n ≤ zs.length) = false := decide_eq_false (by omega)
  have hlt0 : (zs.length : Int) < (n : Int) := by omega
  have hd0 : decide ((zs.length : Int) < 0) = false := decide_eq_false (by omega)
  go_enter Try.func10, Try.ntmps10
  go_wp2
  clear hd1 hd0 cq hlt0
  go_loopg [7, 8] s.size (fun gk i kk wr => ∃ k J : Nat, k + gk = s.size ∧ Hid (J = zs.length + 1 + (encL ((bs s).take k)).length) ∧ i = .int .i64 J ∧ kk = .int .i64 k ∧ w = wr)
  case atStart => exact ⟨0, zs.length + 1, by omega, rfl, by go_num, rfl, rfl⟩
  case round =>
    obtain ⟨k, J, hk0, HJ, rfl, rfl, rfl⟩ := hrel
    have hk : Hid (k + gk = s.size) := hk0
    clear hk0
    by_cases hlt : k < s.size
    · by_cases h34 : ((s[k]).toNat : Int) = 34
      · have he : esc ((s[k]).toNat : Int) = [92, 34] := by rw [h34]; rfl
        have he2 : Hid ((esc ((s[k]).toNat : Int)).length = 2) := by show _ = _; rw [he]; rfl
        have b0 := canon_cell (t := 0) hlt HJ.out (by rw [he]; simp)
        have b1 := canon_cell (t := 1) hlt HJ.out (by rw [he]; simp)
        have c0 : w.cell? ⟨g, J, none⟩ = some (.int .u8 92) := by have h := HC.out J (by have := HN.out; omega); rw [h]; have := b0.1; rw [he] at this; simpa using this
        have c1 : w.cell? ⟨g, J + 1, none⟩ = some (.int .u8 34) := by have h := HC.out (J + 1) (by have := HN.out; omega); rw [h]; have := b1.1; rw [he] at this; simpa using this
        have hJ1 : (J : Int) + 1 < (n : Int) := by have := HN.out; omega
        have hJ0 : (J : Int) < (n : Int) := by omega
        have hd0 : decide ((s.size : Int) ≤ (k : Int)) = false := decide_eq_false (by omega)
        clear b0 b1 he
        go_wp2
        go_roundg (gk - 1)
        case measure => have := hk.out; omega
        case rel => exact ⟨k + 1, J + 2, by have := hk.out; omega, canon_next hlt HJ.out he2.out, by go_num, by go_num, rfl⟩
      · by_cases h92 : ((s[k]).toNat : Int) = 92
        · have he : esc ((s[k]).toNat : Int) = [92, 92] := by rw [h92]; rfl
          have he2 : Hid ((esc ((s[k]).toNat : Int)).length = 2) := by show _ = _; rw [he]; rfl
          have b0 := canon_cell (t := 0) hlt HJ.out (by rw [he]; simp)
          have b1 := canon_cell (t := 1) hlt HJ.out (by rw [he]; simp)
          have c0 : w.cell? ⟨g, J, none⟩ = some (.int .u8 92) := by have h := HC.out J (by have := HN.out; omega); rw [h]; have := b0.1; rw [he] at this; simpa using this
          have c1 : w.cell? ⟨g, J + 1, none⟩ = some (.int .u8 92) := by have h := HC.out (J + 1) (by have := HN.out; omega); rw [h]; have := b1.1; rw [he] at this; simpa using this
          have hJ1 : (J : Int) + 1 < (n : Int) := by have := HN.out; omega
          have hJ0 : (J : Int) < (n : Int) := by omega
          have hd0 : decide ((s.size : Int) ≤ (k : Int)) = false := decide_eq_false (by omega)
          clear b0 b1 he
          go_wp2
          go_roundg (gk - 1)
          case measure => have := hk.out; omega
          case rel => exact ⟨k + 1, J + 2, by have := hk.out; omega, canon_next hlt HJ.out he2.out, by go_num, by go_num, rfl⟩
        · by_cases h8 : ((s[k]).toNat : Int) = 8
          · have he : esc ((s[k]).toNat : Int) = [92, 98] := by rw [h8]; rfl
            have he2 : Hid ((esc ((s[k]).toNat : Int)).length = 2) := by show _ = _; rw [he]; rfl
            have b0 := canon_cell (t := 0) hlt HJ.out (by rw [he]; simp)
            have b1 := canon_cell (t := 1) hlt HJ.out (by rw [he]; simp)
            have c0 : w.cell? ⟨g, J, none⟩ = some (.int .u8 92) := by have h := HC.out J (by have := HN.out; omega); rw [h]; have := b0.1; rw [he] at this; simpa using this
            have c1 : w.cell? ⟨g, J + 1, none⟩ = some (.int .u8 98) := by have h := HC.out (J + 1) (by have := HN.out; omega); rw [h]; have := b1.1; rw [he] at this; simpa using this
            have hJ1 : (J : Int) + 1 < (n : Int) := by have := HN.out; omega
            have hJ0 : (J : Int) < (n : Int) := by omega
            have hd0 : decide ((s.size : Int) ≤ (k : Int)) = false := decide_eq_false (by omega)
            clear b0 b1 he
            go_wp2
            go_roundg (gk - 1)
            case measure => have := hk.out; omega
            case rel => exact ⟨k + 1, J + 2, by have := hk.out; omega, canon_next hlt HJ.out he2.out, by go_num, by go_num, rfl⟩
          · by_cases h9 : ((s[k]).toNat : Int) = 9
            · have he : esc ((s[k]).toNat : Int) = [92, 116] := by rw [h9]; rfl
              have he2 : Hid ((esc ((s[k]).toNat : Int)).length = 2) := by show _ = _; rw [he]; rfl
              have b0 := canon_cell (t := 0) hlt HJ.out (by rw [he]; simp)
              have b1 := canon_cell (t := 1) hlt HJ.out (by rw [he]; simp)
              have c0 : w.cell? ⟨g, J, none⟩ = some (.int .u8 92) := by have h := HC.out J (by have := HN.out; omega); rw [h]; have := b0.1; rw [he] at this; simpa using this
              have c1 : w.cell? ⟨g, J + 1, none⟩ = some (.int .u8 116) := by have h := HC.out (J + 1) (by have := HN.out; omega); rw [h]; have := b1.1; rw [he] at this; simpa using this
              have hJ1 : (J : Int) + 1 < (n : Int) := by have := HN.out; omega
              have hJ0 : (J : Int) < (n : Int) := by omega
              have hd0 : decide ((s.size : Int) ≤ (k : Int)) = false := decide_eq_false (by omega)
              clear b0 b1 he
              go_wp2
              go_roundg (gk - 1)
              case measure => have := hk.out; omega
              case rel => exact ⟨k + 1, J + 2, by have := hk.out; omega, canon_next hlt HJ.out he2.out, by go_num, by go_num, rfl⟩
            · by_cases h10 : ((s[k]).toNat : Int) = 10
              · have he : esc ((s[k]).toNat : Int) = [92, 110] := by rw [h10]; rfl
                have he2 : Hid ((esc ((s[k]).toNat : Int)).length = 2) := by show _ = _; rw [he]; rfl
                have b0 := canon_cell (t := 0) hlt HJ.out (by rw [he]; simp)
                have b1 := canon_cell (t := 1) hlt HJ.out (by rw [he]; simp)
                have c0 : w.cell? ⟨g, J, none⟩ = some (.int .u8 92) := by have h := HC.out J (by have := HN.out; omega); rw [h]; have := b0.1; rw [he] at this; simpa using this
                have c1 : w.cell? ⟨g, J + 1, none⟩ = some (.int .u8 110) := by have h := HC.out (J + 1) (by have := HN.out; omega); rw [h]; have := b1.1; rw [he] at this; simpa using this
                have hJ1 : (J : Int) + 1 < (n : Int) := by have := HN.out; omega
                have hJ0 : (J : Int) < (n : Int) := by omega
                have hd0 : decide ((s.size : Int) ≤ (k : Int)) = false := decide_eq_false (by omega)
                clear b0 b1 he
                go_wp2
                go_roundg (gk - 1)
                case measure => have := hk.out; omega
                case rel => exact ⟨k + 1, J + 2, by have := hk.out; omega, canon_next hlt HJ.out he2.out, by go_num, by go_num, rfl⟩
              · by_cases h12 : ((s[k]).toNat : Int) = 12
                · have he : esc ((s[k]).toNat : Int) = [92, 102] := by rw [h12]; rfl
                  have he2 : Hid ((esc ((s[k]).toNat : Int)).length = 2) := by show _ = _; rw [he]; rfl
                  have b0 := canon_cell (t := 0) hlt HJ.out (by rw [he]; simp)
                  have b1 := canon_cell (t := 1) hlt HJ.out (by rw [he]; simp)
                  have c0 : w.cell? ⟨g, J, none⟩ = some (.int .u8 92) := by have h := HC.out J (by have := HN.out; omega); rw [h]; have := b0.1; rw [he] at this; simpa using this
                  have c1 : w.cell? ⟨g, J + 1, none⟩ = some (.int .u8 102) := by have h := HC.out (J + 1) (by have := HN.out; omega); rw [h]; have := b1.1; rw [he] at this; simpa using this
                  have hJ1 : (J : Int) + 1 < (n : Int) := by have := HN.out; omega
                  have hJ0 : (J : Int) < (n : Int) := by omega
                  have hd0 : decide ((s.size : Int) ≤ (k : Int)) = false := decide_eq_false (by omega)
                  clear b0 b1 he
                  go_wp2
                  go_roundg (gk - 1)
                  case measure => have := hk.out; omega
                  case rel => exact ⟨k + 1, J + 2, by have := hk.out; omega, canon_next hlt HJ.out he2.out, by go_num, by go_num, rfl⟩
                · by_cases h13 : ((s[k]).toNat : Int) = 13
                  · have he : esc ((s[k]).toNat : Int) = [92, 114] := by rw [h13]; rfl
                    have he2 : Hid ((esc ((s[k]).toNat : Int)).length = 2) := by show _ = _; rw [he]; rfl
                    have b0 := canon_cell (t := 0) hlt HJ.out (by rw [he]; simp)
                    have b1 := canon_cell (t := 1) hlt HJ.out (by rw [he]; simp)
                    have c0 : w.cell? ⟨g, J, none⟩ = some (.int .u8 92) := by have h := HC.out J (by have := HN.out; omega); rw [h]; have := b0.1; rw [he] at this; simpa using this
                    have c1 : w.cell? ⟨g, J + 1, none⟩ = some (.int .u8 114) := by have h := HC.out (J + 1) (by have := HN.out; omega); rw [h]; have := b1.1; rw [he] at this; simpa using this
                    have hJ1 : (J : Int) + 1 < (n : Int) := by have := HN.out; omega
                    have hJ0 : (J : Int) < (n : Int) := by omega
                    have hd0 : decide ((s.size : Int) ≤ (k : Int)) = false := decide_eq_false (by omega)
                    clear b0 b1 he
                    go_wp2
                    go_roundg (gk - 1)
                    case measure => have := hk.out; omega
                    case rel => exact ⟨k + 1, J + 2, by have := hk.out; omega, canon_next hlt HJ.out he2.out, by go_num, by go_num, rfl⟩
                  · have hb : ((s[k]).toNat : Int) ≤ 255 := by have := (s[k]).toNat_lt; omega
                    by_cases h32 : ((s[k]).toNat : Int) < 32
                    · have he : esc ((s[k]).toNat : Int) = [92, 117, 48, 48, hexd (((s[k]).toNat : Int) / 16), hexd (((s[k]).toNat : Int) % 16)] := by unfold esc; simp only [h34, h92, h8, h9, h10, h12, h13, h32, or_self, if_false, if_true]
                      have he2 : Hid ((esc ((s[k]).toNat : Int)).length = 6) := by show _ = _; rw [he]; rfl
                      have b0 := canon_cell (t := 0) hlt HJ.out (by rw [he]; simp)
                      have b1 := canon_cell (t := 1) hlt HJ.out (by rw [he]; simp)
                      have b2 := canon_cell (t := 2) hlt HJ.out (by rw [he]; simp)
                      have b3 := canon_cell (t := 3) hlt HJ.out (by rw [he]; simp)
                      have b4 := canon_cell (t := 4) hlt HJ.out (by rw [he]; simp)
                      have b5 := canon_cell (t := 5) hlt HJ.out (by rw [he]; simp)
                      have c0 : w.cell? ⟨g, J, none⟩ = some (.int .u8 (92)) := by have h := HC.out (J) (by have := HN.out; omega); rw [h]; have := b0.1; rw [he] at this; simpa using this
                      have c1 : w.cell? ⟨g, J + 1, none⟩ = some (.int .u8 (117)) := by have h := HC.out (J + 1) (by have := HN.out; omega); rw [h]; have := b1.1; rw [he] at this; simpa using this
                      have c2 : w.cell? ⟨g, J + 2, none⟩ = some (.int .u8 (48)) := by have h := HC.out (J + 2) (by have := HN.out; omega); rw [h]; have := b2.1; rw [he] at this; simpa using this
                      have c3 : w.cell? ⟨g, J + 3, none⟩ = some (.int .u8 (48)) := by have h := HC.out (J + 3) (by have := HN.out; omega); rw [h]; have := b3.1; rw [he] at this; simpa using this
                      have c4 : w.cell? ⟨g, J + 4, none⟩ = some (.int .u8 (hexd (((s[k]).toNat : Int) / 16))) := by have h := HC.out (J + 4) (by have := HN.out; omega); rw [h]; have := b4.1; rw [he] at this; simpa using this
                      have c5 : w.cell? ⟨g, J + 5, none⟩ = some (.int .u8 (hexd (((s[k]).toNat : Int) % 16))) := by have h := HC.out (J + 5) (by have := HN.out; omega); rw [h]; have := b5.1; rw [he] at this; simpa using this
                      have hJ5 : (J : Int) + 5 < (n : Int) := by have := HN.out; omega
                      have hJ0 : (J : Int) < (n : Int) := by omega
                      have hJ1 : (J : Int) + 1 < (n : Int) := by omega
                      have hJ2 : (J : Int) + 2 < (n : Int) := by omega
                      have hJ3 : (J : Int) + 3 < (n : Int) := by omega
                      have hJ4 : (J : Int) + 4 < (n : Int) := by omega
                      have hd0 : decide ((s.size : Int) ≤ (k : Int)) = false := decide_eq_false (by omega)
                      have hd5 : decide ((n : Int) ≤ (J : Int) + 5) = false := decide_eq_false (by omega)
                      clear b0 b1 b2 b3 b4 b5 he
                      have hx1 : (0 : Int) ≤ ((s[k]).toNat : Int) / 16 := by omega
                      have hx2 : ((s[k]).toNat : Int) / 16 < 2 := by omega
                      have hy1 : (0 : Int) ≤ ((s[k]).toNat : Int) % 16 := by omega
                      have hy2 : ((s[k]).toNat : Int) % 16 < 16 := by omega
                      have hv : ((s[k]).toNat : Int) / 16 * 16 + ((s[k]).toNat : Int) % 16 = ((s[k]).toNat : Int) := by omega
                      have k8 : (((s[k]).toNat : Int) == 8) = false := beq_eq_false_iff_ne.2 h8
                      have k9 : (((s[k]).toNat : Int) == 9) = false := beq_eq_false_iff_ne.2 h9
                      have k10 : (((s[k]).toNat : Int) == 10) = false := beq_eq_false_iff_ne.2 h10
                      have k12 : (((s[k]).toNat : Int) == 12) = false := beq_eq_false_iff_ne.2 h12
                      have k13 : (((s[k]).toNat : Int) == 13) = false := beq_eq_false_iff_ne.2 h13
                      have k32 : decide ((32 : Int) ≤ ((s[k]).toNat : Int)) = false := decide_eq_false (by omega)
                      go_wp2_with fail
                      refine (lowhex_any _ w hx1 (by omega)).mono ?_
                      rintro e w' ⟨rfl, rfl⟩
                      go_wp2_with fail
                      refine (lowhex_any _ w hy1 hy2).mono ?_
                      rintro e w' ⟨rfl, rfl⟩
                      go_wp2
                      go_roundg (gk - 1)
                      case measure => have := hk.out; omega
                      case rel => exact ⟨k + 1, J + 6, by have := hk.out; omega, canon_next hlt HJ.out he2.out, by go_num, by go_num, rfl⟩
                    · have he : esc ((s[k]).toNat : Int) = [((s[k]).toNat : Int)] := by unfold esc; simp only [h34, h92, h8, h9, h10, h12, h13, h32, or_self, if_false]
                      have he2 : Hid ((esc ((s[k]).toNat : Int)).length = 1) := by show _ = _; rw [he]; rfl
                      have b0 := canon_cell (t := 0) hlt HJ.out (by rw [he]; simp)
                      have c0 : w.cell? ⟨g, J, none⟩ = some (.int .u8 ((s[k]).toNat : Int)) := by have h := HC.out J (by have := HN.out; omega); rw [h]; have := b0.1; rw [he] at this; simpa using this
                      have hJ0 : (J : Int) < (n : Int) := by have := HN.out; omega
                      have hd0 : decide ((s.size : Int) ≤ (k : Int)) = false := decide_eq_false (by omega)
                      clear b0 he
                      go_wp2
                      go_roundg (gk - 1)
                      case measure => have := hk.out; omega
                      case rel => exact ⟨k + 1, J + 1, by have := hk.out; omega, canon_next hlt HJ.out he2.out, by go_num, by go_num, rfl⟩
    · obtain rfl : k = s.size := by have := hk.out; omega
      have hJ' : J = zs.length + 1 + (encL (bs s)).length := by have := HJ.out; rwa [bs_take_all] at this
      have c0 : w.cell? ⟨g, J, none⟩ = some (.int .u8 34) := by have h := HC.out J (by have := HN.out; omega); rw [h, canon_end hJ']
      have hJ0 : (J : Int) < (n : Int) := by have := HN.out; omega
      have hJe : ((J : Int) == (n : Int) - 1) = true := by have := HN.out; simp; omega
      clear hJ'
      go_wp2
      go_ret
      exact ⟨rfl, rfl⟩

end Go.Proofs.Qxb6601577a
