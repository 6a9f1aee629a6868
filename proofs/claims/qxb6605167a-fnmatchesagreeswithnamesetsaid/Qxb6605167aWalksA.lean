/-
  A slice of strings that is read ('ReadsS'); the contracts of zzHasString (5), zzHasWeakFormOf (6), zzIsWeakForm (7), ZZmatches (8), matches (9), strings.TrimPrefix (10 to 12).
-/
import Derived.Test.Qxb6605167aRows
import Derived.Test.Qxb6605167aPlain
import Derived.WalkKit
import Derived.WalkSpells
import Derived.WalkLawsBesides
import Derived.Deep.LoopGhost
import Derived.Lib.Strings
namespace Go.Proofs.Qxb6605167a
open Go.RowKit

/-- The slice value v reads as the strings ss. -/
def ReadsS (w : World) (v : Value) (ss : List ByteArray) : Prop :=
  ∃ ao cap, v = .slice ao ss.length cap ∧ ss.length ≤ cap ∧ ss.length ≤ maxLen ∧ (ao = none → ss = [] ∧ cap = 0) ∧
    (0 < ss.length → ∃ b off, ao = some ⟨b, off, none⟩ ∧ ∀ i, i < ss.length → w.cell? ⟨b, off + i, none⟩ = some (.string (ss.getD i ByteArray.empty))) ∧ ∀ s ∈ ss, s.size ≤ maxLen

/-- The strings as lists of bytes. -/
def lb (ss : List ByteArray) : List Bytes := ss.map fun s => s.toList
theorem any_hit (p : Bytes → Bool) (ss : List ByteArray) (k : Nat) (h : k < ss.length) (hp : p (ss.getD k ByteArray.empty).toList = true) : (lb ss).any p = true := by
  rw [List.any_eq_true]
  refine ⟨_, List.mem_map.2 ⟨ss.getD k ByteArray.empty, ?_, rfl⟩, hp⟩
  simp [List.getD, h]
theorem any_step (p : Bytes → Bool) (ss : List ByteArray) (k : Nat) (h : k < ss.length) (h0 : (lb (ss.take k)).any p = false) (hp : p (ss.getD k ByteArray.empty).toList = false) : (lb (ss.take (k + 1))).any p = false := by
  rw [List.take_succ_eq_append_getElem h]
  have e : ss.getD k ByteArray.empty = ss[k] := by simp [List.getD, h]
  rw [e] at hp
  unfold lb at h0 ⊢
  rw [List.map_append, List.any_append, h0]
  simp [hp]
theorem any_end (p : Bytes → Bool) (ss : List ByteArray) (k : Nat) (h : ¬ k < ss.length) (h0 : (lb (ss.take k)).any p = false) : (lb ss).any p = false := by
  rwa [List.take_of_length_le (by omega)] at h0

theorem has_any (v : Value) (ss : List ByteArray) (t : ByteArray) (w : World) (hR : ReadsS w v ss) :
    Calls Try.prog 5 #[v, .string t] w fun e w' => e = .returned (.bool (has (lb ss) t.toList)) ∧ w = w' := by
  obtain ⟨ao, cap, rfl, hl, hm, _, hc, _⟩ := hR
  unfold maxLen at hm
  go_enter Try.func5, Try.ntmps5
  go_wp2
  go_loopg [5] ss.length (fun g i wr => ∃ k : Nat, Hid (k + g = ss.length) ∧ i = .int .i64 k ∧ Hid ((lb (ss.take k)).any (fun x => x == t.toList) = false) ∧ w = wr)
  case atStart => exact ⟨0, by show _ = _; omega, rfl, rfl, rfl⟩
  case round =>
    obtain ⟨k, hk, rfl, hn, rfl⟩ := hrel
    by_cases hlt : k < ss.length
    · obtain ⟨b, off, rfl, hcell⟩ := hc (by omega)
      have c0 := hcell k hlt
      obtain ⟨x, hx⟩ : ∃ x, x = ss.getD k ByteArray.empty := ⟨_, rfl⟩
      rw [← hx] at c0
      have HX : Hid (x = ss.getD k ByteArray.empty) := hx
      clear hcell hc hx
      have hi : (k : Int) < (ss.length : Int) := by omega
      by_cases he : (x.toList == t.toList) = true
      · have hf : has (lb ss) t.toList = true := any_hit _ ss k hlt (by rw [← HX.out]; exact he)
        have HF : Hid (has (lb ss) t.toList = true) := hf
        clear hf
        go_wp2
        go_ret
        exact ⟨by rw [HF.out]; rfl, rfl⟩
      · have he' : (x.toList == t.toList) = false := by simpa using he
        have HF : Hid ((lb (ss.take (k + 1))).any (fun x => x == t.toList) = false) := any_step _ ss k hlt hn.out (by rw [← HX.out]; exact he')
        clear he
        go_wp2
        go_roundg (gk - 1)
        case measure => have := hk.out; omega
        case rel => exact ⟨k + 1, by show _ = _; have := hk.out; omega, by go_num, HF, rfl⟩
    · have HF : Hid (has (lb ss) t.toList = false) := any_end _ ss k hlt hn.out
      go_wp2
      go_ret
      exact ⟨by rw [HF.out]; rfl, rfl⟩

/-- What the walk sees of the first two bytes. -/
theorem weakF_size (s : ByteArray) (h : ¬ 2 ≤ s.size) : weakF s.toList = false := by
  rw [ByteArray.toList_eq]
  have : s.data.toList.length = s.size := by simp
  match hl : s.data.toList with
  | [] => rfl
  | [_] => rfl
  | _ :: _ :: _ => rw [hl] at this; simp at this; omega
theorem byte_is (x : UInt8) (n : Nat) (hn : n < 256) : (((x.toNat : Int)) == (n : Int)) = (x == UInt8.ofNat n) := by
  rw [Bool.eq_iff_iff]
  simp only [beq_iff_eq]
  constructor
  · intro h
    have : x.toNat = n := by omega
    rw [← this]; simp
  · intro h; rw [h]; simp; omega
theorem weakF_list (l : List UInt8) (h0 : 0 < l.length) (h1 : 1 < l.length) : weakF l = ((((l[0]).toNat : Int) == 87) && (((l[1]).toNat : Int) == 47)) := by
  match l, h1 with
  | a :: b :: r, _ =>
    simp only [weakF, List.getElem_cons_zero, List.getElem_cons_succ]
    show (a == UInt8.ofNat 87 && b == UInt8.ofNat 47) = _
    rw [← byte_is a 87 (by omega), ← byte_is b 47 (by omega)]
    rfl
theorem weakF_get (s : ByteArray) (h0 : 0 < s.size) (h1 : 1 < s.size) : weakF s.toList = ((((s[0]).toNat : Int) == 87) && (((s[1]).toNat : Int) == 47)) := by
  rw [ByteArray.toList_eq]
  exact weakF_list s.data.toList (by simpa using h0) (by simpa using h1)

theorem weak_any (s : ByteArray) (w : World) (hs : s.size ≤ maxLen) :
    Calls Try.prog 7 #[.string s] w fun e w' => e = .returned (.bool (weakF s.toList)) ∧ w = w' := by
  unfold maxLen at hs
  by_cases h2 : 2 ≤ s.size
  · have hi0 : 0 < s.size := by omega
    have hi1 : 1 < s.size := by omega
    have HW : Hid (weakF s.toList = ((((s[0]).toNat : Int) == 87) && (((s[1]).toNat : Int) == 47))) := weakF_get s hi0 hi1
    have hd : (2 : Int) ≤ (s.size : Int) := by omega
    by_cases h0 : ((s[0]).toNat : Int) = 87
    · go_enter Try.func7, Try.ntmps7
      go_wp2
      go_ret
      exact ⟨by rw [HW.out, h0]; rfl, rfl⟩
    · go_enter Try.func7, Try.ntmps7
      go_wp2
      go_ret
      exact ⟨by rw [HW.out]; simp [h0], rfl⟩
  · have HW : Hid (weakF s.toList = false) := weakF_size s h2
    have hd : decide ((2 : Int) ≤ (s.size : Int)) = false := decide_eq_false (by omega)
    go_enter Try.func7, Try.ntmps7
    go_wp2
    go_ret
    exact ⟨by rw [HW.out]; rfl, rfl⟩

def trimB (s : ByteArray) : ByteArray := if weakF s.toList then s.extract 2 s.size else s
theorem toList_extract (s : ByteArray) (a b : Nat) : (s.extract a b).toList = (s.toList.drop a).take (b - a) := by
  rw [ByteArray.toList_eq, ByteArray.toList_eq, Lib.extract_data]
theorem pre_is (s : ByteArray) (h1 : 1 < s.size) : ((s.extract 0 2).toList == [87, 47]) = weakF s.toList := by
  rw [toList_extract]
  have hlen : s.toList.length = s.size := by rw [ByteArray.toList_eq]; simp
  match hl : s.toList with
  | a :: b :: r => simp [weakF]
  | [_] => rw [hl] at hlen; simp at hlen; omega
  | [] => rw [hl] at hlen; simp at hlen; omega
theorem trimB_toList (s : ByteArray) : (trimB s).toList = trimF s.toList := by
  have hlen : s.toList.length = s.size := by rw [ByteArray.toList_eq]; simp
  unfold trimB trimF
  split
  · rw [toList_extract, List.take_of_length_le]
    rw [List.length_drop, hlen]; omega
  · rfl

theorem trim_any (s : ByteArray) (w : World) (hs : s.size ≤ maxLen) :
    Calls Try.prog 10 #[.string s, .string ⟨#[87, 47]⟩] w fun e w' => e = .returned (.string (trimB s)) ∧ w = w' := by
  unfold maxLen at hs
  by_cases h2 : 2 ≤ s.size
  · have hd : (2 : Int) ≤ (s.size : Int) := by omega
    have hp := pre_is s (by omega)
    by_cases hw : weakF s.toList = true
    · have HT : Hid (trimB s = s.extract 2 s.size) := by show _ = _; unfold trimB; rw [if_pos hw]
      rw [hw] at hp
      clear hw
      go_enter Try.func10, Try.ntmps10
      go_wp2
      go_ret
      exact ⟨by rw [HT.out]; rfl, rfl⟩
    · have HT : Hid (trimB s = s) := by show _ = _; unfold trimB; rw [if_neg hw]
      rw [(Bool.not_eq_true _).mp hw] at hp
      clear hw
      go_enter Try.func10, Try.ntmps10
      go_wp2
      go_ret
      exact ⟨by rw [HT.out]; rfl, rfl⟩
  · have HT : Hid (trimB s = s) := by show _ = _; unfold trimB; rw [weakF_size s h2]; rfl
    have hd : decide ((2 : Int) ≤ (s.size : Int)) = false := decide_eq_false (by omega)
    go_enter Try.func10, Try.ntmps10
    go_wp2
    go_ret
    exact ⟨by rw [HT.out]; rfl, rfl⟩

/-- One element of zzHasWeakFormOf's list. -/
def hw1 (t x : ByteArray) : Bool := weakF x.toList && x.toList.drop 2 == t.toList
theorem hw1_no (t x : ByteArray) (h : ¬ x.size = t.size + 2) : hw1 t x = false := by
  unfold hw1
  cases hw : weakF x.toList with
  | false => rfl
  | true =>
    simp only [Bool.true_and, beq_eq_false_iff_ne]
    intro e
    have h1 : x.toList.length = x.size := by rw [ByteArray.toList_eq]; simp
    have h2 : t.toList.length = t.size := by rw [ByteArray.toList_eq]; simp
    obtain ⟨r, hr⟩ := (weakF_cases _).1 hw
    rw [hr] at e h1
    simp at e h1
    rw [e] at h1
    omega
theorem drop2_is (t x : ByteArray) : ((x.extract 2 x.size).toList == t.toList) = (x.toList.drop 2 == t.toList) := by
  have h1 : x.toList.length = x.size := by rw [ByteArray.toList_eq]; simp
  rw [toList_extract, List.take_of_length_le]
  rw [List.length_drop, h1]; omega

set_option maxHeartbeats 400000 in
theorem hasw_any (v : Value) (ss : List ByteArray) (t : ByteArray) (w : World) (hR : ReadsS w v ss) (ht : t.size ≤ 1048576) :
    Calls Try.prog 6 #[v, .string t] w fun e w' => e = .returned (.bool (hasW (lb ss) t.toList)) ∧ w = w' := by
  obtain ⟨ao, cap, rfl, hl, hm, _, hc, hsz⟩ := hR
  unfold maxLen at hm
  go_enter Try.func6, Try.ntmps6
  go_wp2
  go_loopg [5] ss.length (fun g i wr => ∃ k : Nat, Hid (k + g = ss.length) ∧ i = .int .i64 k ∧ Hid ((lb (ss.take k)).any (fun x => weakF x && x.drop 2 == t.toList) = false) ∧ w = wr)
  case atStart => exact ⟨0, by show _ = _; omega, rfl, rfl, rfl⟩
  case round =>
    obtain ⟨k, hk, rfl, hn, rfl⟩ := hrel
    by_cases hlt : k < ss.length
    · obtain ⟨b, off, rfl, hcell⟩ := hc (by omega)
      have c0 := hcell k hlt
      obtain ⟨x, hx⟩ : ∃ x, x = ss.getD k ByteArray.empty := ⟨_, rfl⟩
      have hxs : x.size ≤ maxLen := hsz x (by rw [hx]; simp [List.getD, hlt])
      rw [← hx] at c0
      have HX : Hid (x = ss.getD k ByteArray.empty) := hx
      clear hcell hc hx hsz
      have hi : (k : Int) < (ss.length : Int) := by omega
      by_cases hsz2 : x.size = t.size + 2
      · have hb : ((x.size : Int) == (t.size : Int) + 2) = true := by simp; omega
        have h2 : (2 : Int) ≤ (x.size : Int) := by omega
        have hdr := drop2_is t x
        by_cases hwf : weakF x.toList = true
        · by_cases he : (x.toList.drop 2 == t.toList) = true
          · have HF : Hid (hasW (lb ss) t.toList = true) := any_hit _ ss k hlt (by rw [← HX.out, hwf, he]; rfl)
            rw [he] at hdr
            clear hsz2 he
            go_wp2_with (go_at_call 7; refine (weak_any _ _ hxs).mono ?_; rintro e w' ⟨rfl, rfl⟩)
            go_ret
            exact ⟨by rw [HF.out]; rfl, rfl⟩
          · rw [(Bool.not_eq_true _).mp he] at hdr
            have HF : Hid ((lb (ss.take (k + 1))).any (fun x => weakF x && x.drop 2 == t.toList) = false) := any_step _ ss k hlt hn.out (by rw [← HX.out, (Bool.not_eq_true _).mp he]; simp)
            clear hsz2 he
            go_wp2_with (go_at_call 7; refine (weak_any _ _ hxs).mono ?_; rintro e w' ⟨rfl, rfl⟩)
            go_roundg (gk - 1)
            case measure => have := hk.out; omega
            case rel => exact ⟨k + 1, by show _ = _; have := hk.out; omega, by go_num, HF, rfl⟩
        · have hwf' := (Bool.not_eq_true _).mp hwf
          have HF : Hid ((lb (ss.take (k + 1))).any (fun x => weakF x && x.drop 2 == t.toList) = false) := any_step _ ss k hlt hn.out (by rw [← HX.out, hwf']; rfl)
          clear hsz2 hwf hdr
          go_wp2_with (go_at_call 7; refine (weak_any _ _ hxs).mono ?_; rintro e w' ⟨rfl, rfl⟩)
          go_roundg (gk - 1)
          case measure => have := hk.out; omega
          case rel => exact ⟨k + 1, by show _ = _; have := hk.out; omega, by go_num, HF, rfl⟩
      · have hb : ((x.size : Int) == (t.size : Int) + 2) = false := by rw [beq_eq_false_iff_ne]; omega
        have HF : Hid ((lb (ss.take (k + 1))).any (fun x => weakF x && x.drop 2 == t.toList) = false) := any_step _ ss k hlt hn.out (by rw [← HX.out]; exact hw1_no t x hsz2)
        clear hsz2
        go_wp2
        go_roundg (gk - 1)
        case measure => have := hk.out; omega
        case rel => exact ⟨k + 1, by show _ = _; have := hk.out; omega, by go_num, HF, rfl⟩
    · have HF : Hid (hasW (lb ss) t.toList = false) := any_end _ ss k hlt hn.out
      go_wp2
      go_ret
      exact ⟨by rw [HF.out]; rfl, rfl⟩

end Go.Proofs.Qxb6605167a
