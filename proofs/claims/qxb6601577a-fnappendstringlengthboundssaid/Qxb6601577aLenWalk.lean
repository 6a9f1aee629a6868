/-
  The walk of FnAppendStringLengthBounds (5), with zzBytes_FnAppendStringLengthBounds (12).
-/
import Derived.Test.Qxb6601577aReads
import Derived.Deep.LoopGhost
namespace Go.Proofs.Qxb6601577a
open Go.RowKit

theorem zzb12_yes (ao : Option Addr) (n cap : Nat) (s : ByteArray) (w : World) (h : n + s.size ≤ 1048576) :
    Calls Try.prog 12 #[.slice ao n cap, .string s] w fun e w' => e = .returned (.bool true) ∧ w = w' := by
  go_enter Try.func12, Try.ntmps12
  go_wp2
  go_ret
  exact ⟨rfl, rfl⟩
theorem zzb12_no (ao : Option Addr) (n cap : Nat) (s : ByteArray) (w : World) (h : ¬ n + s.size ≤ 1048576) (hn : n ≤ maxLen) (hs : s.size ≤ maxLen) :
    Calls Try.prog 12 #[.slice ao n cap, .string s] w fun e w' => e = .returned (.bool false) ∧ w = w' := by
  unfold maxLen at hn hs
  by_cases h1 : 1048576 < n
  · go_enter Try.func12, Try.ntmps12
    go_wp2
    go_ret
    exact ⟨rfl, rfl⟩
  · by_cases h2 : 1048576 < s.size
    · go_enter Try.func12, Try.ntmps12
      go_wp2
      go_ret
      exact ⟨rfl, rfl⟩
    · go_enter Try.func12, Try.ntmps12
      go_wp2
      go_ret
      exact ⟨rfl, rfl⟩

/-- One round of the law's own loop. -/
theorem plain_step (s : ByteArray) (k : Nat) (h : k < s.size) : plainL ((bs s).take (k + 1)) = (plainL ((bs s).take k) && plainC ((s[k]).toNat : Int)) := by
  rw [bs_take_succ s k h, plainL_snoc]
theorem worst_step (s : ByteArray) (k : Nat) (h : k < s.size) : worstL ((bs s).take (k + 1)) = (worstL ((bs s).take k) && worstC ((s[k]).toNat : Int)) := by
  rw [bs_take_succ s k h, worstL_snoc]

theorem byte_cases (c : Int) : c = 34 ∨ c = 92 ∨ c = 8 ∨ c = 9 ∨ c = 10 ∨ c = 12 ∨ c = 13 ∨ (c < 32 ∧ (c == 8) = false ∧ (c == 9) = false ∧ (c == 10) = false ∧ (c == 12) = false ∧ (c == 13) = false) ∨ (32 ≤ c ∧ (c == 34) = false ∧ (c == 92) = false) := by
  simp only [beq_eq_false_iff_ne, ne_eq]
  omega
theorem same_bool {a b : Int} {p : Bool} (h : a = b → p = true) (h' : p = true → a = b) : ((a == b) == p) = true := by
  by_cases e : a = b
  · simp [e, h e]
  · have : p = false := by cases p; rfl; exact absurd (h' rfl) e
    subst this; simp [e]

set_option maxHeartbeats 1000000 in
theorem len_walk (a0 : Option Addr) (len0 cap0 : Nat) (zs : List Int) (s : ByteArray) (w : World) (hR : Reads w (.slice a0 len0 cap0) zs) (hl : zs.length = len0) (hn : len0 ≤ maxLen) (hs : s.size ≤ maxLen) :
    Calls Try.prog 5 #[.slice a0 len0 cap0, .string s] w fun e w' => e = .returned (.bool true) ∧ Below w.heap.size w w' := by
  by_cases hsum : len0 + s.size ≤ 1048576
  · have hd1 : decide ((1048576 : Int) < (len0 : Int)) = false := decide_eq_false (by omega)
    have hd2 : decide ((1048576 : Int) < (s.size : Int)) = false := decide_eq_false (by omega)
    have hd3 : decide ((1048576 : Int) < (len0 : Int) + (s.size : Int)) = false := decide_eq_false (by omega)
    go_enter Try.func5, Try.ntmps5
    go_wp2_with (go_at_call 12; refine (zzb12_yes _ _ _ _ _ hsum).mono ?_; rintro e w' ⟨rfl, rfl⟩)
    subst hl
    have hne := encL_len (bs s)
    rw [bs_length] at hne
    refine (clone_sl _ zs w hR (by omega)).mono ?_
    rintro e w1 ⟨ao1, cap1, rfl, H1⟩
    go_wp2_with fail
    refine (clone_sl _ zs w1 H1.reads (by omega)).mono ?_
    rintro e w2 ⟨ao2, cap2, rfl, H2⟩
    go_wp2_with fail
    obtain ⟨N, hN⟩ : ∃ N, N = (encL (bs s)).length := ⟨_, rfl⟩
    refine (zzapp_sl w1.heap.size _ zs s w1 w2 (zs.length + N + 2) (by rw [hN]) H2 (by omega) (by omega)).mono ?_
    rintro e w3 ⟨ao3, cap3, rfl, H3⟩
    have hB : Below w.heap.size w w3 := H1.2.1.trans (H3.2.1.mono H1.2.2)
    have hp := encL_len_plain (bs s)
    have hw := encL_len_worst (bs s)
    rw [bs_length, ← hN] at hp hw
    rw [← hN] at hne
    have HN : Hid (N = (encL (bs s)).length) := hN
    have HP : Hid (N = s.size ↔ plainL (bs s) = true) := hp
    have HW : Hid (N = 6 * s.size ↔ worstL (bs s) = true) := hw
    clear hN hp hw H1 H2 H3 hR
    obtain ⟨hne1, hne2⟩ := hne
    have e1 : ((zs.length : Int) + (N : Int) + 2 - (zs.length : Int)) = (N : Int) + 2 := by omega
    have hd4 : decide (N < s.size) = false := decide_eq_false (by omega)
    have hd5 : decide (6 * (s.size : Int) < (N : Int)) = false := decide_eq_false (by omega)
    go_wp2
    clear hd1 hd2 hd3 hd4 hd5 e1
    go_loopg [7, 8, 9] s.size (fun g p q i wr => ∃ k : Nat, k + g = s.size ∧ i = .int .i64 k ∧ p = .bool (plainL ((bs s).take k)) ∧ q = .bool (worstL ((bs s).take k)) ∧ w3 = wr)
    case atStart => exact ⟨0, by omega, rfl, rfl, rfl, rfl⟩
    case round =>
      obtain ⟨k, hk0, rfl, rfl, rfl, rfl⟩ := hrel
      have hk : Hid (k + gk = s.size) := hk0
      clear hk0
      by_cases hlt : k < s.size
      · have hp := plain_step s k hlt
        have hw := worst_step s k hlt
        rcases byte_cases ((s[k]).toNat : Int) with h | h | h | h | h | h | h | h | h
        case' inr.inr.inr.inr.inr.inr.inr.inl =>
          obtain ⟨h1, h2, h3, h4, h5, h6⟩ := h
          have hW1 : worstC ((s[k]).toNat : Int) = true := by simp [worstC, h1, h2, h3, h4, h5, h6]
          have hP1 : plainC ((s[k]).toNat : Int) = false := by simp [plainC, h1]
        case' inr.inr.inr.inr.inr.inr.inr.inr =>
          obtain ⟨h1, h2, h3⟩ := h
          have hW1 : worstC ((s[k]).toNat : Int) = false := by simp [worstC, h1]
          have hP1 : plainC ((s[k]).toNat : Int) = true := by simp [plainC, h1, h2, h3]
        case inr.inr.inr.inr.inr.inr.inr.inl =>
          have HP' : Hid (plainL ((bs s).take (k + 1)) = false) := by show _ = _; rw [hp, hP1]; simp
          have HW' : Hid (worstL ((bs s).take (k + 1)) = worstL ((bs s).take k)) := by show _ = _; rw [hw, hW1]; simp
          clear hp hw hP1 hW1
          go_wp2
          go_roundg (gk - 1)
          case rel => exact ⟨k + 1, by have := hk.out; omega, by go_num, by rw [HP'.out], by rw [HW'.out], rfl⟩
          case measure => have := hk.out; omega
        case inr.inr.inr.inr.inr.inr.inr.inr =>
          have HP' : Hid (plainL ((bs s).take (k + 1)) = plainL ((bs s).take k)) := by show _ = _; rw [hp, hP1]; simp
          have HW' : Hid (worstL ((bs s).take (k + 1)) = false) := by show _ = _; rw [hw, hW1]; simp
          clear hp hw hP1 hW1
          go_wp2
          go_roundg (gk - 1)
          case rel => exact ⟨k + 1, by have := hk.out; omega, by go_num, by rw [HP'.out], by rw [HW'.out], rfl⟩
          case measure => have := hk.out; omega
        all_goals
          have HP' : Hid (plainL ((bs s).take (k + 1)) = false) := by show _ = _; rw [hp, h]; simp [plainC]
          have HW' : Hid (worstL ((bs s).take (k + 1)) = false) := by show _ = _; rw [hw, h]; simp [worstC]
          clear hp hw
          go_wp2
          go_roundg (gk - 1)
          case rel => exact ⟨k + 1, by have := hk.out; omega, by go_num, by rw [HP'.out], by rw [HW'.out], rfl⟩
          case measure => have := hk.out; omega
      · obtain rfl : k = s.size := by have := hk.out; omega
        have hF1 : (((N : Int) + 2 == (s.size : Int) + 2) == plainL ((bs s).take s.size)) = true := by
          rw [bs_take_all]; exact same_bool (fun h => HP.out.1 (by omega)) (fun h => by have := HP.out.2 h; omega)
        have hF2 : (((N : Int) + 2 == 6 * (s.size : Int) + 2) == worstL ((bs s).take s.size)) = true := by
          rw [bs_take_all]; exact same_bool (fun h => HW.out.1 (by omega)) (fun h => by have := HW.out.2 h; omega)
        go_wp2
        go_ret
        exact ⟨rfl, hB⟩
  · go_enter Try.func5, Try.ntmps5
    go_wp2_with (go_at_call 12; refine (zzb12_no _ _ _ _ _ hsum hn hs).mono ?_; rintro e w' ⟨rfl, rfl⟩)
    go_ret
    exact ⟨rfl, Below.refl _ _⟩
end Go.Proofs.Qxb6601577a
