/-
  The walk of FnAppendStringIsCanonicalJSONOfS (3), with zzBytes_FnAppendStringIsCanonicalJSONOfS (6).
-/
import Derived.Test.Qxb6601577aCanon
namespace Go.Proofs.Qxb6601577a
open Go.RowKit

theorem zzb6_yes (ao : Option Addr) (n cap : Nat) (s : ByteArray) (w : World) (h : n + s.size ≤ 1048576) :
    Calls Try.prog 6 #[.slice ao n cap, .string s] w fun e w' => e = .returned (.bool true) ∧ w = w' := by
  go_enter Try.func6, Try.ntmps6
  go_wp2
  go_ret
  exact ⟨rfl, rfl⟩
theorem zzb6_no (ao : Option Addr) (n cap : Nat) (s : ByteArray) (w : World) (h : ¬ n + s.size ≤ 1048576) (hn : n ≤ maxLen) (hs : s.size ≤ maxLen) :
    Calls Try.prog 6 #[.slice ao n cap, .string s] w fun e w' => e = .returned (.bool false) ∧ w = w' := by
  unfold maxLen at hn hs
  by_cases h1 : 1048576 < n
  · go_enter Try.func6, Try.ntmps6
    go_wp2
    go_ret
    exact ⟨rfl, rfl⟩
  · by_cases h2 : 1048576 < s.size
    · go_enter Try.func6, Try.ntmps6
      go_wp2
      go_ret
      exact ⟨rfl, rfl⟩
    · go_enter Try.func6, Try.ntmps6
      go_wp2
      go_ret
      exact ⟨rfl, rfl⟩

set_option maxHeartbeats 1000000 in
theorem can_walk (a0 : Option Addr) (len0 cap0 : Nat) (zs : List Int) (s : ByteArray) (w : World) (hR : Reads w (.slice a0 len0 cap0) zs) (hl : zs.length = len0) (hn : len0 ≤ maxLen) (hs : s.size ≤ maxLen) :
    Calls Try.prog 3 #[.slice a0 len0 cap0, .string s] w fun e w' => e = .returned (.bool true) ∧ Below w.heap.size w w' := by
  by_cases hsum : len0 + s.size ≤ 1048576
  · have hd1 : decide ((1048576 : Int) < (len0 : Int)) = false := decide_eq_false (by omega)
    have hd2 : decide ((1048576 : Int) < (s.size : Int)) = false := decide_eq_false (by omega)
    have hd3 : decide ((1048576 : Int) < (len0 : Int) + (s.size : Int)) = false := decide_eq_false (by omega)
    go_enter Try.func3, Try.ntmps3
    go_wp2_with (go_at_call 6; refine (zzb6_yes _ _ _ _ _ hsum).mono ?_; rintro e w' ⟨rfl, rfl⟩)
    subst hl
    have hne := encL_len (bs s)
    rw [bs_length] at hne
    obtain ⟨N, hN⟩ : ∃ N, N = (encL (bs s)).length := ⟨_, rfl⟩
    rw [← hN] at hne
    obtain ⟨hN1, hN2⟩ := hne
    have HN : Hid (N = (encL (bs s)).length) := hN
    clear hN
    refine (clone_sl _ zs w hR (by omega)).mono ?_
    rintro e w1 ⟨ao1, cap1, rfl, H1⟩
    go_wp2_with fail
    refine (clone_sl _ zs w1 H1.reads (by omega)).mono ?_
    rintro e w2 ⟨ao2, cap2, rfl, H2⟩
    go_wp2_with fail
    refine (zzapp_at w1.heap.size _ zs s w1 w2 (zs.length + N + 2) (by rw [HN.out]) H2 (by omega) (by omega)).mono ?_
    rintro e w3 ⟨g3, cap3, rfl, hc3, hm3, H3⟩
    have hB : Below w.heap.size w w3 := H1.2.1.trans (H3.2.1.mono H1.2.2)
    have R1 : Reads w3 (.slice ao1 zs.length cap1) zs := H1.reads.below H3.2.1
    have R3 := H3.reads
    have b1 : ¬ (zs.length : Int) + (N : Int) + 2 < (zs.length : Int) := by omega
    clear H1 H2 H3 hR
    go_wp2_with fail
    refine (equal_any _ _ zs w3 (R3.sub 0 _ _ _ _ (by simp) (by omega) (by omega) (fun _ => rfl) (fun h => by cases h)) R1 (by omega)).mono ?_
    rintro e w6 ⟨rfl, m6, hw6⟩
    replace R3 : Reads w6 (.slice (some ⟨g3, 0, none⟩) (zs.length + N + 2) cap3) (zs ++ quo (bs s)) := by rw [hw6]; exact R3.drewN _
    replace hB : Below w.heap.size w w6 := by rw [hw6]; exact belowDrewN hB _
    clear hd1 hd2 hd3 R1 hw6
    go_wp2_with fail
    refine (canon_any g3 _ cap3 zs s w6 R3 (by omega) (by omega)).mono ?_
    rintro e w7 ⟨rfl, rfl⟩
    go_wp2
    go_ret
    exact ⟨rfl, hB⟩
  · go_enter Try.func3, Try.ntmps3
    go_wp2_with (go_at_call 6; refine (zzb6_no _ _ _ _ _ hsum hn hs).mono ?_; rintro e w' ⟨rfl, rfl⟩)
    go_ret
    exact ⟨rfl, Below.refl _ _⟩
end Go.Proofs.Qxb6601577a
