/-
  The walk of FnAppendStringPrefixAndConcat (4), with zzBytes_FnAppendStringPrefixAndConcat (11).
-/
import Derived.Test.Qxb6601577aReads
namespace Go.Proofs.Qxb6601577a
open Go.RowKit

theorem zzb11_yes (ao : Option Addr) (n cap : Nat) (s t : ByteArray) (w : World) (h : n + s.size + t.size ≤ 1048576) :
    Calls Try.prog 11 #[.slice ao n cap, .string s, .string t] w fun e w' => e = .returned (.bool true) ∧ w = w' := by
  go_enter Try.func11, Try.ntmps11
  go_wp2
  go_ret
  exact ⟨rfl, rfl⟩
theorem zzb11_no (ao : Option Addr) (n cap : Nat) (s t : ByteArray) (w : World) (h : ¬ n + s.size + t.size ≤ 1048576) (hn : n ≤ maxLen) (hs : s.size ≤ maxLen) (ht : t.size ≤ maxLen) :
    Calls Try.prog 11 #[.slice ao n cap, .string s, .string t] w fun e w' => e = .returned (.bool false) ∧ w = w' := by
  unfold maxLen at hn hs ht
  by_cases h1 : 1048576 < n
  · go_enter Try.func11, Try.ntmps11
    go_wp2
    go_ret
    exact ⟨rfl, rfl⟩
  · by_cases h2 : 1048576 < s.size
    · go_enter Try.func11, Try.ntmps11
      go_wp2
      go_ret
      exact ⟨rfl, rfl⟩
    · by_cases h3 : 1048576 < n + s.size
      · go_enter Try.func11, Try.ntmps11
        go_wp2
        go_ret
        exact ⟨rfl, rfl⟩
      · by_cases h4 : 1048576 < t.size
        · go_enter Try.func11, Try.ntmps11
          go_wp2
          go_ret
          exact ⟨rfl, rfl⟩
        · go_enter Try.func11, Try.ntmps11
          go_wp2
          go_ret
          exact ⟨rfl, rfl⟩

set_option maxHeartbeats 1000000 in
theorem pre_walk (a0 : Option Addr) (len0 cap0 : Nat) (zs : List Int) (s t : ByteArray) (w : World) (hR : Reads w (.slice a0 len0 cap0) zs) (hl : zs.length = len0) (hn : len0 ≤ maxLen) (hs : s.size ≤ maxLen) (ht : t.size ≤ maxLen) :
    Calls Try.prog 4 #[.slice a0 len0 cap0, .string s, .string t] w fun e w' => e = .returned (.bool true) ∧ Below w.heap.size w w' := by
  by_cases hsum : len0 + s.size + t.size ≤ 1048576
  · have hd1 : decide ((1048576 : Int) < (len0 : Int)) = false := decide_eq_false (by omega)
    have hd2 : decide ((1048576 : Int) < (s.size : Int)) = false := decide_eq_false (by omega)
    have hd3 : decide ((1048576 : Int) < (t.size : Int)) = false := decide_eq_false (by omega)
    have hd4 : decide ((1048576 : Int) < (len0 : Int) + (s.size : Int) + (t.size : Int)) = false := decide_eq_false (by omega)
    go_enter Try.func4, Try.ntmps4
    go_wp2_with (go_at_call 11; refine (zzb11_yes _ _ _ _ _ _ hsum).mono ?_; rintro e w' ⟨rfl, rfl⟩)
    subst hl
    have hne1 := encL_len (bs s)
    have hne2 := encL_len (bs t)
    rw [bs_length] at hne1 hne2
    obtain ⟨A, hA⟩ : ∃ A, A = (encL (bs s)).length := ⟨_, rfl⟩
    obtain ⟨B, hB⟩ : ∃ B, B = (encL (bs t)).length := ⟨_, rfl⟩
    have HA : Hid (A = (encL (bs s)).length) := hA
    have HB : Hid (B = (encL (bs t)).length) := hB
    rw [← hA] at hne1
    rw [← hB] at hne2
    clear hA hB
    obtain ⟨hA1, hA2⟩ := hne1
    obtain ⟨hB1, hB2⟩ := hne2
    refine (clone_sl _ zs w hR (by omega)).mono ?_
    rintro e w1 ⟨ao1, cap1, rfl, H1⟩
    go_wp2_with fail
    refine (clone_sl _ zs w1 H1.reads (by omega)).mono ?_
    rintro e w2 ⟨ao2, cap2, rfl, H2⟩
    go_wp2_with fail
    refine (zzapp_at w1.heap.size _ zs (s ++ t) w1 w2 (zs.length + (A + B) + 2) (by rw [HA.out, HB.out, bs_append, encL_append, List.length_append]) H2 (by omega) (by simp; omega)).mono ?_
    rintro e w3 ⟨g3, cap3, rfl, hc3, hm3, H3⟩
    go_wp2_with fail
    refine (zzapp_at w3.heap.size _ [] s w3 w3 (A + 2) (by rw [HA.out]; simp) ⟨World.ownsRow_nil _ _ _ _, Below.refl _ _, Nat.le_refl _⟩ (by simp) (by omega)).mono ?_
    rintro e w4 ⟨g4, cap4, rfl, hc4, hm4, H4⟩
    go_wp2_with fail
    refine (zzapp_at w4.heap.size _ [] t w4 w4 (B + 2) (by rw [HB.out]; simp) ⟨World.ownsRow_nil _ _ _ _, Below.refl _ _, Nat.le_refl _⟩ (by simp) (by omega)).mono ?_
    rintro e w5 ⟨g5, cap5, rfl, hc5, hm5, H5⟩
    have hd5 : decide ((A : Int) + 2 < 2) = false := decide_eq_false (by omega)
    have hd6 : decide ((B : Int) + 2 < 2) = false := decide_eq_false (by omega)
    have hd7 : ((zs.length : Int) + ((A : Int) + (B : Int)) + 2 != (zs.length : Int) + ((A : Int) + 2) + ((B : Int) + 2) - 2) = false := by simp; omega
    have hb34 := H4.2.1
    have hb45 := H5.2.1
    have R3 : Reads w5 (.slice (some ⟨g3, 0, none⟩) (zs.length + (A + B) + 2) cap3) (zs ++ quo (bs (s ++ t))) := (H3.reads.below hb34).below hb45
    have R4 : Reads w5 (.slice (some ⟨g4, 0, none⟩) (A + 2) cap4) (quo (bs s)) := H4.reads.below hb45
    have R5 : Reads w5 (.slice (some ⟨g5, 0, none⟩) (B + 2) cap5) (quo (bs t)) := H5.reads
    have R1 : Reads w5 (.slice ao1 zs.length cap1) zs := ((H1.reads.below H3.2.1).below hb34).below hb45
    have hBel : Below w.heap.size w w5 := ((H1.2.1.trans (H3.2.1.mono H1.2.2)).trans (hb34.mono (Nat.le_trans H1.2.2 H3.2.1.size))).trans (hb45.mono (Nat.le_trans (Nat.le_trans H1.2.2 H3.2.1.size) hb34.size))
    clear hb34 hb45 H1 H2 H3 H4 H5 hR
    go_wp2_with fail
    refine (equal_any _ _ zs w5 (R3.sub 0 _ _ _ _ (by simp) (by omega) (by omega) (fun _ => rfl) (fun h => by cases h)) R1 (by omega)).mono ?_
    rintro e w6 ⟨rfl, m6, hw6⟩
    replace R3 : Reads w6 (.slice (some ⟨g3, 0, none⟩) (zs.length + (A + B) + 2) cap3) (zs ++ quo (bs (s ++ t))) := by rw [hw6]; exact R3.drewN _
    replace R4 : Reads w6 (.slice (some ⟨g4, 0, none⟩) (A + 2) cap4) (quo (bs s)) := by rw [hw6]; exact R4.drewN _
    replace R5 : Reads w6 (.slice (some ⟨g5, 0, none⟩) (B + 2) cap5) (quo (bs t)) := by rw [hw6]; exact R5.drewN _
    replace hBel : Below w.heap.size w w6 := by rw [hw6]; exact belowDrewN hBel _
    clear hd1 hd2 hd3 hd4 hd5 hd6 hd7 R1 hw6
    go_wp2_with fail
    obtain ⟨E, hE⟩ : ∃ E, E = zs.length + A + 1 := ⟨_, rfl⟩
    obtain ⟨F, hF⟩ : ∃ F, F = A + 1 := ⟨_, rfl⟩
    have q1 : IntKind.i64.wrap ((zs.length : Int) + ((A : Int) + 2)) = (E : Int) + 1 := by rw [IntKind.wrap_i64]; omega
    have q2 : IntKind.i64.wrap ((E : Int) + 1 - 1) = (E : Int) := by rw [IntKind.wrap_i64]; omega
    have q2' : IntKind.i64.wrap (E : Int) = (E : Int) := by rw [IntKind.wrap_i64]; omega
    have q3 : IntKind.i64.wrap ((A : Int) + 2 - 1) = (F : Int) := by rw [IntKind.wrap_i64]; omega
    have q3' : IntKind.i64.wrap ((A : Int) + 1) = (F : Int) := by rw [IntKind.wrap_i64]; omega
    have b1 : (zs.length : Int) ≤ (E : Int) := by omega
    have b2 : (E : Int) ≤ (cap3 : Int) := by omega
    have b3 : (F : Int) ≤ (cap4 : Int) := by omega
    have b4 : ¬ cap3 = zs.length := by omega
    have X1 : Reads w6 (.slice (some ⟨g3, zs.length, none⟩) (E - zs.length) (cap3 - zs.length)) ((quo (bs s)).take F) := by
      refine R3.sub zs.length _ _ _ _ ?_ (by omega) (by omega) (fun _ => by simp) (fun h => by cases h)
      rw [bs_append, show E - zs.length = F by omega]
      exact quo_head zs (bs s) (bs t) F (by rw [← HA.out]; exact hF)
    have X2 : Reads w6 (.slice (some ⟨g4, 0, none⟩) F cap4) ((quo (bs s)).take F) := R4.sub 0 _ _ _ _ (by simp) (by omega) (by omega) (fun _ => by simp) (fun h => by cases h)
    have hFl : ((quo (bs s)).take F).length ≤ 100000000 := by rw [List.length_take]; omega
    have HE : Hid (E = zs.length + A + 1) := hE
    have HF : Hid (F = A + 1) := hF
    clear hE hF
    go_quiet (first | (go_at_call 9; refine Calls.quiet_of (equal_any _ _ ((quo (bs s)).take F) _ (X1.drewN _) (X2.drewN _) hFl)))
    go_wp2_with fail
    have b5 : (E : Int) ≤ (zs.length : Int) + ((A : Int) + (B : Int)) + 2 := by have := HE.out; omega
    have b6 : (1 : Int) ≤ (B : Int) + 2 := by omega
    have b7 : ¬ cap3 = E := by have := HE.out; omega
    have b8 : ¬ cap5 = 1 := by omega
    have Y1 : Reads (w6.drewN nq) (.slice (some ⟨g3, E, none⟩) (zs.length + (A + B) + 2 - E) (cap3 - E)) ((quo (bs t)).drop 1) := by
      refine (R3.drewN nq).sub E _ _ _ _ ?_ (by have := HE.out; omega) (by omega) (fun _ => by simp) (fun h => by cases h)
      rw [bs_append]
      exact quo_tail zs (bs s) (bs t) E _ (by rw [← HA.out]; exact HE.out) (by rw [← HB.out]; have := HE.out; omega)
    have Y2 : Reads (w6.drewN nq) (.slice (some ⟨g5, 1, none⟩) (B + 1) (cap5 - 1)) ((quo (bs t)).drop 1) := by
      refine (R5.drewN nq).sub 1 _ _ _ _ ?_ (by omega) (by omega) (fun _ => by simp) (fun h => by cases h)
      exact (List.take_of_length_le (by rw [List.length_drop, quo_len, ← HB.out]; omega)).symm
    have hYl : ((quo (bs t)).drop 1).length ≤ 100000000 := by rw [List.length_drop, quo_len, ← HB.out]; omega
    replace hBel := belowDrewN hBel nq
    clear X1 X2 hFl R3 R4 R5
    generalize w6.drewN nq = w7 at *
    go_quiet (first | (go_at_call 9; go_must (refine Calls.quiet_of (equal_any _ _ ((quo (bs t)).drop 1) _ (Y1.drewN _) (Y2.drewN _) hYl))))
    go_wp2
    go_ret
    exact ⟨rfl, belowDrewN hBel _⟩
  · go_enter Try.func4, Try.ntmps4
    go_wp2_with (go_at_call 11; refine (zzb11_no _ _ _ _ _ _ hsum hn hs ht).mono ?_; rintro e w' ⟨rfl, rfl⟩)
    go_ret
    exact ⟨rfl, Below.refl _ _⟩
end Go.Proofs.Qxb6601577a
