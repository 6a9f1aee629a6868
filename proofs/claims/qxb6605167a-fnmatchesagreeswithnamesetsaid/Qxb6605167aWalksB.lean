/-
  The contracts of matches (9) and ZZmatches (8).
-/
import Derived.Test.Qxb6605167aWalksA
namespace Go.Proofs.Qxb6605167a
open Go.RowKit

theorem match_no (v : Value) (ss : List ByteArray) (tag : ByteArray) (weak : Bool) (w : World) (hR : ReadsS w v ss) :
    Calls Try.prog 9 #[v, .string tag, .bool false, .bool weak] w fun e w' => e = .returned (.bool (matchF (lb ss) tag.toList false weak)) ∧ w = w' := by
  obtain ⟨ao, cap, rfl, _⟩ := hR
  go_enter Try.func9, Try.ntmps9
  go_wp2
  go_ret
  exact ⟨rfl, rfl⟩

set_option maxHeartbeats 400000 in
theorem match_strong (v : Value) (ss : List ByteArray) (tag : ByteArray) (w : World) (hR : ReadsS w v ss) :
    Calls Try.prog 9 #[v, .string tag, .bool true, .bool false] w fun e w' => e = .returned (.bool (matchF (lb ss) tag.toList true false)) ∧ w = w' := by
  obtain ⟨ao, cap, rfl, hl, hm, _, hc, hsz⟩ := hR
  unfold maxLen at hm
  go_enter Try.func9, Try.ntmps9
  go_wp2
  go_loopg [15] ss.length (fun g i wr => ∃ k : Nat, Hid (k + g = ss.length) ∧ i = .int .i64 k ∧ Hid ((lb (ss.take k)).any (hit tag.toList false) = false) ∧ w = wr)
  case atStart => exact ⟨0, by show _ = _; omega, rfl, rfl, rfl⟩
  case round =>
    obtain ⟨k, hk, rfl, hn, rfl⟩ := hrel
    by_cases hlt : k < ss.length
    · obtain ⟨b, off, rfl, hcell⟩ := hc (by omega)
      have c0 := hcell k hlt
      obtain ⟨x, hx⟩ : ∃ x, x = ss.getD k ByteArray.empty := ⟨_, rfl⟩
      rw [← hx] at c0
      have HX : Hid (x = ss.getD k ByteArray.empty) := hx
      clear hcell hc hx hsz
      have hi : (k : Int) < (ss.length : Int) := by omega
      have hh : hit tag.toList false x.toList = ((x.toList == [42]) || (x.toList == tag.toList)) := by simp [hit]
      cases h1 : (x.toList == [42]) with
      | true =>
        have HF : Hid (matchF (lb ss) tag.toList true false = true) := any_hit _ ss k hlt (by rw [← HX.out, hh, h1]; rfl)
        clear hh
        go_wp2
        go_ret
        exact ⟨by rw [HF.out]; rfl, rfl⟩
      | false =>
        cases h2 : (x.toList == tag.toList) with
        | true =>
          have HF : Hid (matchF (lb ss) tag.toList true false = true) := any_hit _ ss k hlt (by rw [← HX.out, hh, h1, h2]; rfl)
          clear hh
          go_wp2
          go_ret
          exact ⟨by rw [HF.out]; rfl, rfl⟩
        | false =>
          have HF : Hid ((lb (ss.take (k + 1))).any (hit tag.toList false) = false) := any_step _ ss k hlt hn.out (by rw [← HX.out, hh, h1, h2]; rfl)
          clear hh
          go_wp2
          go_roundg (gk - 1)
          case measure => have := hk.out; omega
          case rel => exact ⟨k + 1, by show _ = _; have := hk.out; omega, by go_num, HF, rfl⟩
    · have HF : Hid (matchF (lb ss) tag.toList true false = false) := any_end _ ss k hlt hn.out
      go_wp2
      go_ret
      exact ⟨by rw [HF.out]; rfl, rfl⟩

set_option maxHeartbeats 400000 in
theorem match_weak (v : Value) (ss : List ByteArray) (tag : ByteArray) (w : World) (hR : ReadsS w v ss) :
    Calls Try.prog 9 #[v, .string tag, .bool true, .bool true] w fun e w' => e = .returned (.bool (matchF (lb ss) tag.toList true true)) ∧ w = w' := by
  obtain ⟨ao, cap, rfl, hl, hm, _, hc, hsz⟩ := hR
  unfold maxLen at hm
  go_enter Try.func9, Try.ntmps9
  go_wp2
  go_loopg [15] ss.length (fun g i wr => ∃ k : Nat, Hid (k + g = ss.length) ∧ i = .int .i64 k ∧ Hid ((lb (ss.take k)).any (hit tag.toList true) = false) ∧ w = wr)
  case atStart => exact ⟨0, by show _ = _; omega, rfl, rfl, rfl⟩
  case round =>
    obtain ⟨k, hk, rfl, hn, rfl⟩ := hrel
    by_cases hlt : k < ss.length
    · obtain ⟨b, off, rfl, hcell⟩ := hc (by omega)
      have c0 := hcell k hlt
      obtain ⟨x, hx⟩ : ∃ x, x = ss.getD k ByteArray.empty := ⟨_, rfl⟩
      have hxs : x.size ≤ maxLen := hsz x (by rw [hx]; simp [List.getD, hlt])
      rw [← hx] at c0
      have HX : Hid (x = ss.getD k ByteArray.empty) := hx
      clear hcell hc hx hsz
      have hi : (k : Int) < (ss.length : Int) := by omega
      have hh : hit tag.toList true x.toList = (((trimB x).toList == [42]) || ((trimB x).toList == tag.toList)) := by simp [hit, trimB_toList]
      cases h1 : ((trimB x).toList == [42]) with
      | true =>
        have HF : Hid (matchF (lb ss) tag.toList true true = true) := any_hit _ ss k hlt (by rw [← HX.out, hh, h1]; rfl)
        clear hh
        go_wp2_with (go_at_call 10; refine (trim_any _ _ hxs).mono ?_; rintro e w' ⟨rfl, rfl⟩)
        go_ret
        exact ⟨by rw [HF.out]; rfl, rfl⟩
      | false =>
        cases h2 : ((trimB x).toList == tag.toList) with
        | true =>
          have HF : Hid (matchF (lb ss) tag.toList true true = true) := any_hit _ ss k hlt (by rw [← HX.out, hh, h1, h2]; rfl)
          clear hh
          go_wp2_with (go_at_call 10; refine (trim_any _ _ hxs).mono ?_; rintro e w' ⟨rfl, rfl⟩)
          go_ret
          exact ⟨by rw [HF.out]; rfl, rfl⟩
        | false =>
          have HF : Hid ((lb (ss.take (k + 1))).any (hit tag.toList true) = false) := any_step _ ss k hlt hn.out (by rw [← HX.out, hh, h1, h2]; rfl)
          clear hh
          go_wp2_with (go_at_call 10; refine (trim_any _ _ hxs).mono ?_; rintro e w' ⟨rfl, rfl⟩)
          go_roundg (gk - 1)
          case measure => have := hk.out; omega
          case rel => exact ⟨k + 1, by show _ = _; have := hk.out; omega, by go_num, HF, rfl⟩
    · have HF : Hid (matchF (lb ss) tag.toList true true = false) := any_end _ ss k hlt hn.out
      go_wp2
      go_ret
      exact ⟨by rw [HF.out]; rfl, rfl⟩

theorem zzmatch_any (v : Value) (ss : List ByteArray) (tag : ByteArray) (found weak : Bool) (w : World) (hR : ReadsS w v ss) :
    Calls Try.prog 8 #[v, .string tag, .bool found, .bool weak] w fun e w' => e = .returned (.bool (matchF (lb ss) tag.toList found weak)) ∧ w = w' := by
  have h9 : Calls Try.prog 9 #[v, .string tag, .bool found, .bool weak] w fun e w' => e = .returned (.bool (matchF (lb ss) tag.toList found weak)) ∧ w = w' := by
    cases found with
    | false => exact match_no v ss tag weak w hR
    | true =>
      cases weak with
      | false => exact match_strong v ss tag w hR
      | true => exact match_weak v ss tag w hR
  go_enter Try.func8, Try.ntmps8
  go_wp2_with (go_at_call 9; refine h9.mono ?_; rintro e w' ⟨rfl, rfl⟩)
  go_ret
  exact ⟨rfl, rfl⟩

end Go.Proofs.Qxb6605167a
