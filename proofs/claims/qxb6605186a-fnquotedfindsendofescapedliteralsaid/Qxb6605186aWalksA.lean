/-
  The contracts of quoted (10), ZZquoted (6) and quotedByRuns (7): each returns a string whose bytes are 'quotedL' of the argument's.
-/
import Derived.Test.Qxb6605186aRows
import Derived.Test.Qxb6605186aPlain
import Derived.WalkKit
import Derived.WalkSpells
import Derived.WalkLawsBesides
import Derived.Deep.LoopGhost
import Derived.Lib.Strings
namespace Go.Proofs.Qxb6605186a
open Go.RowKit

theorem toList_extract (s : ByteArray) (a b : Nat) : (s.extract a b).toList = (s.toList.drop a).take (b - a) := by
  rw [ByteArray.toList_eq, ByteArray.toList_eq, Lib.extract_data]
theorem toList_len (s : ByteArray) : s.toList.length = s.size := by rw [ByteArray.toList_eq]; simp
theorem get_toList (s : ByteArray) (k : Nat) (h : k < s.size) (h' : k < s.toList.length) : s.toList[k] = s[k] := by
  have e := ByteArray.toList_eq s
  have h2 : s.toList[k]? = s.data.toList[k]? := by rw [e]
  rw [List.getElem?_eq_getElem h', List.getElem?_eq_getElem (by simpa using h)] at h2
  exact Option.some.inj h2
theorem byte_of (x : UInt8) (n : Nat) (_hn : n < 256) (h : (x.toNat : Int) = n) : x = UInt8.ofNat n := by
  have : x.toNat = n := by omega
  rw [← this]; simp
theorem byte_not (x : UInt8) (n : Nat) (hn : n < 256) (h : ¬ (x.toNat : Int) = n) : ¬ x = UInt8.ofNat n := by
  intro e; apply h; rw [e]; simp; omega

theorem quoted_any (s : ByteArray) (w : World) (hs : s.size ≤ 4194304) :
    Calls Try.prog 10 #[.string s] w fun e w' => ∃ t : ByteArray, e = .returned (.string t) ∧ t.toList = quotedL s.toList ∧ w = w' := by
  have hl := toList_len s
  go_enter Try.func10, Try.ntmps10
  go_wp2
  go_loopg [3] s.size (fun g i wr => ∃ k : Nat, 1 ≤ k ∧ Hid (g = s.size + 1 - k) ∧ k ≤ s.size + 1 ∧ i = .int .i64 k ∧ Hid (At s.toList false k) ∧ w = wr)
  case atStart => exact ⟨1, by omega, by show _ = _; omega, by omega, rfl, at_one _, rfl⟩
  case round =>
    obtain ⟨k, h1, hg, hk, rfl, hA, rfl⟩ := hrel
    by_cases hlt : k < s.size
    · have h' : k < s.toList.length := by omega
      have eg := get_toList s k hlt h'
      have HG : Hid (s.toList[k] = s[k]) := eg
      clear eg hl
      by_cases h92 : ((s[k]).toNat : Int) = 92
      · have HN : Hid (At s.toList false (k + 2)) := at_two hA.out h' (by rw [HG.out]; exact byte_of _ 92 (by omega) h92)
        go_wp2
        go_roundg (s.size + 1 - (k + 2))
        case measure => have := hg.out; omega
        case rel => exact ⟨k + 2, by omega, rfl, by omega, by go_num, HN, rfl⟩
      · by_cases h34 : ((s[k]).toNat : Int) = 34
        · have HN : Hid (quotedL s.toList = s.toList.take (k + 1)) := at_quote hA.out h' (by rw [HG.out]; exact byte_of _ 34 (by omega) h34)
          have hb : (k : Int) + 1 ≤ (s.size : Int) := by omega
          go_wp2
          go_ret
          refine ⟨_, rfl, ?_, rfl⟩
          rw [HN.out, toList_extract]
          simp
        · have HN : Hid (At s.toList false (k + 1)) := at_plain hA.out h' (by rw [HG.out]; exact byte_not _ 92 (by omega) h92) (by rw [HG.out]; exact byte_not _ 34 (by omega) h34)
          go_wp2
          go_roundg (s.size + 1 - (k + 1))
          case measure => have := hg.out; omega
          case rel => exact ⟨k + 1, by omega, rfl, by omega, by go_num, HN, rfl⟩
    · have HN : Hid (quotedL s.toList = s.toList) := at_end hA.out (by omega)
      go_wp2
      go_ret
      exact ⟨_, rfl, HN.out.symm, rfl⟩

theorem zzquoted_any (s : ByteArray) (w : World) (hs : s.size ≤ 4194304) :
    Calls Try.prog 6 #[.string s] w fun e w' => ∃ t : ByteArray, e = .returned (.string t) ∧ t.toList = quotedL s.toList ∧ w = w' := by
  go_enter Try.func6, Try.ntmps6
  go_wp2_with (go_at_call 10; refine (quoted_any s _ hs).mono ?_; rintro e w' ⟨t, rfl, ht, rfl⟩)
  go_ret
  exact ⟨_, rfl, ht, rfl⟩

theorem get?_toList (s : ByteArray) (k : Nat) (h : k < s.size) : s.toList[k]? = some s[k] := by
  rw [List.getElem?_eq_getElem (by rw [toList_len]; exact h), get_toList s k h]

set_option maxHeartbeats 1000000 in
theorem runs_any (s : ByteArray) (w : World) (hs : s.size ≤ 4194304) :
    Calls Try.prog 7 #[.string s] w fun e w' => ∃ t : ByteArray, e = .returned (.string t) ∧ t.toList = quotedL s.toList ∧ w = w' := by
  go_enter Try.func7, Try.ntmps7
  go_wp2
  go_loopg [3] s.size (fun g i wr => ∃ k : Nat, 1 ≤ k ∧ Hid (g = s.size + 1 - k) ∧ k ≤ s.size + 1 ∧ i = .int .i64 k ∧ Hid (At s.toList (escd s.toList k) k) ∧ w = wr)
  case atStart => exact ⟨1, by omega, by show _ = _; omega, by omega, rfl, at_one _, rfl⟩
  case round =>
    obtain ⟨k, h1, hg, hk, rfl, hA, rfl⟩ := hrel
    have HL : Hid (s.toList.length = s.size) := toList_len s
    by_cases hlt : k < s.size
    · have HG : Hid (s.toList[k]? = some s[k]) := get?_toList s k hlt
      by_cases h34 : ((s[k]).toNat : Int) = 34
      · go_wp2
        go_loopg [4, 5] (k - 1) (fun g r m wr => ∃ rr mm : Nat, Hid (mm + rr + 1 = k ∧ g = mm) ∧ mm < s.size ∧ rr ≤ s.size ∧ r = .int .i64 rr ∧ m = .int .i64 mm ∧ Hid (∀ i, mm < i → i < k → s.toList[i]? = some 92) ∧ w = wr)
        case atStart => exact ⟨0, k - 1, ⟨by omega, rfl⟩, by omega, by omega, rfl, by go_num, fun i a b => by omega, rfl⟩
        case round =>
          obtain ⟨rr, mm, hm, hmm, hrr, rfl, rfl, hall, rfl⟩ := hrel
          by_cases hc : 1 ≤ mm ∧ ((s[mm]).toNat : Int) = 92
          · obtain ⟨hm1, h92⟩ := hc
            have HN : Hid (∀ i, mm - 1 < i → i < k → s.toList[i]? = some 92) := by
              intro i a b
              by_cases e : i = mm
              · subst e; rw [get?_toList s i hmm, byte_of _ 92 (by omega) h92]; rfl
              · exact hall.out i (by omega) b
            have hm1' : (1 : Int) ≤ (mm : Int) := by omega
            go_wp2
            go_roundg (mm - 1)
            case measure => have := hm.out.2; omega
            case rel => exact ⟨rr + 1, mm - 1, ⟨by have := hm.out.1; omega, rfl⟩, by omega, by have := hm.out.1; omega, by go_num, by go_num, HN, rfl⟩
          · have hpar : escd s.toList k = (rr % 2 == 1) := by
              have e : k = mm + 1 + rr := by have := hm.out.1; omega
              rw [e]
              refine run_parity mm ?_ rr (fun i a b => hall.out i a (by omega))
              by_cases h0 : mm = 0
              · exact Or.inl h0
              · right
                rw [get?_toList s mm hmm]
                intro e2
                apply hc
                refine ⟨by omega, ?_⟩
                have e3 := Option.some.inj e2
                rw [e3]; rfl
            have hstop : (mm = 0 ∧ decide ((1 : Int) ≤ (mm : Int)) = false) ∨ ((1 : Int) ≤ (mm : Int) ∧ (((s[mm]).toNat : Int) == 92) = false) := by
              by_cases h0 : mm = 0
              · exact Or.inl ⟨h0, decide_eq_false (by omega)⟩
              · right
                refine ⟨by omega, ?_⟩
                rw [beq_eq_false_iff_ne]
                intro e; exact hc ⟨by omega, e⟩
            clear hc
            have h34' : s.toList[k]'(by rw [HL.out]; exact hlt) = 34 := by rw [get_toList s k hlt]; exact byte_of _ 34 (by omega) h34
            by_cases hp : rr % 2 = 0
            · have he : escd s.toList k = false := by rw [hpar, hp]; rfl
              have HN : Hid (quotedL s.toList = s.toList.take (k + 1)) := at_quote (by have := hA.out; rwa [he] at this) (by rw [HL.out]; exact hlt) h34'
              have hb : (k : Int) + 1 ≤ (s.size : Int) := by omega
              have hrem : ((rr : Int) % 2 == 0) = true := by simp; omega
              clear he hpar h34' hp
              rcases hstop with ⟨_, hd⟩ | ⟨hd, hne⟩
              all_goals
                go_wp2
                go_ret
                refine ⟨_, rfl, ?_, rfl⟩
                rw [HN.out, toList_extract]
                simp
            · have he : escd s.toList k = true := by rw [hpar, show rr % 2 = 1 by omega]; rfl
              have HN : Hid (At s.toList (escd s.toList (k + 1)) (k + 1)) := at_runs_quote h1 hA.out (by rw [HL.out]; exact hlt) he
              have hrem : ((rr : Int) % 2 == 0) = false := by rw [beq_eq_false_iff_ne]; omega
              clear he hpar h34' hp
              rcases hstop with ⟨_, hd⟩ | ⟨hd, hne⟩
              all_goals
                go_wp2
                go_roundg (s.size + 1 - (k + 1))
                case measure => have := hg.out; omega
                case rel => exact ⟨k + 1, by omega, rfl, by omega, by go_num, HN, rfl⟩
      · have HN : Hid (At s.toList (escd s.toList (k + 1)) (k + 1)) := at_runs h1 hA.out (by rw [HL.out]; exact hlt) (by rw [get_toList s k hlt]; exact byte_not _ 34 (by omega) h34)
        go_wp2
        go_roundg (s.size + 1 - (k + 1))
        case measure => have := hg.out; omega
        case rel => exact ⟨k + 1, by omega, rfl, by omega, by go_num, HN, rfl⟩
    · have HN : Hid (quotedL s.toList = s.toList) := at_end hA.out (by rw [HL.out]; omega)
      go_wp2
      go_ret
      exact ⟨_, rfl, HN.out.symm, rfl⟩
end Go.Proofs.Qxb6605186a
