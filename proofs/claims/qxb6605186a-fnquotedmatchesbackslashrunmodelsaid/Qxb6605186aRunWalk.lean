/-
  The walk of FnQuotedMatchesBackslashRunModel (3), with zzBytes_FnQuotedMatchesBackslashRunModel (5).
-/
import Derived.Test.Qxb6605186aWalksA
namespace Go.Proofs.Qxb6605186a
open Go.RowKit

theorem zzb5_yes (s : ByteArray) (w : World) (h : s.size ≤ 1048576) :
    Calls Try.prog 5 #[.string s] w fun e w' => e = .returned (.bool true) ∧ w = w' := by
  go_enter Try.func5, Try.ntmps5
  go_wp2
  go_ret
  exact ⟨rfl, rfl⟩
theorem zzb5_no (s : ByteArray) (w : World) (h : ¬ s.size ≤ 1048576) :
    Calls Try.prog 5 #[.string s] w fun e w' => e = .returned (.bool false) ∧ w = w' := by
  go_enter Try.func5, Try.ntmps5
  go_wp2
  go_ret
  exact ⟨rfl, rfl⟩

theorem run_walk (s : ByteArray) (w : World) :
    Calls Try.prog 3 #[.string s] w fun e w' => e = .returned (.bool true) ∧ Grown w w' := by
  by_cases h : s.size ≤ 1048576
  · go_enter Try.func3, Try.ntmps3
    go_wp2_with (go_at_call 5; refine (zzb5_yes _ _ h).mono ?_; rintro e w' ⟨rfl, rfl⟩)
    refine (zzquoted_any s w (by omega)).mono ?_
    rintro e w' ⟨t1, rfl, ht1, rfl⟩
    have H1 : Hid (t1.toList = quotedL s.toList) := ht1
    clear ht1
    go_wp2_with fail
    refine (runs_any s w (by omega)).mono ?_
    rintro e w' ⟨t2, rfl, ht2, rfl⟩
    have heq : (t1.toList == t2.toList) = true := by rw [H1.out, ht2]; exact BEq.rfl
    clear ht2
    go_wp2
    go_ret
    exact ⟨rfl, Grown.refl _⟩
  · go_enter Try.func3, Try.ntmps3
    go_wp2_with (go_at_call 5; refine (zzb5_no _ _ h).mono ?_; rintro e w' ⟨rfl, rfl⟩)
    go_ret
    exact ⟨rfl, Grown.refl _⟩
end Go.Proofs.Qxb6605186a
