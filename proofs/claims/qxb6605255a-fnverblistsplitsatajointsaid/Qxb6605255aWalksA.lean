/-
  A slice of strings that is read ('ReadsS'), one that the call itself fills ('HeldS'); the contracts of zzBytes (5, 9), verbsFit (6), toVerbs (7).
-/
import Derived.Test.Qxb6605255aRows
import Derived.Test.Qxb6605255aPlain
import Derived.WalkKit
import Derived.WalkSpells
import Derived.WalkLawsBesides
import Derived.Deep.LoopGhost
import Derived.Lib.SliceRun
namespace Go.Proofs.Qxb6605255a
open Go.RowKit
open Go.Lib (join joinTail lens)

/-- The slice value v reads as the strings ss. -/
def ReadsS (w : World) (v : Value) (ss : List ByteArray) : Prop :=
  ∃ ao cap, v = .slice ao ss.length cap ∧ ss.length ≤ cap ∧ ss.length ≤ maxLen ∧ (ao = none → ss = [] ∧ cap = 0) ∧
    (0 < ss.length → ∃ b off, ao = some ⟨b, off, none⟩ ∧ ∀ i, i < ss.length → w.cell? ⟨b, off + i, none⟩ = some (.string (ss.getD i ByteArray.empty))) ∧ ∀ s ∈ ss, s.size ≤ maxLen
/-- The strings as lists of bytes. -/
def lb (ss : List ByteArray) : List Bytes := ss.map fun s => s.data.toList
theorem lb_len (ss : List ByteArray) : (lb ss).length = ss.length := by simp [lb]
theorem lb_take (ss : List ByteArray) (k : Nat) : lb (ss.take k) = (lb ss).take k := by simp [lb]
theorem lb_get (ss : List ByteArray) (k : Nat) (h : k < ss.length) : (lb ss)[k]? = some (ss.getD k ByteArray.empty).data.toList := by simp [lb, List.getD, h]
theorem lens_step (ss : List ByteArray) (k : Nat) (h : k < ss.length) : lens (lb (ss.take (k + 1))) = lens (lb (ss.take k)) + (ss.getD k ByteArray.empty).size := by
  rw [lb_take, lb_take, Go.Lib.lens_take_succ _ k _ (lb_get ss k h)]
  simp

theorem ReadsS.below {w w' : World} {v : Value} {ss : List ByteArray} (h : ReadsS w v ss) (hb : Below w.heap.size w w') : ReadsS w' v ss := by
  obtain ⟨ao, cap, hv, hl, hm, hn, hc, hs⟩ := h
  refine ⟨ao, cap, hv, hl, hm, hn, fun hp => ?_, hs⟩
  obtain ⟨b, off, ha, hcell⟩ := hc hp
  refine ⟨b, off, ha, fun i hi => ?_⟩
  have h1 := hcell i hi
  rw [← h1]
  exact hb.cell (World.block_lt_of_cell? _ _ h1)
/-- A slice of strings that came in. -/
theorem reads_of_strings {w : World} {x : Addr} {len cap : Nat} {zs : List ByteArray} (hl : len ≤ cap) (hm : cap ≤ maxLen) (hz : zs.length = cap)
    (hc : ∀ i, i < zs.length → w.cell? (x.add i) = some (.string (zs.getD i ByteArray.empty))) (hw : ∀ s ∈ zs, s.size ≤ maxLen) :
    ∃ ss, ReadsS w (.slice (some x) len cap) ss ∧ ss.length = len := by
  have hlen : (zs.take len).length = len := by simp; omega
  refine ⟨zs.take len, ⟨some x, cap, by rw [hlen], by omega, by omega, fun h => (by simp at h), fun hp => ?_, fun s hs => hw s (List.mem_of_mem_take hs)⟩, hlen⟩
  rw [hlen] at hp
  obtain ⟨b, off, spot⟩ := x
  have hspot : spot = none := by simpa [Addr.add] using World.cell?_spot (hc 0 (by omega))
  subst hspot
  refine ⟨b, off, rfl, fun i hi => ?_⟩
  rw [hlen] at hi
  have := hc i (by omega)
  rw [Addr.add_lit] at this
  rw [this]
  simp [List.getD, hi]

/-- How zzBytes ends: with one answer or the other. -/
def AnySaid (w : World) (e : Ending) (w' : World) : Prop := ∃ b, e = .returned (.bool b) ∧ w = w'

set_option maxHeartbeats 400000 in
theorem zzb5_any (v : Value) (ss : List ByteArray) (w : World) (hR : ReadsS w v ss) : Calls Try.prog 5 #[v] w fun e w' => AnySaid w e w' := by
  obtain ⟨ao, cap, rfl, hl, hm, _, hc, hsz⟩ := hR
  unfold maxLen at hm
  by_cases hn : ss.length ≤ 1048576
  · have hd : decide ((1048576 : Int) < (ss.length : Int)) = false := decide_eq_false (by omega)
    go_enter Try.func5, Try.ntmps5
    go_wp2
    go_loopg [3, 4] ss.length (fun g z i wr => ∃ k n : Nat, Hid (k + g = ss.length) ∧ i = .int .i64 k ∧ z = .int .i64 n ∧ n ≤ 1048576 ∧ w = wr)
    case atStart => exact ⟨0, ss.length, by show _ = _; omega, rfl, rfl, hn, rfl⟩
    case round =>
      obtain ⟨k, n, hk, rfl, rfl, hnb, rfl⟩ := hrel
      by_cases hlt : k < ss.length
      · obtain ⟨b, off, rfl, hcell⟩ := hc (by omega)
        have c0 := hcell k hlt
        obtain ⟨x, hx⟩ : ∃ x, x = ss.getD k ByteArray.empty := ⟨_, rfl⟩
        have hxs : x.size ≤ maxLen := hsz x (by rw [hx]; simp [List.getD, hlt])
        unfold maxLen at hxs
        rw [← hx] at c0
        clear hcell hc hx hsz
        have hi : (k : Int) < (ss.length : Int) := by omega
        by_cases h1 : 1048576 < x.size
        · go_wp2
          go_ret
          exact ⟨_, rfl, rfl⟩
        · by_cases h2 : 1048576 < n + x.size
          · go_wp2
            go_ret
            exact ⟨_, rfl, rfl⟩
          · go_wp2
            go_roundg (gk - 1)
            case measure => have := hk.out; omega
            case rel => exact ⟨k + 1, n + x.size, by show _ = _; have := hk.out; omega, by go_num, by go_num, by omega, rfl⟩
      · go_wp2
        go_ret
        exact ⟨_, rfl, rfl⟩
  · have hd : (1048576 : Int) < (ss.length : Int) := by omega
    go_enter Try.func5, Try.ntmps5
    go_wp2
    go_ret
    exact ⟨_, rfl, rfl⟩

set_option maxHeartbeats 400000 in
theorem zzb9_any (v : Value) (ss : List ByteArray) (q : Int) (w : World) (hR : ReadsS w v ss) : Calls Try.prog 9 #[v, .int .i64 q] w fun e w' => AnySaid w e w' := by
  obtain ⟨ao, cap, rfl, hl, hm, _, hc, hsz⟩ := hR
  unfold maxLen at hm
  by_cases hn : ss.length ≤ 1048576
  · have hd : decide ((1048576 : Int) < (ss.length : Int)) = false := decide_eq_false (by omega)
    go_enter Try.func9, Try.ntmps9
    go_wp2
    go_loopg [5, 6] ss.length (fun g z i wr => ∃ k n : Nat, Hid (k + g = ss.length) ∧ i = .int .i64 k ∧ z = .int .i64 n ∧ n ≤ 1048576 ∧ w = wr)
    case atStart => exact ⟨0, ss.length, by show _ = _; omega, rfl, rfl, hn, rfl⟩
    case round =>
      obtain ⟨k, n, hk, rfl, rfl, hnb, rfl⟩ := hrel
      by_cases hlt : k < ss.length
      · obtain ⟨b, off, rfl, hcell⟩ := hc (by omega)
        have c0 := hcell k hlt
        obtain ⟨x, hx⟩ : ∃ x, x = ss.getD k ByteArray.empty := ⟨_, rfl⟩
        have hxs : x.size ≤ maxLen := hsz x (by rw [hx]; simp [List.getD, hlt])
        unfold maxLen at hxs
        rw [← hx] at c0
        clear hcell hc hx hsz
        have hi : (k : Int) < (ss.length : Int) := by omega
        by_cases h1 : 1048576 < x.size
        · go_wp2
          go_ret
          exact ⟨_, rfl, rfl⟩
        · by_cases h2 : 1048576 < n + x.size
          · go_wp2
            go_ret
            exact ⟨_, rfl, rfl⟩
          · go_wp2
            go_roundg (gk - 1)
            case measure => have := hk.out; omega
            case rel => exact ⟨k + 1, n + x.size, by show _ = _; have := hk.out; omega, by go_num, by go_num, by omega, rfl⟩
      · go_wp2
        go_ret
        exact ⟨_, rfl, rfl⟩
  · have hd : (1048576 : Int) < (ss.length : Int) := by omega
    go_enter Try.func9, Try.ntmps9
    go_wp2
    go_ret
    exact ⟨_, rfl, rfl⟩

/-- How verbsFit ends: it says true only where the list is small. -/
def FitSaid (ss : List ByteArray) (w : World) (e : Ending) (w' : World) : Prop :=
  ∃ b, e = .returned (.bool b) ∧ w = w' ∧ (b = true → ss.length ≤ 65536 ∧ lens (lb ss) ≤ 1048576)

set_option maxHeartbeats 400000 in
theorem fit_any (v : Value) (ss : List ByteArray) (w : World) (hR : ReadsS w v ss) : Calls Try.prog 6 #[v] w fun e w' => FitSaid ss w e w' := by
  obtain ⟨ao, cap, rfl, hl, hm, _, hc, hsz⟩ := hR
  unfold maxLen at hm
  by_cases hn : ss.length ≤ 65536
  · have hd : decide ((65536 : Int) < (ss.length : Int)) = false := decide_eq_false (by omega)
    go_enter Try.func6, Try.ntmps6
    go_wp2
    go_loopg [5, 6] ss.length (fun g z i wr => ∃ k n : Nat, Hid (k + g = ss.length) ∧ i = .int .i64 k ∧ z = .int .i64 n ∧ n + 16 * ss.length ≤ 1048576 ∧ Hid (lens (lb (ss.take k)) = n) ∧ w = wr)
    case atStart => exact ⟨0, 0, by show _ = _; omega, rfl, rfl, by omega, by simp [lb, lens, Hid], rfl⟩
    case round =>
      obtain ⟨k, n, hk, rfl, rfl, hnb, hsum, rfl⟩ := hrel
      by_cases hlt : k < ss.length
      · obtain ⟨b, off, rfl, hcell⟩ := hc (by omega)
        have c0 := hcell k hlt
        have hst := lens_step ss k hlt
        obtain ⟨x, hx⟩ : ∃ x, x = ss.getD k ByteArray.empty := ⟨_, rfl⟩
        have hxs : x.size ≤ maxLen := hsz x (by rw [hx]; simp [List.getD, hlt])
        unfold maxLen at hxs
        rw [← hx] at c0 hst
        have HST : Hid (lens (lb (ss.take (k + 1))) = n + x.size) := by show _ = _; rw [hst, hsum.out]
        clear hcell hc hx hsz hst
        have hi : (k : Int) < (ss.length : Int) := by omega
        by_cases h1 : n + x.size + 16 * ss.length ≤ 1048576
        · go_wp2
          go_roundg (gk - 1)
          case measure => have := hk.out; omega
          case rel => exact ⟨k + 1, n + x.size, by show _ = _; have := hk.out; omega, by go_num, by go_num, by omega, HST, rfl⟩
        · go_wp2
          go_ret
          exact ⟨_, rfl, rfl, fun h => by cases h⟩
      · go_wp2
        go_ret
        refine ⟨_, rfl, rfl, fun _ => ⟨hn, ?_⟩⟩
        have := hsum.out
        rw [List.take_of_length_le (by omega)] at this
        omega
  · have hd : (65536 : Int) < (ss.length : Int) := by omega
    go_enter Try.func6, Try.ntmps6
    go_wp2
    go_ret
    exact ⟨_, rfl, rfl, fun h => by cases h⟩

end Go.Proofs.Qxb6605255a
