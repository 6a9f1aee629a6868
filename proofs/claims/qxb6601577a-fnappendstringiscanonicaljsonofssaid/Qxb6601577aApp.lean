import Derived.Test.Qxb6601577aBase
import Derived.Laws.BitsAllLaws
namespace Go.Proofs.Qxb6601577a
open Go.RowKit

theorem app_step {base : Nat} {w0 w : World} {v : Value} {zs L new : List Int} {s : ByteArray} {k : Nat} (hlt : k < s.size) (hL : Hid (L = zs ++ 34 :: encL ((bs s).take k))) (he : esc ((s[k]).toNat : Int) = new) (h : Held base w0 w v (L ++ new)) :
    Held base w0 w v (zs ++ 34 :: encL ((bs s).take (k + 1))) := by
  rw [bs_take_succ s k hlt, encL_snoc, he]
  rw [hL.out] at h
  simpa using h
theorem app_end {base : Nat} {w0 w : World} {v : Value} {zs L : List Int} {s : ByteArray} {k : Nat} (hk : k ≤ s.size) (hlt : ¬ k < s.size) (hL : Hid (L = zs ++ 34 :: encL ((bs s).take k))) (h : Held base w0 w v (L ++ [34])) :
    Held base w0 w v (zs ++ quo (bs s)) := by
  obtain rfl : k = s.size := by omega
  rw [hL.out, bs_take_all] at h
  simpa [quo] using h
theorem hex_at (x : Int) (h0 : 0 ≤ x) (h1 : x < 16) (hh : x.toNat < (⟨#[48, 49, 50, 51, 52, 53, 54, 55, 56, 57, 97, 98, 99, 100, 101, 102]⟩ : ByteArray).size) :
    ((((⟨#[48, 49, 50, 51, 52, 53, 54, 55, 56, 57, 97, 98, 99, 100, 101, 102]⟩ : ByteArray)[x.toNat]'hh).toNat : Nat) : Int) = hexd x := by
  have key : ∀ n : Fin 16, ((((⟨#[48, 49, 50, 51, 52, 53, 54, 55, 56, 57, 97, 98, 99, 100, 101, 102]⟩ : ByteArray)[n.val]'n.isLt).toNat : Nat) : Int) = hexd (n.val : Int) := by decide
  have := key ⟨x.toNat, by omega⟩
  simp only [Int.toNat_of_nonneg h0] at this
  exact this
theorem and_15 (n : Nat) (h : n < 256) : bits .and .u8 (n : Int) 15 = (n : Int) % 16 := by
  have := u8_and_nat n 15 h (by omega)
  rw [show ((15 : Nat) : Int) = 15 from rfl] at this
  rw [this, nat_mask4]
  omega

set_option maxHeartbeats 1600000 in
theorem app_any (base : Nat) (v : Value) (zs : List Int) (s : ByteArray) (w0 w : World) (hH : Held base w0 w v zs) (hz : zs.length ≤ 10000000) (hs : s.size ≤ 2097152) :
    Calls Try.prog 13 #[v, .string s] w fun e w' => ∃ v', e = .returned v' ∧ Held base w0 w' v' (zs ++ quo (bs s)) := by
  obtain ⟨i0, hi, hz0, hz1, hz2⟩ := info_parts info5
  go_enter Try.func13, Try.ntmps13
  go_wp2_with (at_builtin; refine wpList_append_own _ rfl _ _ 22 rfl base 5 i0 (.int .u8 0) 1 1 Try.underlying22 hi hz0 hz1 hz2 rfl (by decide) _ _ _ rfl (hH.own _) ⟨w.heap.size, 0, none⟩ 1 1 (cells8 [34]) rfl rfl (news_at _ _ _) (cells8_one _) ?c3 ?c4 ?c5 ?_)
  case c3 => unfold maxLen; omega
  case c4 => omega
  case c5 => have := hH.le; simp; omega
  intro v1 w1 hown1 hg1 _
  have H1 := hH.next [34] hown1 hg1
  clear hown1 hg1
  go_wp2
  go_loopw [0, 5] (fun v i wr => ∃ k : Nat, k ≤ s.size ∧ i = .int .i64 k ∧ Held base w0 wr v (zs ++ 34 :: encL ((bs s).take k))) (fun _ i _ => s.size - (intOf i).toNat)
  case atStart => exact ⟨0, Nat.zero_le _, rfl, by simpa [encL] using H1⟩
  case round =>
    obtain ⟨k, hk, rfl, hr⟩ := hrel
    clear H1 hH
    obtain ⟨L, hL⟩ : ∃ L, L = zs ++ 34 :: encL ((bs s).take k) := ⟨_, rfl⟩
    rw [← hL] at hr
    have hLn : L.length ≤ 30000000 := by
      have h1 := encL_len ((bs s).take k)
      have h2 : ((bs s).take k).length ≤ k := List.length_take_le _ _
      rw [hL]; simp; omega
    have HL : Hid (L = zs ++ 34 :: encL ((bs s).take k)) := hL
    clear hL
    by_cases hlt : k < s.size
    · by_cases h34 : ((s[k]).toNat : Int) = 34
      · have he : Hid (esc ((s[k]).toNat : Int) = [92, 34]) := by show _ = _; rw [h34]; rfl
        go_wp2_with (at_builtin; refine wpList_append_own _ rfl _ _ 22 rfl base 5 i0 (.int .u8 0) 1 1 Try.underlying22 hi hz0 hz1 hz2 rfl (by decide) _ _ _ rfl (hr.own _) ⟨wr.heap.size, 0, none⟩ 2 2 (cells8 [92, 34]) rfl rfl (news_at _ _ _) (cells8_one _) ?c3 ?c4 ?c5 ?_)
        case c3 => unfold maxLen; omega
        case c4 => omega
        case c5 => have := hr.le; simp; omega
        intro v1 w1 hown1 hg1 _
        have R := hr.next [92, 34] hown1 hg1
        clear hown1 hg1
        go_wp2
        go_roundw
        case rel => exact ⟨k + 1, by omega, by go_num, app_step hlt HL he.out R⟩
        case measure => simp [intOf]; omega
      · by_cases h92 : ((s[k]).toNat : Int) = 92
        · have he : Hid (esc ((s[k]).toNat : Int) = [92, 92]) := by show _ = _; rw [h92]; rfl
          go_wp2_with (at_builtin; refine wpList_append_own _ rfl _ _ 22 rfl base 5 i0 (.int .u8 0) 1 1 Try.underlying22 hi hz0 hz1 hz2 rfl (by decide) _ _ _ rfl (hr.own _) ⟨wr.heap.size, 0, none⟩ 2 2 (cells8 [92, 92]) rfl rfl (news_at _ _ _) (cells8_one _) ?c3 ?c4 ?c5 ?_)
          case c3 => unfold maxLen; omega
          case c4 => omega
          case c5 => have := hr.le; simp; omega
          intro v1 w1 hown1 hg1 _
          have R := hr.next [92, 92] hown1 hg1
          clear hown1 hg1
          go_wp2
          go_roundw
          case rel => exact ⟨k + 1, by omega, by go_num, app_step hlt HL he.out R⟩
          case measure => simp [intOf]; omega
        · by_cases h8 : ((s[k]).toNat : Int) = 8
          · have he : Hid (esc ((s[k]).toNat : Int) = [92, 98]) := by show _ = _; rw [h8]; rfl
            go_wp2_with (at_builtin; refine wpList_append_own _ rfl _ _ 22 rfl base 5 i0 (.int .u8 0) 1 1 Try.underlying22 hi hz0 hz1 hz2 rfl (by decide) _ _ _ rfl (hr.own _) ⟨wr.heap.size, 0, none⟩ 2 2 (cells8 [92, 98]) rfl rfl (news_at _ _ _) (cells8_one _) ?c3 ?c4 ?c5 ?_)
            case c3 => unfold maxLen; omega
            case c4 => omega
            case c5 => have := hr.le; simp; omega
            intro v1 w1 hown1 hg1 _
            have R := hr.next [92, 98] hown1 hg1
            clear hown1 hg1
            go_wp2
            go_roundw
            case rel => exact ⟨k + 1, by omega, by go_num, app_step hlt HL he.out R⟩
            case measure => simp [intOf]; omega
          · by_cases h9 : ((s[k]).toNat : Int) = 9
            · have he : Hid (esc ((s[k]).toNat : Int) = [92, 116]) := by show _ = _; rw [h9]; rfl
              go_wp2_with (at_builtin; refine wpList_append_own _ rfl _ _ 22 rfl base 5 i0 (.int .u8 0) 1 1 Try.underlying22 hi hz0 hz1 hz2 rfl (by decide) _ _ _ rfl (hr.own _) ⟨wr.heap.size, 0, none⟩ 2 2 (cells8 [92, 116]) rfl rfl (news_at _ _ _) (cells8_one _) ?c3 ?c4 ?c5 ?_)
              case c3 => unfold maxLen; omega
              case c4 => omega
              case c5 => have := hr.le; simp; omega
              intro v1 w1 hown1 hg1 _
              have R := hr.next [92, 116] hown1 hg1
              clear hown1 hg1
              go_wp2
              go_roundw
              case rel => exact ⟨k + 1, by omega, by go_num, app_step hlt HL he.out R⟩
              case measure => simp [intOf]; omega
            · by_cases h10 : ((s[k]).toNat : Int) = 10
              · have he : Hid (esc ((s[k]).toNat : Int) = [92, 110]) := by show _ = _; rw [h10]; rfl
                go_wp2_with (at_builtin; refine wpList_append_own _ rfl _ _ 22 rfl base 5 i0 (.int .u8 0) 1 1 Try.underlying22 hi hz0 hz1 hz2 rfl (by decide) _ _ _ rfl (hr.own _) ⟨wr.heap.size, 0, none⟩ 2 2 (cells8 [92, 110]) rfl rfl (news_at _ _ _) (cells8_one _) ?c3 ?c4 ?c5 ?_)
                case c3 => unfold maxLen; omega
                case c4 => omega
                case c5 => have := hr.le; simp; omega
                intro v1 w1 hown1 hg1 _
                have R := hr.next [92, 110] hown1 hg1
                clear hown1 hg1
                go_wp2
                go_roundw
                case rel => exact ⟨k + 1, by omega, by go_num, app_step hlt HL he.out R⟩
                case measure => simp [intOf]; omega
              · by_cases h12 : ((s[k]).toNat : Int) = 12
                · have he : Hid (esc ((s[k]).toNat : Int) = [92, 102]) := by show _ = _; rw [h12]; rfl
                  go_wp2_with (at_builtin; refine wpList_append_own _ rfl _ _ 22 rfl base 5 i0 (.int .u8 0) 1 1 Try.underlying22 hi hz0 hz1 hz2 rfl (by decide) _ _ _ rfl (hr.own _) ⟨wr.heap.size, 0, none⟩ 2 2 (cells8 [92, 102]) rfl rfl (news_at _ _ _) (cells8_one _) ?c3 ?c4 ?c5 ?_)
                  case c3 => unfold maxLen; omega
                  case c4 => omega
                  case c5 => have := hr.le; simp; omega
                  intro v1 w1 hown1 hg1 _
                  have R := hr.next [92, 102] hown1 hg1
                  clear hown1 hg1
                  go_wp2
                  go_roundw
                  case rel => exact ⟨k + 1, by omega, by go_num, app_step hlt HL he.out R⟩
                  case measure => simp [intOf]; omega
                · by_cases h13 : ((s[k]).toNat : Int) = 13
                  · have he : Hid (esc ((s[k]).toNat : Int) = [92, 114]) := by show _ = _; rw [h13]; rfl
                    go_wp2_with (at_builtin; refine wpList_append_own _ rfl _ _ 22 rfl base 5 i0 (.int .u8 0) 1 1 Try.underlying22 hi hz0 hz1 hz2 rfl (by decide) _ _ _ rfl (hr.own _) ⟨wr.heap.size, 0, none⟩ 2 2 (cells8 [92, 114]) rfl rfl (news_at _ _ _) (cells8_one _) ?c3 ?c4 ?c5 ?_)
                    case c3 => unfold maxLen; omega
                    case c4 => omega
                    case c5 => have := hr.le; simp; omega
                    intro v1 w1 hown1 hg1 _
                    have R := hr.next [92, 114] hown1 hg1
                    clear hown1 hg1
                    go_wp2
                    go_roundw
                    case rel => exact ⟨k + 1, by omega, by go_num, app_step hlt HL he.out R⟩
                    case measure => simp [intOf]; omega
                  · have hb : ((s[k]).toNat : Int) ≤ 255 := by have := (s[k]).toNat_lt; omega
                    by_cases h32 : ((s[k]).toNat : Int) < 32
                    · have he : Hid (esc ((s[k]).toNat : Int) = [92, 117, 48, 48, hexd (((s[k]).toNat : Int) / 16), hexd (((s[k]).toNat : Int) % 16)]) := by show _ = _; unfold esc; simp only [h34, h92, h8, h9, h10, h12, h13, h32, or_self, if_false, if_true]
                      have hq0 : (0 : Int) ≤ ((s[k]).toNat : Int) / 16 := by omega
                      have hq1 : ((s[k]).toNat : Int) / 16 < 16 := by omega
                      have hr0 : (0 : Int) ≤ ((s[k]).toNat : Int) % 16 := by omega
                      have hr1 : ((s[k]).toNat : Int) % 16 < 16 := by omega
                      have hand := and_15 (s[k]).toNat (by omega)
                      have hX := hex_at _ hq0 hq1
                      have hY := hex_at _ hr0 hr1
                      go_wp2_with fail
                      go_region_law (refine step_append_own rfl (.tmp 22) (.tmp 29) 22 rfl base 5 i0 (.int .u8 0) 1 1 Try.underlying22 hi hz0 hz1 hz2 rfl (by decide) _ _ _ rfl (hr.drew.own _) ⟨wr.heap.size, 0, none⟩ 6 6 (cells8 [92, 117, 48, 48, hexd (((s[k]).toNat : Int) / 16), hexd (((s[k]).toNat : Int) % 16)]) rfl rfl (news_at _ _ _) (cells8_one _) (by unfold maxLen; omega) (by omega) (by have := hr.le; simp; omega) ?_; intro v1 w1 hown1 hg1)
                      all_goals
                        have R := hr.drew.next [92, 117, 48, 48, hexd (((s[k]).toNat : Int) / 16), hexd (((s[k]).toNat : Int) % 16)] hown1 hg1
                        clear hown1 hg1 hX hY hand hq0 hq1 hr0 hr1
                        go_wp2
                        go_roundw
                        case rel => exact ⟨k + 1, by omega, by go_num, app_step hlt HL he.out R⟩
                        case measure => simp [intOf]; omega
                    · have he : Hid (esc ((s[k]).toNat : Int) = [((s[k]).toNat : Int)]) := by show _ = _; unfold esc; simp only [h34, h92, h8, h9, h10, h12, h13, h32, or_self, if_false]
                      go_wp2_with (at_builtin; refine wpList_append_own _ rfl _ _ 22 rfl base 5 i0 (.int .u8 0) 1 1 Try.underlying22 hi hz0 hz1 hz2 rfl (by decide) _ _ _ rfl (hr.own _) ⟨wr.heap.size, 0, none⟩ 1 1 (cells8 [((s[k]).toNat : Int)]) rfl rfl (news_at _ _ _) (cells8_one _) ?c3 ?c4 ?c5 ?_)
                      case c3 => unfold maxLen; omega
                      case c4 => omega
                      case c5 => have := hr.le; simp; omega
                      intro v1 w1 hown1 hg1 _
                      have R := hr.next [((s[k]).toNat : Int)] hown1 hg1
                      clear hown1 hg1
                      go_wp2
                      go_roundw
                      case rel => exact ⟨k + 1, by omega, by go_num, app_step hlt HL he.out R⟩
                      case measure => simp [intOf]; omega
    · go_wp2_with (at_builtin; refine wpList_append_own _ rfl _ _ 22 rfl base 5 i0 (.int .u8 0) 1 1 Try.underlying22 hi hz0 hz1 hz2 rfl (by decide) _ _ _ rfl (hr.own _) ⟨wr.heap.size, 0, none⟩ 1 1 (cells8 [34]) rfl rfl (news_at _ _ _) (cells8_one _) ?c3 ?c4 ?c5 ?_)
      case c3 => unfold maxLen; omega
      case c4 => omega
      case c5 => have := hr.le; simp; omega
      intro v1 w1 hown1 hg1 _
      have R := hr.next [34] hown1 hg1
      clear hown1 hg1
      go_wp2
      go_ret
      exact ⟨_, rfl, app_end hk hlt HL R⟩
end Go.Proofs.Qxb6601577a
