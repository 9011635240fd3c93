/-
  THE WALKS of closingBrace, zzB1SkipQuoted, zzB1BraceModel.
-/
import Derived.Test.Qxb6600428aModsProg
import Derived.Test.Qxb6600428aModsPlain
import Derived.WalkKit
import Derived.WalkSpells
import Derived.WalkLawsBesides
namespace Go.Proofs.Qxb6600428aMods
open Go.RowKit Plain

theorem ret_int {k : IntKind} {a b : Int} (h : a = b) : Ending.returned (.int k a) = .returned (.int k b) := by rw [h]

/-- The scan of a string. -/
def sc (s : ByteArray) (q : Int) (k : Nat) : Int := scan s.data.toList q k

theorem sc_end (s : ByteArray) (q : Int) (k : Nat) (h : s.size ≤ k) : sc s q k = -1 := scan_end _ _ _ (by simpa using h)
theorem sc_esc (s : ByteArray) (q : Int) (k : Nat) (h : k < s.size) (hq : ¬ q = 0) (hc : (s[k].toNat : Int) = 92) : sc s q k = sc s q (k + 2) := scan_esc _ _ _ (by simpa using h) hq hc
theorem sc_close (s : ByteArray) (q : Int) (k : Nat) (h : k < s.size) (hq : ¬ q = 0) (h1 : ¬ (s[k].toNat : Int) = 92) (hc : (s[k].toNat : Int) = q) : sc s q k = sc s 0 (k + 1) := scan_close _ _ _ (by simpa using h) hq h1 hc
theorem sc_inq (s : ByteArray) (q : Int) (k : Nat) (h : k < s.size) (hq : ¬ q = 0) (h1 : ¬ (s[k].toNat : Int) = 92) (hc : ¬ (s[k].toNat : Int) = q) : sc s q k = sc s q (k + 1) := scan_inq _ _ _ (by simpa using h) hq h1 hc
theorem sc_open (s : ByteArray) (k : Nat) (h : k < s.size) (hc : (s[k].toNat : Int) = 39 ∨ (s[k].toNat : Int) = 34) : sc s 0 k = sc s (s[k].toNat : Int) (k + 1) := scan_open _ _ (by simpa using h) hc
theorem sc_brace (s : ByteArray) (k : Nat) (h : k < s.size) (hc : (s[k].toNat : Int) = 125) : sc s 0 k = k := scan_brace _ _ (by simpa using h) hc
theorem sc_plain (s : ByteArray) (k : Nat) (h : k < s.size) (h1 : ¬ (s[k].toNat : Int) = 39) (h2 : ¬ (s[k].toNat : Int) = 34) (h3 : ¬ (s[k].toNat : Int) = 125) : sc s 0 k = sc s 0 (k + 1) := scan_plain _ _ (by simpa using h) h1 h2 h3

set_option maxHeartbeats 400000 in
theorem closing_any (s : ByteArray) (w : World) (hs : s.size ≤ 1099511627776) :
    Calls Trym.prog 18 #[.string s] w fun e w' => e = .returned (.int .i64 (sc s 0 1)) ∧ w' = w := by
  go_enter Trym.func18, Trym.ntmps18
  go_wp2
  go_loop [3, 4] (fun q i => ∃ (k : Nat) (c : Int), k ≤ s.size + 1 ∧ i = .int .i64 k ∧ q = .int .u8 c ∧ Hid (sc s c k = sc s 0 1)) (fun _ i => s.size + 1 - (intOf i).toNat)
  case atStart => exact ⟨1, 0, by omega, rfl, rfl, rfl⟩
  case round =>
    obtain ⟨k, c, hk, rfl, rfl, HR⟩ := hrel
    by_cases hlt : k < s.size
    · go_wp2
      · have h0 : c = 0 := by assumption
        have h1 : (s[k].toNat : Int) = 39 := by assumption
        go_round
        case rel => exact ⟨k + 1, 39, by omega, by go_num, rfl, by rw [← HR.out, h0, sc_open s k hlt (.inl h1), h1]; rfl⟩
        case measure => simp [intOf]; omega
      · have h0 : c = 0 := by assumption
        have h1 : (s[k].toNat : Int) = 39 ∨ (s[k].toNat : Int) = 34 := by
          have h : ((s[k].toNat : Int) == 39) = true ∨ ((s[k].toNat : Int) == 34) = true := by assumption
          simpa using h
        go_round
        case rel => exact ⟨k + 1, _, by omega, by go_num, rfl, by rw [← HR.out, h0, sc_open s k hlt h1]; rfl⟩
        case measure => simp [intOf]; omega
      · have h0 : c = 0 := by assumption
        have h1 : (s[k].toNat : Int) = 125 := by
          have h : ((s[k].toNat : Int) == 125) = true := by assumption
          simpa using h
        go_ret
        exact ⟨ret_int (by rw [← HR.out, h0, sc_brace s k hlt h1]), rfl⟩
      · have h0 : c = 0 := by assumption
        have h1 : ((s[k].toNat : Int) == 39) = false ∧ ((s[k].toNat : Int) == 34) = false := by assumption
        have h2 : ((s[k].toNat : Int) == 125) = false := by assumption
        go_round
        case rel => exact ⟨k + 1, 0, by omega, by go_num, rfl, by rw [← HR.out, h0, sc_plain s k hlt (by simpa using h1.1) (by simpa using h1.2) (by simpa using h2)]; rfl⟩
        case measure => simp [intOf]; omega
      · have h0 : ¬ c = 0 := by assumption
        have h1 : (c != 0) = true ∧ ((s[k].toNat : Int) == 92) = true := by assumption
        go_round
        case rel => exact ⟨k + 2, c, by omega, by go_num, rfl, by rw [← HR.out, sc_esc s c k hlt h0 (by simpa using h1.2)]; rfl⟩
        case measure => simp [intOf]; omega
      · have h0 : ¬ c = 0 := by assumption
        have h1 : (c != 0) = false ∨ ((s[k].toNat : Int) == 92) = false := by assumption
        have h2 : (c != 0) = true ∧ ((s[k].toNat : Int) == c) = true := by assumption
        go_round
        case rel => exact ⟨k + 1, 0, by omega, by go_num, rfl, by rw [← HR.out, sc_close s c k hlt h0 (by simpa [h0] using h1) (by simpa using h2.2)]; rfl⟩
        case measure => simp [intOf]; omega
      · have h0 : ¬ c = 0 := by assumption
        have h1 : (c != 0) = false ∨ ((s[k].toNat : Int) == 92) = false := by assumption
        have h2 : (c != 0) = false ∨ ((s[k].toNat : Int) == c) = false := by assumption
        go_round
        case rel => exact ⟨k + 1, c, by omega, by go_num, rfl, by rw [← HR.out, sc_inq s c k hlt h0 (by simpa [h0] using h1) (by simpa [h0] using h2)]; rfl⟩
        case measure => simp [intOf]; omega
    · go_wp2
      go_ret
      exact ⟨ret_int (by rw [← HR.out, sc_end s _ _ (by omega)]), rfl⟩

/-- 'ZZClosingBrace' hands it on. -/
theorem zzclosing_any (s : ByteArray) (w : World) (hs : s.size ≤ 1099511627776) :
    Calls Trym.prog 9 #[.string s] w fun e w' => e = .returned (.int .i64 (sc s 0 1)) ∧ w' = w := by
  go_enter Trym.func9, Trym.ntmps9
  go_wp2_with (go_at_call 18; refine (closing_any _ _ hs).mono ?_; rintro e w' ⟨rfl, rfl⟩)
  go_ret
  exact ⟨rfl, rfl⟩

set_option maxHeartbeats 400000 in
theorem skip_any (s : ByteArray) (o : Nat) (w : World) (hs : s.size ≤ 1099511627776) (ho : o < s.size) (hq : (s[o].toNat : Int) = 39 ∨ (s[o].toNat : Int) = 34) :
    Calls Trym.prog 19 #[.string s, .int .i64 o] w fun e w' => ∃ j : Nat, e = .returned (.int .i64 j) ∧ o < j ∧ j ≤ s.size ∧ sc s 0 j = sc s 0 o ∧ w' = w := by
  have HO : Hid (sc s (s[o].toNat : Int) (o + 1) = sc s 0 o) := (sc_open s o ho hq).symm
  have HQ : Hid ((s[o].toNat : Int) = 39 ∨ (s[o].toNat : Int) = 34) := hq
  clear hq
  go_enter Trym.func19, Trym.ntmps19
  go_wp2
  go_loop [6] (fun i => ∃ (k : Nat), o < k ∧ k ≤ s.size + 1 ∧ i = .int .i64 k ∧ Hid (sc s (s[o].toNat : Int) k = sc s 0 o)) (fun i => s.size + 1 - (intOf i).toNat)
  case atStart => exact ⟨o + 1, by omega, by omega, by go_num, HO⟩
  case round =>
    obtain ⟨k, hok, hk, rfl, HR⟩ := hrel
    by_cases hlt : k < s.size
    · have hq0 : Hid (¬ (s[o].toNat : Int) = 0) := by have := HQ.out; show ¬ (s[o].toNat : Int) = 0; omega
      go_wp2
      · have h1 : ((s[k].toNat : Int) == 92) = true := by assumption
        go_round
        case rel => exact ⟨k + 2, by omega, by omega, by go_num, by rw [← HR.out, sc_esc s _ k hlt hq0.out (by simpa using h1)]; rfl⟩
        case measure => simp [intOf]; omega
      · have h1 : ((s[k].toNat : Int) == 92) = false := by assumption
        have h2 : ((s[k].toNat : Int) == (s[o].toNat : Int)) = true := by assumption
        go_ret
        exact ⟨k + 1, ret_int (by omega), by omega, by omega, by rw [← HR.out, sc_close s _ k hlt hq0.out (by simpa using h1) (by simpa using h2)], rfl⟩
      · have h1 : ((s[k].toNat : Int) == 92) = false := by assumption
        have h2 : ((s[k].toNat : Int) == (s[o].toNat : Int)) = false := by assumption
        go_round
        case rel => exact ⟨k + 1, by omega, by omega, by go_num, by rw [← HR.out, sc_inq s _ k hlt hq0.out (by simpa using h1) (by simpa using h2)]; rfl⟩
        case measure => simp [intOf]; omega
    · go_wp2
      go_ret
      exact ⟨s.size, rfl, ho, Nat.le_refl _, by rw [sc_end s _ _ (Nat.le_refl _), ← HR.out, sc_end s _ _ (by omega)], rfl⟩

set_option maxHeartbeats 400000 in
theorem model_any (s : ByteArray) (w : World) (hs : s.size ≤ 1099511627776) :
    Calls Trym.prog 10 #[.string s] w fun e w' => e = .returned (.int .i64 (sc s 0 1)) ∧ w' = w := by
  go_enter Trym.func10, Trym.ntmps10
  go_wp2
  go_loop [3] (fun i => ∃ (k : Nat), k ≤ s.size + 1 ∧ i = .int .i64 k ∧ Hid (sc s 0 k = sc s 0 1)) (fun i => s.size + 1 - (intOf i).toNat)
  case atStart => exact ⟨1, by omega, by go_num, rfl⟩
  case round =>
    obtain ⟨k, hk, rfl, HR⟩ := hrel
    by_cases hlt : k < s.size
    · by_cases hq : (s[k].toNat : Int) = 39 ∨ (s[k].toNat : Int) = 34
      · have HQ : Hid ((s[k].toNat : Int) = 39 ∨ (s[k].toNat : Int) = 34) := hq
        have h3 : ((s[k].toNat : Int) == 125) = false := by simp; omega
        rcases hq with hq | hq
        all_goals
          go_wp2_with (go_at_call 19; refine (skip_any s k w hs hlt HQ.out).mono ?_; rintro e w' ⟨j, rfl, hj1, hj2, hj3, rfl⟩)
          go_round
          case rel => exact ⟨j, by omega, by go_num, by rw [hj3, HR.out]; rfl⟩
          case measure => simp [intOf]; omega
      · have h1 : ((s[k].toNat : Int) == 39) = false := by simp; omega
        have h2 : ((s[k].toNat : Int) == 34) = false := by simp; omega
        have HQ : Hid (¬ ((s[k].toNat : Int) = 39 ∨ (s[k].toNat : Int) = 34)) := hq
        clear hq
        go_wp2_with fail
        · have h3 : ((s[k].toNat : Int) == 125) = true := by assumption
          go_ret
          exact ⟨ret_int (by rw [← HR.out, sc_brace s k hlt (by simpa using h3)]), rfl⟩
        · have h3 : ((s[k].toNat : Int) == 125) = false := by assumption
          have h4 := HQ.out
          go_round
          case rel => exact ⟨k + 1, by omega, by go_num, by rw [← HR.out, sc_plain s k hlt (by omega) (by omega) (by simpa using h3)]; rfl⟩
          case measure => simp [intOf]; omega
    · go_wp2_with fail
      go_ret
      exact ⟨ret_int (by rw [← HR.out, sc_end s _ _ (by omega)]), rfl⟩

/-- 'zzBytes_FnClosingBraceMatchesTokenModel'. -/
theorem bytes8_any (s : ByteArray) (w : World) (hs : s.size ≤ maxLen) :
    Calls Trym.prog 8 #[.string s] w fun e w' => ∃ b : Bool, e = .returned (.bool b) ∧ (b = true → s.size ≤ 1048576) ∧ w' = w := by
  unfold maxLen at hs
  by_cases h : s.size ≤ 1048576
  · go_enter Trym.func8, Trym.ntmps8
    go_wp2
    go_ret
    exact ⟨true, rfl, fun _ => h, rfl⟩
  · go_enter Trym.func8, Trym.ntmps8
    go_wp2
    go_ret
    exact ⟨false, rfl, fun h => (by cases h), rfl⟩

/-- 'FnClosingBraceMatchesTokenModel'. -/
theorem law3_any (s : ByteArray) (w : World) (hs : s.size ≤ maxLen) :
    Calls Trym.prog 3 #[.string s] w fun e w' => e = .returned (.bool true) ∧ w' = w := by
  by_cases h : s.size ≤ 1048576
  · go_enter Trym.func3, Trym.ntmps3
    go_wp2_with (first | (go_at_call 8; refine (bytes8_any s _ hs).mono ?_; rintro e w' ⟨b, rfl, hb, rfl⟩; cases b) | (go_at_call 9; refine (zzclosing_any s _ (by omega)).mono ?_; rintro e w' ⟨rfl, rfl⟩) | (go_at_call 10; refine (model_any s _ (by omega)).mono ?_; rintro e w' ⟨rfl, rfl⟩))
    · go_ret
      exact ⟨rfl, rfl⟩
    · go_ret
      exact ⟨rfl, rfl⟩
  · go_enter Trym.func3, Trym.ntmps3
    go_wp2_with (first | (go_at_call 8; refine (bytes8_any s _ hs).mono ?_; rintro e w' ⟨b, rfl, hb, rfl⟩; cases b))
    · go_ret
      exact ⟨rfl, rfl⟩
    · exact absurd (hb (by simp)) h
end Go.Proofs.Qxb6600428aMods
