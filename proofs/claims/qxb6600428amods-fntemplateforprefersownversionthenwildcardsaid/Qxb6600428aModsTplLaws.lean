/-
  THE WALKS of FnTemplateForPrefersOwnVersionThenWildcard, FnTemplateForShiftsPastAnUnrelatedTemplate.
-/
import Derived.Test.Qxb6600428aModsTpl
namespace Go.Proofs.Qxb6600428aMods
open Go.RowKit Plain

set_option maxHeartbeats 1000000 in
theorem law6_any (ao : Option Addr) (n cap : Nat) (S : Nat → ByteArray) (v : ByteArray) (w : World) (h : Strs w ao n cap S) (hv : v.size ≤ maxLen) :
    Calls Trym.prog 6 #[.slice ao n cap, .string v] w fun e w' => e = .returned (.bool true) ∧ Below w.heap.size w w' := by
  have hsp := h.split
  have h0 := h
  have hcm : n ≤ maxLen := Nat.le_trans h.1 h.2.1
  clear h
  unfold maxLen at hcm
  have hv2 : v.size ≤ 9223372036854775807 := hv
  by_cases hb : n ≤ 65536 ∧ v.size ≤ 1048576
  · obtain ⟨hb1, hb2⟩ := hb
    rcases hsp with ⟨b, off, rfl, hbw, hcell⟩ | hn0
    all_goals
      go_enter Trym.func6, Trym.ntmps6
      go_wp2_with (go_at_call 14; refine (bytes14_any _ _ _ S _ _ h0 hv).mono ?_; rintro e w' ⟨rfl | ⟨rfl, hsh⟩, rfl⟩)
      · go_ret
        exact ⟨rfl, Below.refl _ _⟩
      go_loop [5, 6] (fun t i => ∃ (k m : Nat), k ≤ n ∧ m ≤ 1048576 ∧ i = .int .i64 k ∧ t = .int .i64 m) (fun _ i => n - (intOf i).toNat)
      case atStart => exact ⟨0, v.size, by omega, by omega, rfl, rfl⟩
      case round =>
        obtain ⟨k, m, hk, hm, rfl, rfl⟩ := hrel
        by_cases hlt : k < n
        · first
          | (exfalso; omega)
          | (have hc := hcell k hlt
             have hk2 := hsh k hlt
             go_wp2_with fail
             · go_ret
               exact ⟨rfl, Below.refl _ _⟩
             · go_round
               case rel => exact ⟨k + 1, m + 16 + (S k).size, by omega, by omega, by go_num, by go_num⟩
               case measure => simp [intOf]; omega)
        · go_wp2_with fail
          refine (copy_any _ _ _ S _ h0 (by omega)).mono ?_
          rintro e w1 ⟨ao1, cap1, rfl, hs1, hb1⟩
          go_wp2_with fail
          refine (zztpl_any _ _ _ S _ _ hs1 (by omega)).mono ?_
          rintro e w2 ⟨rfl, hb2⟩
          go_wp2_with fail
          refine (model16_any _ _ _ S _ _ (hs1.below hb2 (Nat.le_refl _)) (by omega)).mono ?_
          rintro e w3 ⟨rfl, rfl⟩
          go_wp2_with fail
          go_ret
          exact ⟨by rw [tf_tm]; simp, hb1.trans (hb2.mono hb1.size)⟩
  · have hb' : 65536 < n ∨ (n ≤ 65536 ∧ 1048576 < v.size) := by omega
    clear hb
    rcases hb' with hb | ⟨hb, hb2⟩
    all_goals
      go_enter Trym.func6, Trym.ntmps6
      go_wp2_with (go_at_call 14; refine (bytes14_any _ _ _ S _ _ h0 hv).mono ?_; rintro e w' ⟨rfl | ⟨rfl, hsh⟩, rfl⟩)
      · go_ret
        exact ⟨rfl, Below.refl _ _⟩
      · go_ret
        exact ⟨rfl, Below.refl _ _⟩
end Go.Proofs.Qxb6600428aMods
