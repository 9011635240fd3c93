/-
  THE WALKS of FnPrevailsShortlexSpec, FnPrevailsStrictTotal.
-/
import Derived.Test.Qxb6601771aModsPrev
namespace Go.Proofs.Qxb6601771aMods
open Go.RowKit Plain

theorem Short.wide {S : Nat → ByteArray} {n : Nat} (h : Short S n) : ∀ i, i < n → (S i).size ≤ 140737488355328 := fun i hi => by have := h i hi; omega

theorem below_drewN' {B : Nat} {a w : World} (h : Below B a w) (q : Nat) : Below B a (w.drewN q) := ⟨h.os, h.tape, h.output, h.size, h.block⟩

theorem Strs.drewN {w : World} {ao : Option Addr} {n cap : Nat} {S : Nat → ByteArray} (h : Strs w ao n cap S) (q : Nat) : Strs (w.drewN q) ao n cap S := h

/-- The law of the strict total order, said of bools. -/
theorem total_law (S T : Nat → ByteArray) (n m : Nat) :
    (eqB S T n m = true → pv (L S n) (L T m) = false ∧ pv (L T m) (L S n) = false) ∧ (eqB S T n m = false → pv (L S n) (L T m) = !pv (L T m) (L S n)) := by
  constructor
  · intro h
    have e : L S n = L T m := of_decide_eq_true h
    rw [e]
    exact ⟨pv_self _, pv_self _⟩
  · intro h
    exact pv_total _ _ (of_decide_eq_false h)

set_option maxHeartbeats 1000000 in
theorem law4_any (ao : Option Addr) (n cap : Nat) (S : Nat → ByteArray) (bo : Option Addr) (n' cap' : Nat) (T : Nat → ByteArray) (w : World) (h : Strs w ao n cap S) (h' : Strs w bo n' cap' T) :
    Calls Trym.prog 4 #[.slice ao n cap, .slice bo n' cap'] w fun e w' => e = .returned (.bool true) ∧ Below w.heap.size w w' := by
  go_enter Trym.func4, Trym.ntmps4
  go_wp2_with (go_at_call 13; refine (bytes13_any _ _ _ S _ _ _ T _ h h').mono ?_; rintro e w' ⟨rfl | ⟨rfl, hsh, hsh'⟩, rfl⟩)
  · go_ret
    exact ⟨rfl, Below.refl _ _⟩
  refine (size_any _ _ _ S _ h hsh.wide).mono ?_
  rintro e w' ⟨⟨z, rfl, hz0, hz1, hz2⟩, rfl⟩
  go_wp2_with fail
  refine (size_any _ _ _ T _ h' hsh'.wide).mono ?_
  rintro e w' ⟨⟨y, rfl, hy0, hy1, hy2⟩, rfl⟩
  have HZ : Hid (z ≤ 1048576 → n ≤ 65536 ∧ Short S n) := hz2
  have HY : Hid (y ≤ 1048576 → n' ≤ 65536 ∧ Short T n') := hy2
  clear hz2 hy2
  by_cases hzy : z + y ≤ 1048576
  · have hn : n ≤ 65536 := (HZ.out (by omega)).1
    have hn' : n' ≤ 65536 := (HY.out (by omega)).1
    go_wp2_with fail
    refine (clone_any _ _ _ S _ h (by omega)).mono ?_
    rintro e w1 ⟨ao1, cap1, rfl, hs1, hb1⟩
    go_wp2_with fail
    refine (clone_any _ _ _ T _ (h'.below hb1 (Nat.le_refl _)) (by omega)).mono ?_
    rintro e w2 ⟨bo1, cap1', rfl, hs2, hb2⟩
    have hs1' := hs1.below hb2 (Nat.le_refl _)
    go_wp2_with fail
    refine (zzprev_any _ _ _ S _ _ _ T _ hs1' hs2 (by omega) (by omega)).mono ?_
    rintro e w3 ⟨rfl, q, rfl⟩
    go_wp2_with fail
    refine (zzprev_any _ _ _ T _ _ _ S _ (hs2.drewN q) (hs1'.drewN q) (by omega) (by omega)).mono ?_
    rintro e w3 ⟨rfl, q2, rfl⟩
    go_wp2_with fail
    refine (equal_any _ _ _ S _ _ _ T _ (hs1'.drewN (q + q2)) (hs2.drewN (q + q2)) (by omega) (by omega)).mono ?_
    rintro e w3 ⟨rfl, q3, rfl⟩
    have HT : Hid ((eqB S T n n' = true → pv (L S n) (L T n') = false ∧ pv (L T n') (L S n) = false) ∧ (eqB S T n n' = false → pv (L S n) (L T n') = !pv (L T n') (L S n))) := total_law S T n n'
    have hfin : ∀ q, Below w'.heap.size w' (w2.drewN q) := fun q => below_drewN' (hb1.trans (hb2.mono hb1.size)) q
    obtain ⟨be, hbe⟩ : ∃ be, be = eqB S T n n' := ⟨_, rfl⟩
    obtain ⟨bp, hbp⟩ : ∃ bp, bp = pv (L S n) (L T n') := ⟨_, rfl⟩
    obtain ⟨bq, hbq⟩ : ∃ bq, bq = pv (L T n') (L S n) := ⟨_, rfl⟩
    rw [← hbe, ← hbp, ← hbq] at HT ⊢
    clear hbe hbp hbq
    cases be with
    | true =>
      obtain ⟨rfl, rfl⟩ := HT.out.1 rfl
      go_wp2_with fail
      go_ret
      exact ⟨rfl, hfin _⟩
    | false =>
      obtain rfl := HT.out.2 rfl
      cases bq
      all_goals
        go_wp2_with fail
        go_ret
        exact ⟨rfl, hfin _⟩
  · go_wp2_with fail
    go_ret
    exact ⟨rfl, Below.refl _ _⟩

/-- The scan from the back, one place on. -/
theorem back_step (S T : Nat → ByteArray) (n k : Nat) (hk : k < n) :
    (cmp (S k).toList (T k).toList = 0 → bcAt (L S n) (L T n) k = bcAt (L S n) (L T n) (k + 1)) ∧ (¬ cmp (S k).toList (T k).toList = 0 → bcAt (L S n) (L T n) k = cmp (S k).toList (T k).toList) := by
  have hl : k < (L S n).length := by rw [L_length]; exact hk
  have hl' : k < (L T n).length := by rw [L_length]; exact hk
  constructor
  · intro h; exact bcAt_same _ _ k hl hl' (by rw [L_at, L_at]; exact h)
  · intro h; rw [bcAt_diff _ _ k hl hl' (by rw [L_at, L_at]; exact h), L_at, L_at]
theorem back_end (S T : Nat → ByteArray) (n : Nat) : bcAt (L S n) (L T n) n = 0 := bcAt_end _ _ _ (by rw [L_length]; omega)
theorem back_law (S T : Nat → ByteArray) (n : Nat) : pv (L S n) (L T n) = decide (bcAt (L S n) (L T n) 0 < 0) := by
  unfold pv
  rw [if_pos (by rw [L_length, L_length]), pvl_bc]
  rfl
theorem lens_law (S T : Nat → ByteArray) (n m : Nat) (h : ¬ n = m) : pv (L S n) (L T m) = decide (m < n) := by
  unfold pv
  rw [L_length, L_length, if_neg h]

set_option maxHeartbeats 1000000 in
theorem law3_any (ao : Option Addr) (n cap : Nat) (S : Nat → ByteArray) (bo : Option Addr) (n' cap' : Nat) (T : Nat → ByteArray) (w : World) (h : Strs w ao n cap S) (h' : Strs w bo n' cap' T) :
    Calls Trym.prog 3 #[.slice ao n cap, .slice bo n' cap'] w fun e w' => e = .returned (.bool true) ∧ Below w.heap.size w w' := by
  go_enter Trym.func3, Trym.ntmps3
  go_wp2_with (go_at_call 8; refine (bytes8_any _ _ _ S _ _ _ T _ h h').mono ?_; rintro e w' ⟨rfl | ⟨rfl, hsh, hsh'⟩, rfl⟩)
  · go_ret
    exact ⟨rfl, Below.refl _ _⟩
  refine (size_any _ _ _ S _ h hsh.wide).mono ?_
  rintro e w' ⟨⟨z, rfl, hz0, hz1, hz2⟩, rfl⟩
  go_wp2_with fail
  refine (size_any _ _ _ T _ h' hsh'.wide).mono ?_
  rintro e w' ⟨⟨y, rfl, hy0, hy1, hy2⟩, rfl⟩
  have HZ : Hid (z ≤ 1048576 → n ≤ 65536 ∧ Short S n) := hz2
  have HY : Hid (y ≤ 1048576 → n' ≤ 65536 ∧ Short T n') := hy2
  clear hz2 hy2
  by_cases hzy : z + y ≤ 1048576
  · have hn : n ≤ 65536 := (HZ.out (by omega)).1
    have hn' : n' ≤ 65536 := (HY.out (by omega)).1
    clear HZ HY
    go_wp2_with fail
    refine (clone_any _ _ _ S _ h (by omega)).mono ?_
    rintro e w1 ⟨ao1, cap1, rfl, hs1, hb1⟩
    go_wp2_with fail
    refine (clone_any _ _ _ T _ (h'.below hb1 (Nat.le_refl _)) (by omega)).mono ?_
    rintro e w2 ⟨bo1, cap1', rfl, hs2, hb2⟩
    have hs1' := hs1.below hb2 (Nat.le_refl _)
    have hfin : ∀ q, Below w'.heap.size w' (w2.drewN q) := fun q => below_drewN' (hb1.trans (hb2.mono hb1.size)) q
    clear hs1 hb1 hb2 h h'
    go_wp2_with fail
    refine (zzprev_any _ _ _ S _ _ _ T _ hs1' hs2 (by omega) (by omega)).mono ?_
    rintro e w3 ⟨rfl, q, rfl⟩
    by_cases he : n = n'
    · subst he
      rw [back_law]
      by_cases h0 : 0 < n
      · obtain ⟨b, off, rfl, hbw, hcell⟩ := hs1'.2.2.2 h0
        obtain ⟨b', off', rfl, hbw', hcell'⟩ := hs2.2.2.2 h0
        have HST : Hid ((∀ i, i < n → (S i).size ≤ maxLen) ∧ (∀ i, i < n → (T i).size ≤ maxLen)) := ⟨hs1'.2.2.1, hs2.2.2.1⟩
        clear hs1' hs2
        go_wp2_with fail
        go_loopw [7, 8] (fun c i wr => ∃ (k q : Nat), k ≤ n ∧ i = .int .i64 (k - 1 : Int) ∧ c = .int .i64 (bcAt (L S n) (L T n) k) ∧ wr = w2.drewN q) (fun _ i _ => (intOf i + 1).toNat)
        case atStart => exact ⟨n, q, by omega, rfl, by rw [back_end], rfl⟩
        case round =>
          obtain ⟨k, q, hk, rfl, rfl, rfl⟩ := hrel
          by_cases hlt : 0 < k
          · obtain ⟨j, rfl⟩ : ∃ j, k = j + 1 := ⟨k - 1, by omega⟩
            rw [show ((j + 1 : Nat) : Int) - 1 = (j : Int) from by omega]
            have hjn : j < n := by omega
            have hc := hcell j hjn
            have hc' := hcell' j hjn
            have hki : (j : Int) < (n : Int) := by omega
            have HB : Hid ((cmp (S j).toList (T j).toList = 0 → bcAt (L S n) (L T n) j = bcAt (L S n) (L T n) (j + 1)) ∧ (¬ cmp (S j).toList (T j).toList = 0 → bcAt (L S n) (L T n) j = cmp (S j).toList (T j).toList)) := back_step S T n j hjn
            go_wp2_with fail
            go_quiet ((go_at_call 12; exact quiet2 (cmp_any (S j) (T j) _ (HST.out.1 j hjn) (HST.out.2 j hjn))))
            by_cases hd : sc (S j) (T j) 0 = 0
            · have hb : ((sc (S j) (T j) 0) != 0) = false := by simp [hd]
              have HD : Hid (cmp (S j).toList (T j).toList = 0) := by rw [sc_cmp] at hd; exact hd
              clear hd
              go_wp2_with fail
              go_roundw
              case rel => exact ⟨j, _, by omega, rfl, by rw [HB.out.1 HD.out], rfl⟩
              case measure => simp [intOf]
            · have hb : ((sc (S j) (T j) 0) != 0) = true := by simp [hd]
              have HD : Hid (¬ cmp (S j).toList (T j).toList = 0) := by rw [sc_cmp] at hd; exact hd
              clear hd
              go_wp2_with fail
              go_roundw
              case rel => exact ⟨j, _, by omega, rfl, by rw [HB.out.2 HD.out, sc_cmp], rfl⟩
              case measure => simp [intOf]
          · obtain rfl : k = 0 := by omega
            go_wp2_with fail
            go_ret
            exact ⟨rfl, hfin _⟩
      · obtain rfl : n = 0 := by omega
        go_wp2_with fail
        go_loop [7, 8] (fun c i => c = .int .i64 0 ∧ i = .int .i64 (-1)) (fun _ _ => 0)
        case atStart => exact ⟨rfl, rfl⟩
        case round =>
          obtain ⟨rfl, rfl⟩ := hrel
          go_wp2_with fail
          go_ret
          exact ⟨rfl, hfin _⟩
    · rw [lens_law _ _ _ _ he]
      by_cases hlt : n' < n
      all_goals
        go_wp2_with fail
        go_ret
        exact ⟨rfl, hfin _⟩
  · go_wp2_with fail
    go_ret
    exact ⟨rfl, Below.refl _ _⟩
end Go.Proofs.Qxb6601771aMods
