/-
  THE WALKS of prevails, ZZPrevails, b1Equal.
-/
import Derived.Test.Qxb6601771aModsStrs
namespace Go.Proofs.Qxb6601771aMods
open Go.RowKit Plain

/-- The strings as lists of bytes. -/
def L (S : Nat → ByteArray) (n : Nat) : List Bs := (List.range n).map fun i => (S i).toList
theorem L_length (S : Nat → ByteArray) (n : Nat) : (L S n).length = n := by simp [L]
theorem L_at (S : Nat → ByteArray) (n k : Nat) (h : k < (L S n).length) : (L S n)[k] = (S k).toList := by simp [L]
theorem sc_cmp (x y : ByteArray) : sc x y 0 = cmp x.toList y.toList := by rw [ByteArray.toList_eq, ByteArray.toList_eq]; rfl

set_option maxHeartbeats 400000 in
theorem prev_any (ao : Option Addr) (n cap : Nat) (S : Nat → ByteArray) (bo : Option Addr) (n' cap' : Nat) (T : Nat → ByteArray) (w : World) (h : Strs w ao n cap S) (h' : Strs w bo n' cap' T) (hn : n ≤ 1048576) (hn' : n' ≤ 1048576) :
    Calls Trym.prog 18 #[.slice ao n cap, .slice bo n' cap'] w fun e w' => e = .returned (.bool (pv (L S n) (L T n'))) ∧ ∃ q, w' = w.drewN q := by
  by_cases he : n = n'
  · subst he
    have hpv : pv (L S n) (L T n) = pvAt (L S n) (L T n) 0 := by unfold pv; rw [if_pos (by rw [L_length, L_length])]; rfl
    rw [hpv]
    clear hpv
    have hsp := h.split
    have hsp' := h'.split
    clear h h'
    by_cases h0 : 0 < n
    · obtain ⟨b, off, rfl, hbw, hcell⟩ : ∃ b off, ao = some ⟨b, off, none⟩ ∧ b < w.heap.size ∧ ∀ i, i < n → w.cell? ⟨b, off + i, none⟩ = some (.string (S i)) := hsp.resolve_right (by omega)
      obtain ⟨b', off', rfl, hbw', hcell'⟩ : ∃ b off, bo = some ⟨b, off, none⟩ ∧ b < w.heap.size ∧ ∀ i, i < n → w.cell? ⟨b, off + i, none⟩ = some (.string (T i)) := hsp'.resolve_right (by omega)
      clear hsp hsp'
      go_enter Trym.func18, Trym.ntmps18
      go_wp2
      go_loopw [18] (fun i wr => ∃ (k q : Nat), k ≤ n ∧ i = .int .i64 k ∧ Hid (pvAt (L S n) (L T n) k = pvAt (L S n) (L T n) 0) ∧ wr = w.drewN q) (fun i _ => n - (intOf i).toNat)
      case atStart => exact ⟨0, 0, by omega, rfl, rfl, by simp [World.drewN]⟩
      case round =>
        obtain ⟨k, q, hk, rfl, HR, rfl⟩ := hrel
        by_cases hlt : k < n
        · have hc := hcell k hlt
          have hc' := hcell' k hlt
          have hl : k < (L S n).length := by rw [L_length]; exact hlt
          have hl' : k < (L T n).length := by rw [L_length]; exact hlt
          have HA : Hid ((L S n)[k] = (S k).toList) := L_at S n k hl
          have HB : Hid ((L T n)[k] = (T k).toList) := L_at T n k hl'
          have hki : (k : Int) < (n : Int) := by omega
          go_wp2
          go_quiet (fail)
          go_wp2
          · have hne : (!(S k).toList == (T k).toList) = true := by assumption
            have HN : Hid (¬ (S k).toList = (T k).toList) := by
              have : ¬ (S k).toList = (T k).toList := by simpa using hne
              exact this
            clear hne
            go_quiet (fail)
            go_wp2
            go_ret
            exact ⟨retB (by rw [← HR.out, pvAt_diff _ _ k hl hl' (by rw [HA.out, HB.out]; exact HN.out), HA.out, HB.out]), _, by first | rfl | (simp only [World.drewN_drewN]; rfl)⟩
          · have he : (!(S k).toList == (T k).toList) = false := by assumption
            go_roundw
            case rel => exact ⟨k + 1, _, by omega, by go_num, by rw [← HR.out, pvAt_same _ _ k hl hl' (by rw [HA.out, HB.out]; simpa using he)]; rfl, rfl⟩
            case measure => simp [intOf]; omega
        · go_wp2
          go_ret
          exact ⟨retB (by rw [← HR.out, pvAt_end _ _ _ (by rw [L_length]; omega)]), _, rfl⟩
    · obtain rfl : n = 0 := by omega
      go_enter Trym.func18, Trym.ntmps18
      go_wp2
      go_loop [18] (fun i => i = .int .i64 0) (fun _ => 0)
      case atStart => exact rfl
      case round =>
        obtain rfl := hrel
        go_wp2
        go_ret
        exact ⟨rfl, 0, rfl⟩
  · have hpv : pv (L S n) (L T n') = decide (n' < n) := by unfold pv; rw [L_length, L_length, if_neg he]
    rw [hpv]
    clear hpv h h'
    by_cases hlt : n' < n
    · go_enter Trym.func18, Trym.ntmps18
      go_wp2
      go_ret
      exact ⟨retB (by simp; omega), 0, rfl⟩
    · have hgt : n < n' := by omega
      go_enter Trym.func18, Trym.ntmps18
      go_wp2
      go_ret
      exact ⟨retB (by simp; omega), 0, rfl⟩

theorem zzprev_any (ao : Option Addr) (n cap : Nat) (S : Nat → ByteArray) (bo : Option Addr) (n' cap' : Nat) (T : Nat → ByteArray) (w : World) (h : Strs w ao n cap S) (h' : Strs w bo n' cap' T) (hn : n ≤ 1048576) (hn' : n' ≤ 1048576) :
    Calls Trym.prog 11 #[.slice ao n cap, .slice bo n' cap'] w fun e w' => e = .returned (.bool (pv (L S n) (L T n'))) ∧ ∃ q, w' = w.drewN q := by
  go_enter Trym.func11, Trym.ntmps11
  go_wp2_with (go_at_call 18; refine (prev_any _ _ _ S _ _ _ T _ h h' hn hn').mono ?_; rintro e w' ⟨rfl, q, rfl⟩)
  go_ret
  exact ⟨rfl, _, rfl⟩

/-! ### b1Equal -/
/-- The first k of each are the same. -/
def Same (S T : Nat → ByteArray) (k : Nat) : Prop := ∀ i, i < k → (S i).toList = (T i).toList
theorem same_zero (S T : Nat → ByteArray) : Same S T 0 := fun i hi => absurd hi (by omega)
theorem Same.step {S T : Nat → ByteArray} {k : Nat} (h : Same S T k) (hk : (S k).toList = (T k).toList) : Same S T (k + 1) := fun i hi => by
  by_cases e : i = k
  · subst e; exact hk
  · exact h i (by omega)
theorem Same.lists {S T : Nat → ByteArray} {n : Nat} (h : Same S T n) : L S n = L T n :=
  List.map_congr_left fun i hi => h i (List.mem_range.1 hi)
theorem lists_differ {S T : Nat → ByteArray} {n k : Nat} (hk : k < n) (h : ¬ (S k).toList = (T k).toList) : ¬ L S n = L T n := fun e => by
  have h1 := L_at S n k (by rw [L_length]; exact hk)
  have h2 := L_at T n k (by rw [L_length]; exact hk)
  simp only [e] at h1
  exact h (h1.symm.trans h2)
theorem lists_lengths {S T : Nat → ByteArray} {n m : Nat} (h : ¬ n = m) : ¬ L S n = L T m := fun e => by
  have := congrArg List.length e
  rw [L_length, L_length] at this
  exact h this

/-- A quiet callee in a world that has drawn already. -/
theorem quiet2 {P : Program} {f : FuncId} {args : Array Value} {w : World} {q n : Nat} {v : Value}
    (h : Calls P f args (w.drewN (q + n)) fun e w' => e = .returned v ∧ ∃ m, w' = (w.drewN (q + n)).drewN m) : Calls P f args (w.drewN (q + n)) fun e w'' => e = .returned v ∧ ∃ m, w'' = w.drewN (q + m) :=
  h.mono fun _ _ ⟨he, m, hm⟩ => ⟨he, n + m, by rw [hm, World.drewN_drewN, Nat.add_assoc]⟩

/-- What b1Equal says. -/
def eqB (S T : Nat → ByteArray) (n m : Nat) : Bool := decide (L S n = L T m)

set_option maxHeartbeats 400000 in
theorem equal_any (ao : Option Addr) (n cap : Nat) (S : Nat → ByteArray) (bo : Option Addr) (n' cap' : Nat) (T : Nat → ByteArray) (w : World) (h : Strs w ao n cap S) (h' : Strs w bo n' cap' T) (hn : n ≤ 1048577) (hn' : n' ≤ 1048577) :
    Calls Trym.prog 14 #[.slice ao n cap, .slice bo n' cap'] w fun e w' => e = .returned (.bool (eqB S T n n')) ∧ ∃ q, w' = w.drewN q := by
  by_cases he : n = n'
  · subst he
    have hS := h.2.2.1
    have hT := h'.2.2.1
    by_cases h0 : 0 < n
    · obtain ⟨b, off, rfl, hbw, hcell⟩ := h.2.2.2 h0
      obtain ⟨b', off', rfl, hbw', hcell'⟩ := h'.2.2.2 h0
      clear h h'
      have HST : Hid ((∀ i, i < n → (S i).size ≤ maxLen) ∧ (∀ i, i < n → (T i).size ≤ maxLen)) := ⟨hS, hT⟩
      clear hS hT
      go_enter Trym.func14, Trym.ntmps14
      go_wp2
      go_loopw [13] (fun i wr => ∃ (k q : Nat), k ≤ n ∧ i = .int .i64 k ∧ Same S T k ∧ wr = w.drewN q) (fun i _ => n - (intOf i).toNat)
      case atStart => exact ⟨0, 0, by omega, rfl, same_zero S T, by simp [World.drewN]⟩
      case round =>
        obtain ⟨k, q, hk, rfl, hsm, rfl⟩ := hrel
        by_cases hlt : k < n
        · have hc := hcell k hlt
          have hc' := hcell' k hlt
          have hki : (k : Int) < (n : Int) := by omega
          go_wp2
          go_quiet ((go_at_call 12; exact quiet2 (cmp_any (S k) (T k) _ (HST.out.1 k hlt) (HST.out.2 k hlt))))
          go_wp2
          · have hz : (sc (S k) (T k) 0 != 0) = true := by assumption
            have hd : ¬ (S k).toList = (T k).toList := fun e => by
              rw [sc_cmp, (cmp_zero _ _).2 e] at hz
              simp at hz
            go_ret
            exact ⟨retB (by unfold eqB; rw [decide_eq_false (lists_differ hlt hd)]), _, by first | rfl | (simp only [World.drewN_drewN]; rfl)⟩
          · have hz : (sc (S k) (T k) 0 != 0) = false := by assumption
            have hd : (S k).toList = (T k).toList := by
              rw [sc_cmp] at hz
              exact (cmp_zero _ _).1 (by simpa using hz)
            go_roundw
            case rel => exact ⟨k + 1, _, by omega, by go_num, hsm.step hd, rfl⟩
            case measure => simp [intOf]; omega
        · obtain rfl : k = n := by omega
          go_wp2
          go_ret
          exact ⟨retB (by unfold eqB; rw [decide_eq_true hsm.lists]), _, rfl⟩
    · obtain rfl : n = 0 := by omega
      clear h h'
      go_enter Trym.func14, Trym.ntmps14
      go_wp2
      go_loop [13] (fun i => i = .int .i64 0) (fun _ => 0)
      case atStart => exact rfl
      case round =>
        obtain rfl := hrel
        go_wp2
        go_ret
        exact ⟨rfl, 0, rfl⟩
  · clear h h'
    have HE : Hid (eqB S T n n' = false) := decide_eq_false (lists_lengths he)
    have hne : ((n : Int) != (n' : Int)) = true := by simp; omega
    go_enter Trym.func14, Trym.ntmps14
    go_wp2
    go_ret
    exact ⟨retB HE.out.symm, 0, rfl⟩
end Go.Proofs.Qxb6601771aMods
