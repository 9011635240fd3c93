/-
  SLICES OF STRINGS: what the walks are told of one; the bounds' functions; the copy.
-/
import Derived.Test.Qxb6600428aModsProg
import Derived.Test.Qxb6600428aModsPlain
import Derived.WalkKit
import Derived.WalkSpells
import Derived.WalkLawsBesides
import Derived.Deep.OwnRows
namespace Go.Proofs.Qxb6600428aMods
open Go.RowKit Plain

/-- A SLICE OF STRINGS: 'S i' is element i. -/
def Strs (w : World) (ao : Option Addr) (n cap : Nat) (S : Nat → ByteArray) : Prop :=
  n ≤ cap ∧ cap ≤ maxLen ∧ (∀ i, i < n → (S i).size ≤ maxLen) ∧ (0 < n → ∃ b off, ao = some ⟨b, off, none⟩ ∧ b < w.heap.size ∧ ∀ i, i < n → w.cell? ⟨b, off + i, none⟩ = some (.string (S i)))

/-- It stays so where nothing old turns. -/
theorem Strs.below {w w' : World} {ao : Option Addr} {n cap : Nat} {S : Nat → ByteArray} {B : Nat} (h : Strs w ao n cap S) (hb : Below B w w') (hB : w.heap.size ≤ B) : Strs w' ao n cap S := by
  obtain ⟨h1, h2, h3, h4⟩ := h
  refine ⟨h1, h2, h3, fun hn => ?_⟩
  obtain ⟨b, off, rfl, hlt, hc⟩ := h4 hn
  exact ⟨b, off, rfl, by have := hb.size; omega, fun i hi => (hb.cell (p := ⟨b, off + i, none⟩) (by show b < B; omega)).trans (hc i hi)⟩

theorem Strs.split {w : World} {ao : Option Addr} {n cap : Nat} {S : Nat → ByteArray} (h : Strs w ao n cap S) :
    (∃ b off, ao = some ⟨b, off, none⟩ ∧ b < w.heap.size ∧ ∀ i, i < n → w.cell? ⟨b, off + i, none⟩ = some (.string (S i))) ∨ n < 1 := by
  by_cases hn : 0 < n
  · exact .inl (h.2.2.2 hn)
  · exact .inr (by omega)

theorem retI {k : IntKind} {a b : Int} (h : a = b) : Ending.returned (.int k a) = .returned (.int k b) := by rw [h]

/-- Each of the first k strings has at most 2^20 bytes. -/
def Short (S : Nat → ByteArray) (k : Nat) : Prop := ∀ i, i < k → (S i).size ≤ 1048576
theorem short_zero (S : Nat → ByteArray) : Short S 0 := fun i hi => absurd hi (by omega)
theorem Short.step {S : Nat → ByteArray} {k : Nat} (h : Short S k) (hk : ((S k).size : Int) ≤ 1048576) : Short S (k + 1) := fun i hi => by
  by_cases e : i = k
  · subst e; omega
  · exact h i (by omega)

/-- A bool is handed back; where it is true, the strings are short. -/
def Says (S : Nat → ByteArray) (n : Nat) (e : Ending) : Prop := e = .returned (.bool false) ∨ (e = .returned (.bool true) ∧ Short S n)
theorem says_no (S : Nat → ByteArray) (n : Nat) : Says S n (.returned (.bool false)) := .inl rfl
theorem says_yes {S : Nat → ByteArray} {n : Nat} (h : Short S n) : Says S n (.returned (.bool true)) := .inr ⟨rfl, h⟩

set_option maxHeartbeats 400000 in
theorem bytes14_any (ao : Option Addr) (n cap : Nat) (S : Nat → ByteArray) (v : ByteArray) (w : World) (h : Strs w ao n cap S) (hv : v.size ≤ maxLen) :
    Calls Trym.prog 14 #[.slice ao n cap, .string v] w fun e w' => Says S n e ∧ w' = w := by
  have hsp := h.split
  obtain ⟨hnc, hcm, hS, _⟩ := h
  unfold maxLen at hcm hS hv
  by_cases hn : n ≤ 1048576
  · rcases hsp with ⟨b, off, rfl, hbw, hcell⟩ | hn0
    all_goals
      go_enter Trym.func14, Trym.ntmps14
      go_wp2
      go_loop [5, 6] (fun t i => ∃ (k m : Nat), k ≤ n ∧ m ≤ 1048576 ∧ i = .int .i64 k ∧ t = .int .i64 m ∧ Short S k) (fun _ i => n - (intOf i).toNat)
      case atStart => exact ⟨0, n, by omega, by omega, rfl, rfl, short_zero S⟩
      case round =>
        obtain ⟨k, m, hk, hm, rfl, rfl, hsh⟩ := hrel
        by_cases hlt : k < n
        · first
          | (exfalso; omega)
          | (have hc := hcell k hlt
             have hk2 := hS k hlt
             go_wp2
             · go_ret
               exact ⟨says_no _ _, rfl⟩
             · go_ret
               exact ⟨says_no _ _, rfl⟩
             · go_round
               case rel => exact ⟨k + 1, m + (S k).size, by omega, by omega, by go_num, by go_num, hsh.step (by omega)⟩
               case measure => simp [intOf]; omega)
        · obtain rfl : k = n := by omega
          go_wp2
          all_goals
            go_ret
            exact ⟨by first | exact says_no _ _ | exact says_yes hsh, rfl⟩
  · go_enter Trym.func14, Trym.ntmps14
    go_wp2
    go_ret
    exact ⟨says_no _ _, rfl⟩

set_option maxHeartbeats 400000 in
theorem bytes11_any (ao : Option Addr) (n cap : Nat) (S : Nat → ByteArray) (v : ByteArray) (d : Bool) (w : World) (h : Strs w ao n cap S) (hv : v.size ≤ maxLen) :
    Calls Trym.prog 11 #[.slice ao n cap, .string v, .bool d] w fun e w' => Says S n e ∧ w' = w := by
  have hsp := h.split
  obtain ⟨hnc, hcm, hS, _⟩ := h
  unfold maxLen at hcm hS hv
  by_cases hn : n ≤ 1048576
  · rcases hsp with ⟨b, off, rfl, hbw, hcell⟩ | hn0
    all_goals
      go_enter Trym.func11, Trym.ntmps11
      go_wp2
      go_loop [7, 8] (fun t i => ∃ (k m : Nat), k ≤ n ∧ m ≤ 1048576 ∧ i = .int .i64 k ∧ t = .int .i64 m ∧ Short S k) (fun _ i => n - (intOf i).toNat)
      case atStart => exact ⟨0, n, by omega, by omega, rfl, rfl, short_zero S⟩
      case round =>
        obtain ⟨k, m, hk, hm, rfl, rfl, hsh⟩ := hrel
        by_cases hlt : k < n
        · first
          | (exfalso; omega)
          | (have hc := hcell k hlt
             have hk2 := hS k hlt
             go_wp2
             · go_ret
               exact ⟨says_no _ _, rfl⟩
             · go_ret
               exact ⟨says_no _ _, rfl⟩
             · go_round
               case rel => exact ⟨k + 1, m + (S k).size, by omega, by omega, by go_num, by go_num, hsh.step (by omega)⟩
               case measure => simp [intOf]; omega)
        · obtain rfl : k = n := by omega
          go_wp2
          all_goals
            go_ret
            exact ⟨by first | exact says_no _ _ | exact says_yes hsh, rfl⟩
  · go_enter Trym.func11, Trym.ntmps11
    go_wp2
    go_ret
    exact ⟨says_no _ _, rfl⟩

set_option maxHeartbeats 400000 in
theorem bytes17_any (ao : Option Addr) (n cap : Nat) (S : Nat → ByteArray) (v u : ByteArray) (w : World) (h : Strs w ao n cap S) (hv : v.size ≤ maxLen) (hu : u.size ≤ maxLen) :
    Calls Trym.prog 17 #[.slice ao n cap, .string v, .string u] w fun e w' => Says S n e ∧ w' = w := by
  have hsp := h.split
  obtain ⟨hnc, hcm, hS, _⟩ := h
  unfold maxLen at hcm hS hv hu
  by_cases hn : n ≤ 1048576
  · rcases hsp with ⟨b, off, rfl, hbw, hcell⟩ | hn0
    all_goals
      go_enter Trym.func17, Trym.ntmps17
      go_wp2
      go_loop [7, 8] (fun t i => ∃ (k m : Nat), k ≤ n ∧ m ≤ 1048576 ∧ i = .int .i64 k ∧ t = .int .i64 m ∧ Short S k) (fun _ i => n - (intOf i).toNat)
      case atStart => exact ⟨0, n, by omega, by omega, rfl, rfl, short_zero S⟩
      case round =>
        obtain ⟨k, m, hk, hm, rfl, rfl, hsh⟩ := hrel
        by_cases hlt : k < n
        · first
          | (exfalso; omega)
          | (have hc := hcell k hlt
             have hk2 := hS k hlt
             go_wp2
             · go_ret
               exact ⟨says_no _ _, rfl⟩
             · go_ret
               exact ⟨says_no _ _, rfl⟩
             · go_round
               case rel => exact ⟨k + 1, m + (S k).size, by omega, by omega, by go_num, by go_num, hsh.step (by omega)⟩
               case measure => simp [intOf]; omega)
        · obtain rfl : k = n := by omega
          go_wp2
          all_goals
            go_ret
            exact ⟨by first | exact says_no _ _ | exact says_yes hsh, rfl⟩
  · go_enter Trym.func17, Trym.ntmps17
    go_wp2
    go_ret
    exact ⟨says_no _ _, rfl⟩

theorem Trym.info9 : (Trym.prog.info? 9).map (fun i => (i.zero, i.size, i.bytes)) = some (some (.string ByteArray.empty), 1, 16) := by kernel_rfl

/-- The row of the copy so far. -/
def copied (S : Nat → ByteArray) (k : Nat) (j : Nat) : Value := if j < k then .string (S j) else .string ByteArray.empty

theorem copied_step {w : World} {g n k : Nat} {S : Nat → ByteArray} (h : w.rowIs g 9 n (copied S k)) : (w.setCell ⟨g, k, none⟩ (.string (S k))).rowIs g 9 n (copied S (k + 1)) :=
  (h.set k _).congr fun i _ => by
    unfold copied
    by_cases h1 : i = k
    · subst h1; rw [if_pos rfl, if_pos (by omega)]
    · rw [if_neg h1]
      by_cases h2 : i < k
      · rw [if_pos h2, if_pos (by omega)]
      · rw [if_neg h2, if_neg (by omega)]

set_option maxHeartbeats 400000 in
theorem copy_any (ao : Option Addr) (n cap : Nat) (S : Nat → ByteArray) (w : World) (h : Strs w ao n cap S) (hn : n ≤ 1048576) :
    Calls Trym.prog 12 #[.slice ao n cap] w fun e w' => ∃ ao' cap', e = .returned (.slice ao' n cap') ∧ Strs w' ao' n cap' S ∧ Below w.heap.size w w' := by
  have hsp := h.split
  obtain ⟨hnc, hcm, hS, hp⟩ := h
  have hnil : ∀ (W : World) (a : Option Addr) (n c n' c' : Nat), (binOp .eql 24 (.slice a n c) (.slice none n' c')).run Trym.prog W = .ok (.bool a.isNone) W := fun W a n c n' c' => Lib.run_eql_slice_nil W _ _ a n c n' c' Trym.underlying24
  cases ao with
  | none =>
    obtain rfl : n = 0 := by
      rcases hsp with ⟨b, off, h, _⟩ | h
      · cases h
      · omega
    go_enter Trym.func12, Trym.ntmps12
    go_wp2
    go_ret
    exact ⟨none, 0, rfl, ⟨Nat.le_refl _, Nat.zero_le _, hS, fun h => absurd h (by omega)⟩, Below.refl _ _⟩
  | some a =>
    have hmk := run_make_row' (P := Trym.prog) 24 9 (.string ByteArray.empty) 16 Trym.underlying24 Trym.info9 rfl .i64 .i64 n (by omega) (by omega)
    have HS : Hid (∀ i, i < n → (S i).size ≤ maxLen) := hS
    clear hS hp hcm hnc
    rcases hsp with ⟨b, off, hao, hbw, hcell⟩ | hn0
    · obtain rfl := Option.some.inj hao
      go_enter Trym.func12, Trym.ntmps12
      go_wp2
      go_loopw [4] (fun i wr => ∃ k : Nat, k ≤ n ∧ i = .int .i64 k ∧ wr.rowIs w.heap.size 9 n (copied S k) ∧ Below w.heap.size w wr) (fun i _ => n - (intOf i).toNat)
      case atStart => exact ⟨0, by omega, rfl, (World.rowIs_made _ _ _ _).congr fun i _ => (by simp [copied]), (Below.refl _ _).alloc (Nat.le_refl _) _⟩
      case round =>
        obtain ⟨k, hk, rfl, hrow, hbel⟩ := hrel
        by_cases hlt : k < n
        · have hc := (hbel.cell (p := ⟨b, off + k, none⟩) hbw).trans (hcell k hlt)
          have hr := hrow.cell hlt
          have hf := hrow.frozen k
          have R1 := copied_step hrow
          have R2 := hbel.setCell (p := ⟨w.heap.size, k, none⟩) (Nat.le_refl _) (.string (S k))
          go_wp2
          go_roundw
          case rel => exact ⟨k + 1, by omega, by go_num, R1, R2⟩
          case measure => simp [intOf]; omega
        · go_wp2
          go_ret
          refine ⟨_, _, rfl, ⟨Nat.le_refl _, by unfold maxLen; omega, HS.out, fun _ => ⟨_, 0, rfl, hrow.lt, fun i hi => ?_⟩⟩, hbel⟩
          have := hrow.cell hi
          unfold copied at this
          rw [if_pos (by omega)] at this
          simpa using this
    · go_enter Trym.func12, Trym.ntmps12
      go_wp2
      go_loopw [4] (fun i wr => i = .int .i64 0 ∧ Below w.heap.size w wr) (fun i _ => n - (intOf i).toNat)
      case atStart => exact ⟨rfl, (Below.refl _ _).alloc (Nat.le_refl _) _⟩
      case round =>
        obtain ⟨rfl, hbel⟩ := hrel
        go_wp2
        go_ret
        exact ⟨_, _, rfl, ⟨Nat.le_refl _, by unfold maxLen; omega, HS.out, fun h => absurd h (by omega)⟩, hbel⟩

/-! ### zzB1FirstIndex, zzB1TemplateModel -/
/-- The versions as lists of bytes. -/
def L (S : Nat → ByteArray) (n : Nat) : List Bs := (List.range n).map fun i => (S i).toList
theorem L_length (S : Nat → ByteArray) (n : Nat) : (L S n).length = n := by simp [L]
theorem L_at (S : Nat → ByteArray) (n k : Nat) (h : k < (L S n).length) : (L S n)[k] = (S k).toList := by simp [L]

set_option maxHeartbeats 400000 in
theorem first_any (ao : Option Addr) (n cap : Nat) (S : Nat → ByteArray) (v : ByteArray) (w : World) (h : Strs w ao n cap S) (hn : n ≤ 1048576) :
    Calls Trym.prog 21 #[.slice ao n cap, .string v] w fun e w' => e = .returned (.int .i64 (fi v.toList (L S n) 0)) ∧ w' = w := by
  have hsp := h.split
  clear h
  rcases hsp with ⟨b, off, rfl, hbw, hcell⟩ | hn0
  all_goals
    go_enter Trym.func21, Trym.ntmps21
    go_wp2
    go_loop [5] (fun i => ∃ k : Nat, k ≤ n ∧ i = .int .i64 k ∧ Hid (fiAt v.toList (L S n) k = fi v.toList (L S n) 0)) (fun i => n - (intOf i).toNat)
    case atStart => exact ⟨0, by omega, rfl, rfl⟩
    case round =>
      obtain ⟨k, hk, rfl, HR⟩ := hrel
      by_cases hlt : k < n
      · first
        | (exfalso; omega)
        | (have hc := hcell k hlt
           go_wp2
           · have he : ((S k).toList == v.toList) = true := by assumption
             go_ret
             exact ⟨retI (by rw [← HR.out, fiAt_hit _ _ k (by rw [L_length]; exact hlt) (by rw [L_at]; simpa using he)]), rfl⟩
           · have he : ((S k).toList == v.toList) = false := by assumption
             go_round
             case rel => exact ⟨k + 1, by omega, by go_num, by rw [← HR.out, fiAt_miss _ _ k (by rw [L_length]; exact hlt) (by rw [L_at]; simpa using he)]; rfl⟩
             case measure => simp [intOf]; omega)
      · go_wp2
        go_ret
        exact ⟨retI (by rw [← HR.out, fiAt_end _ _ _ (by rw [L_length]; omega)]), rfl⟩


set_option maxHeartbeats 400000 in
theorem model16_any (ao : Option Addr) (n cap : Nat) (S : Nat → ByteArray) (v : ByteArray) (w : World) (h : Strs w ao n cap S) (hn : n ≤ 1048576) :
    Calls Trym.prog 16 #[.slice ao n cap, .string v] w fun e w' => e = .returned (.int .i64 (tm v.toList (L S n))) ∧ w' = w := by
  by_cases hf : 0 ≤ fi v.toList (L S n) 0
  · have ht : tm v.toList (L S n) = fi v.toList (L S n) 0 := by unfold tm; rw [if_pos hf]
    rw [ht]
    clear ht
    go_enter Trym.func16, Trym.ntmps16
    go_wp2_with (go_at_call 21; refine (first_any _ _ _ S _ _ h hn).mono ?_; rintro e w' ⟨rfl, rfl⟩)
    go_ret
    exact ⟨rfl, rfl⟩
  · have ht : tm v.toList (L S n) = fi [42] (L S n) 0 := by unfold tm; rw [if_neg hf]
    rw [ht]
    clear ht
    go_enter Trym.func16, Trym.ntmps16
    go_wp2_with (go_at_call 21; refine (first_any _ _ _ S _ _ h hn).mono ?_; rintro e w' ⟨rfl, rfl⟩)
    go_ret
    exact ⟨rfl, rfl⟩
end Go.Proofs.Qxb6600428aMods
