/-
  SLICES OF STRINGS: what the walks are told of one; the bounds' functions; b1Size; the clone.
-/
import Derived.Test.Qxb6601771aModsCmp
import Derived.Laws.CopyOwn
namespace Go.Proofs.Qxb6601771aMods
open Go.RowKit Plain

/-- A SLICE OF STRINGS: 'S i' is element i. -/
def Strs (w : World) (ao : Option Addr) (n cap : Nat) (S : Nat → ByteArray) : Prop :=
  n ≤ cap ∧ cap ≤ maxLen ∧ (∀ i, i < n → (S i).size ≤ maxLen) ∧ (0 < n → ∃ b off, ao = some ⟨b, off, none⟩ ∧ b < w.heap.size ∧ ∀ i, i < n → w.cell? ⟨b, off + i, none⟩ = some (.string (S i)))

/-- It stays so where nothing old turns. -/
theorem Strs.below {w w' : World} {ao : Option Addr} {n cap : Nat} {S : Nat → ByteArray} {B : Nat} (h : Strs w ao n cap S) (hb : Below B w w') (hB : w.heap.size ≤ B) : Strs w' ao n cap S := by
  obtain ⟨h1, h2, h3, h4⟩ := h
  refine ⟨h1, h2, h3, fun hn => ?_⟩
  obtain ⟨b, off, rfl, hlt, hc⟩ := h4 hn
  exact ⟨b, off, rfl, by have := hb.size; omega, fun i hi => (hb.cell (p := ⟨b, off + i, none⟩) (by show b < B; omega)).trans (hc i hi)⟩

theorem Strs.split {w : World} {ao : Option Addr} {n cap : Nat} {S : Nat → ByteArray} (h : Strs w ao n cap S) :
    (∃ b off, ao = some ⟨b, off, none⟩ ∧ b < w.heap.size ∧ ∀ i, i < n → w.cell? ⟨b, off + i, none⟩ = some (.string (S i))) ∨ n < 1 := by
  by_cases hn : 0 < n
  · exact .inl (h.2.2.2 hn)
  · exact .inr (by omega)

/-- Each of the first k strings has at most 2^20 bytes. -/
def Short (S : Nat → ByteArray) (k : Nat) : Prop := ∀ i, i < k → (S i).size ≤ 1048576
theorem short_zero (S : Nat → ByteArray) : Short S 0 := fun i hi => absurd hi (by omega)
theorem Short.step {S : Nat → ByteArray} {k : Nat} (h : Short S k) (hk : ((S k).size : Int) ≤ 1048576) : Short S (k + 1) := fun i hi => by
  by_cases e : i = k
  · subst e; omega
  · exact h i (by omega)

/-- A bool is handed back; where it is true, the strings are short. -/
def Says (S T : Nat → ByteArray) (n m : Nat) (e : Ending) : Prop := e = .returned (.bool false) ∨ (e = .returned (.bool true) ∧ Short S n ∧ Short T m)
theorem says_no (S T : Nat → ByteArray) (n m : Nat) : Says S T n m (.returned (.bool false)) := .inl rfl
theorem says_yes {S T : Nat → ByteArray} {n m : Nat} (h : Short S n) (h' : Short T m) : Says S T n m (.returned (.bool true)) := .inr ⟨rfl, h, h'⟩

/-- 'b1Size' hands back a number; where it is at most 2^20, the strings are few and short. -/
def Sized (S : Nat → ByteArray) (n : Nat) (e : Ending) : Prop := ∃ z : Int, e = .returned (.int .i64 z) ∧ 0 ≤ z ∧ z ≤ 1048577 ∧ (z ≤ 1048576 → n ≤ 65536 ∧ Short S n)

set_option maxHeartbeats 400000 in
theorem size_any (ao : Option Addr) (n cap : Nat) (S : Nat → ByteArray) (w : World) (h : Strs w ao n cap S) (hS : ∀ i, i < n → (S i).size ≤ 140737488355328) :
    Calls Trym.prog 9 #[.slice ao n cap] w fun e w' => Sized S n e ∧ w' = w := by
  have hsp := h.split
  have hcm : n ≤ maxLen := Nat.le_trans h.1 h.2.1
  clear h
  unfold maxLen at hcm
  by_cases hn : n ≤ 65536
  · rcases hsp with ⟨b, off, rfl, hbw, hcell⟩ | hn0
    all_goals
      go_enter Trym.func9, Trym.ntmps9
      go_wp2
      go_loop [3, 13] (fun t i => ∃ (k m : Nat), k ≤ n ∧ m ≤ 1048576 ∧ i = .int .i64 k ∧ t = .int .i64 m ∧ Short S k) (fun _ i => n - (intOf i).toNat)
      case atStart => exact ⟨0, 16 * n, by omega, by omega, rfl, by go_num, short_zero S⟩
      case round =>
        obtain ⟨k, m, hk, hm, rfl, rfl, hsh⟩ := hrel
        by_cases hlt : k < n
        · first
          | (exfalso; omega)
          | (have hc := hcell k hlt
             have hk2 := hS k hlt
             go_wp2
             · go_ret
               exact ⟨⟨1048577, rfl, by omega, by omega, fun h => absurd h (by omega)⟩, rfl⟩
             · go_round
               case rel => exact ⟨k + 1, m + (S k).size, by omega, by omega, by go_num, by go_num, hsh.step (by omega)⟩
               case measure => simp [intOf]; omega)
        · obtain rfl : k = n := by omega
          go_wp2
          go_ret
          exact ⟨⟨m, rfl, by omega, by omega, fun _ => ⟨hn, hsh⟩⟩, rfl⟩
  · go_enter Trym.func9, Trym.ntmps9
    go_wp2
    go_ret
    exact ⟨⟨1048577, rfl, by omega, by omega, fun h => absurd h (by omega)⟩, rfl⟩

/-! ### The clone -/
theorem Trym.info9 : (Trym.prog.info? 9).map (fun i => (i.zero, i.size, i.bytes)) = some (some (.string ByteArray.empty), 1, 16) := by kernel_rfl
theorem Trym.size9 : (Trym.prog.info? 9).map (·.size) = some 1 := by kernel_rfl

def strCells (S : Nat → ByteArray) (n : Nat) : List Value := (List.range n).map fun i => .string (S i)
theorem strCells_length (S : Nat → ByteArray) (n : Nat) : (strCells S n).length = n := by simp [strCells]
theorem strCells_one (S : Nat → ByteArray) (n : Nat) : ∀ u ∈ strCells S n, u.oneCell' = true := by
  intro u hu
  obtain ⟨i, _, rfl⟩ := List.mem_map.1 hu
  rfl

/-- The world with the clone's row. -/
def cloned (w : World) (S : Nat → ByteArray) (n : Nat) : World := (w.alloc (.cells (madeCells #[.string ByteArray.empty] n) 9)).setRow w.heap.size (strCells S n).toArray

theorem run_clone (w : World) (S : Nat → ByteArray) (n cap b off : Nat) (hbw : b < w.heap.size) (hcell : ∀ i, i < n → w.cell? ⟨b, off + i, none⟩ = some (.string (S i))) (ty : TypeId) :
    (Builtin.copy_ #[22, 22] ty #[.slice (some ⟨w.heap.size, 0, none⟩) n n, .slice (some ⟨b, off, none⟩) n cap]).run Trym.prog (w.alloc (.cells (madeCells #[.string ByteArray.empty] n) 9)) = .ok (goInt n) (cloned w S n) := by
  have h := run_copy_row (P := Trym.prog) (w.alloc (.cells (madeCells #[.string ByteArray.empty] n) 9)) 22 22 ty 9 w.heap.size 0 n n ⟨b, off, none⟩ n cap (madeCells #[.string ByteArray.empty] n) 9 (strCells S n)
    Trym.underlying22 Trym.size9 (Deep.blk_alloc_new _ _) (by rw [strCells_length]; exact (Nat.min_self n).symm)
    (fun j v hj => by
      have hjn : j < n := by
        have := (List.getElem?_eq_some_iff.1 hj).1
        rwa [strCells_length] at this
      rw [Addr.add_lit, World.cell?_alloc_past _ _ _ hbw, hcell j hjn]
      simp [strCells, hjn] at hj
      rw [hj])
    (by rw [strCells_length, size_madeCells]; omega) (strCells_one S n)
  rw [h, strCells_length]
  have e : ((madeCells #[Value.string ByteArray.empty] n).toList.take 0 ++ strCells S n ++ (madeCells #[Value.string ByteArray.empty] n).toList.drop (0 + n)) = strCells S n := by
    have : (madeCells #[Value.string ByteArray.empty] n).toList.drop (0 + n) = [] := List.drop_eq_nil_of_le (by rw [Array.length_toList, size_madeCells]; omega)
    rw [this]; simp
  rw [e]
  rfl

theorem cloned_below (w : World) (S : Nat → ByteArray) (n : Nat) : Below w.heap.size w (cloned w S n) :=
  below_setRow ((Below.refl _ _).alloc (Nat.le_refl _) _) (Nat.le_refl _) _

theorem cloned_row (w : World) (S : Nat → ByteArray) (n : Nat) : (cloned w S n).rowIs w.heap.size 9 n (fun i => .string (S i)) :=
  ⟨(strCells S n).toArray, setRow_heap _ _ _ _ _ _ (Deep.blk_alloc_new _ _), by simp [strCells], fun i hi => by simp [strCells, hi]⟩

theorem cloned_strs (w : World) (S : Nat → ByteArray) (n : Nat) (hn : n ≤ 1048576) (hS : ∀ i, i < n → (S i).size ≤ maxLen) : Strs (cloned w S n) (some ⟨w.heap.size, 0, none⟩) n n S :=
  ⟨Nat.le_refl _, by unfold maxLen; omega, hS, fun _ => ⟨_, 0, rfl, (cloned_row w S n).lt, fun i hi => by rw [Nat.zero_add]; exact (cloned_row w S n).cell hi⟩⟩

set_option maxHeartbeats 400000 in
theorem clone_any (ao : Option Addr) (n cap : Nat) (S : Nat → ByteArray) (w : World) (h : Strs w ao n cap S) (hn : n ≤ 1048576) :
    Calls Trym.prog 10 #[.slice ao n cap] w fun e w' => ∃ ao' cap', e = .returned (.slice ao' n cap') ∧ Strs w' ao' n cap' S ∧ Below w.heap.size w w' := by
  have hnil : ∀ (W : World) (a : Option Addr) (n c n' c' : Nat), (binOp .eql 22 (.slice a n c) (.slice none n' c')).run Trym.prog W = .ok (.bool a.isNone) W := fun W a n c n' c' => Lib.run_eql_slice_nil W _ _ a n c n' c' Trym.underlying22
  by_cases h0 : 0 < n
  · obtain ⟨b, off, rfl, hbw, hcell⟩ := h.2.2.2 h0
    have hmk := run_make_row' (P := Trym.prog) 22 9 (.string ByteArray.empty) 16 Trym.underlying22 Trym.info9 rfl .i64 .i64 n (by omega) (by omega)
    have hcp := run_clone w S n cap b off hbw hcell
    have HF : Hid (Strs (cloned w S n) (some ⟨w.heap.size, 0, none⟩) n n S ∧ Below w.heap.size w (cloned w S n)) := ⟨cloned_strs w S n hn h.2.2.1, cloned_below w S n⟩
    clear h hcell
    go_enter Trym.func10, Trym.ntmps10
    go_wp2
    go_ret
    exact ⟨_, _, rfl, HF.out.1, HF.out.2⟩
  · obtain rfl : n = 0 := by omega
    have hS := h.2.2.1
    clear h
    cases ao with
    | none =>
      go_enter Trym.func10, Trym.ntmps10
      go_wp2
      go_ret
      exact ⟨none, 0, rfl, ⟨Nat.le_refl _, Nat.zero_le _, hS, fun h => absurd h (by omega)⟩, Below.refl _ _⟩
    | some a =>
      have hmk : ∀ w : World, (Instr.makeSlice 22 (.int .i64 0) (.int .i64 0)).run Trym.prog w = .ok (.slice (some ⟨w.heap.size, 0, none⟩) 0 0) (w.alloc (.cells (madeCells #[.string ByteArray.empty] 0) 9)) := run_make_row' (P := Trym.prog) 22 9 (.string ByteArray.empty) 16 Trym.underlying22 Trym.info9 rfl .i64 .i64 0 (by omega) (by omega)
      have hcp := fun (W : World) (ty : TypeId) (d a : Option Addr) (c c' : Nat) => run_copy_none (P := Trym.prog) W 22 22 ty 9 d a 0 c 0 c' Trym.underlying22 Trym.size9 rfl
      go_enter Trym.func10, Trym.ntmps10
      go_wp2
      go_ret
      exact ⟨_, _, rfl, ⟨Nat.le_refl _, Nat.zero_le _, hS, fun h => absurd h (by omega)⟩, (Below.refl _ _).alloc (Nat.le_refl _) _⟩

/-! ### The bounds -/

set_option maxHeartbeats 1000000 in
theorem bytes8_any (ao : Option Addr) (n cap : Nat) (S : Nat → ByteArray) (bo : Option Addr) (n' cap' : Nat) (T : Nat → ByteArray) (w : World) (h : Strs w ao n cap S) (h' : Strs w bo n' cap' T) :
    Calls Trym.prog 8 #[.slice ao n cap, .slice bo n' cap'] w fun e w' => Says S T n n' e ∧ w' = w := by
  have hsp := h.split
  have hsp' := h'.split
  have hcm : n ≤ maxLen := Nat.le_trans h.1 h.2.1
  have hcm' : n' ≤ maxLen := Nat.le_trans h'.1 h'.2.1
  have hS := h.2.2.1
  have hT := h'.2.2.1
  clear h h'
  unfold maxLen at hcm hcm' hS hT
  by_cases hn : n ≤ 1048576
  · rcases hsp with ⟨b, off, rfl, hbw, hcell⟩ | hn0
    all_goals
      go_enter Trym.func8, Trym.ntmps8
      go_wp2
      go_loop [5, 6] (fun t i => ∃ (k m : Nat), k ≤ n ∧ m ≤ 1048576 ∧ i = .int .i64 k ∧ t = .int .i64 m ∧ Short S k) (fun _ i => n - (intOf i).toNat)
      case atStart => exact ⟨0, n, by omega, by omega, rfl, rfl, short_zero S⟩
      case round =>
        obtain ⟨k, m, hk, hm, rfl, rfl, hsh⟩ := hrel
        by_cases hlt : k < n
        · first
          | (exfalso; omega)
          | (have hc := hcell k hlt
             have hk2 := hS k hlt
             go_wp2
             · go_ret
               exact ⟨says_no _ _ _ _, rfl⟩
             · go_ret
               exact ⟨says_no _ _ _ _, rfl⟩
             · go_round
               case rel => exact ⟨k + 1, m + (S k).size, by omega, by omega, by go_num, by go_num, hsh.step (by omega)⟩
               case measure => simp [intOf]; omega)
        · obtain rfl : k = n := by omega
          by_cases hn' : n' ≤ 1048576
          · by_cases hn2 : m + n' ≤ 1048576
            · rcases hsp' with ⟨b', off', rfl, hbw', hcell'⟩ | hn0'
              all_goals
                go_wp2
                go_loop [5, 7] (fun t i => ∃ (j m : Nat), j ≤ n' ∧ m ≤ 1048576 ∧ i = .int .i64 j ∧ t = .int .i64 m ∧ Short T j) (fun _ i => n' - (intOf i).toNat)
                case atStart => exact ⟨0, m + n', by omega, by omega, rfl, by go_num, short_zero T⟩
                case round =>
                  obtain ⟨j, m2, hj, hm2, rfl, rfl, hsh2⟩ := hrel
                  by_cases hlt2 : j < n'
                  · first
                    | (exfalso; omega)
                    | (have hc := hcell' j hlt2
                       have hk2 := hT j hlt2
                       go_wp2
                       · go_ret
                         exact ⟨says_no _ _ _ _, rfl⟩
                       · go_ret
                         exact ⟨says_no _ _ _ _, rfl⟩
                       · go_round
                         case rel => exact ⟨j + 1, m2 + (T j).size, by omega, by omega, by go_num, by go_num, hsh2.step (by omega)⟩
                         case measure => simp [intOf]; omega)
                  · obtain rfl : j = n' := by omega
                    go_wp2
                    go_ret
                    exact ⟨says_yes hsh hsh2, rfl⟩
            · go_wp2
              go_ret
              exact ⟨says_no _ _ _ _, rfl⟩
          · go_wp2
            go_ret
            exact ⟨says_no _ _ _ _, rfl⟩
  · go_enter Trym.func8, Trym.ntmps8
    go_wp2
    go_ret
    exact ⟨says_no _ _ _ _, rfl⟩

set_option maxHeartbeats 1000000 in
theorem bytes13_any (ao : Option Addr) (n cap : Nat) (S : Nat → ByteArray) (bo : Option Addr) (n' cap' : Nat) (T : Nat → ByteArray) (w : World) (h : Strs w ao n cap S) (h' : Strs w bo n' cap' T) :
    Calls Trym.prog 13 #[.slice ao n cap, .slice bo n' cap'] w fun e w' => Says S T n n' e ∧ w' = w := by
  have hsp := h.split
  have hsp' := h'.split
  have hcm : n ≤ maxLen := Nat.le_trans h.1 h.2.1
  have hcm' : n' ≤ maxLen := Nat.le_trans h'.1 h'.2.1
  have hS := h.2.2.1
  have hT := h'.2.2.1
  clear h h'
  unfold maxLen at hcm hcm' hS hT
  by_cases hn : n ≤ 1048576
  · rcases hsp with ⟨b, off, rfl, hbw, hcell⟩ | hn0
    all_goals
      go_enter Trym.func13, Trym.ntmps13
      go_wp2
      go_loop [5, 6] (fun t i => ∃ (k m : Nat), k ≤ n ∧ m ≤ 1048576 ∧ i = .int .i64 k ∧ t = .int .i64 m ∧ Short S k) (fun _ i => n - (intOf i).toNat)
      case atStart => exact ⟨0, n, by omega, by omega, rfl, rfl, short_zero S⟩
      case round =>
        obtain ⟨k, m, hk, hm, rfl, rfl, hsh⟩ := hrel
        by_cases hlt : k < n
        · first
          | (exfalso; omega)
          | (have hc := hcell k hlt
             have hk2 := hS k hlt
             go_wp2
             · go_ret
               exact ⟨says_no _ _ _ _, rfl⟩
             · go_ret
               exact ⟨says_no _ _ _ _, rfl⟩
             · go_round
               case rel => exact ⟨k + 1, m + (S k).size, by omega, by omega, by go_num, by go_num, hsh.step (by omega)⟩
               case measure => simp [intOf]; omega)
        · obtain rfl : k = n := by omega
          by_cases hn' : n' ≤ 1048576
          · by_cases hn2 : m + n' ≤ 1048576
            · rcases hsp' with ⟨b', off', rfl, hbw', hcell'⟩ | hn0'
              all_goals
                go_wp2
                go_loop [5, 7] (fun t i => ∃ (j m : Nat), j ≤ n' ∧ m ≤ 1048576 ∧ i = .int .i64 j ∧ t = .int .i64 m ∧ Short T j) (fun _ i => n' - (intOf i).toNat)
                case atStart => exact ⟨0, m + n', by omega, by omega, rfl, by go_num, short_zero T⟩
                case round =>
                  obtain ⟨j, m2, hj, hm2, rfl, rfl, hsh2⟩ := hrel
                  by_cases hlt2 : j < n'
                  · first
                    | (exfalso; omega)
                    | (have hc := hcell' j hlt2
                       have hk2 := hT j hlt2
                       go_wp2
                       · go_ret
                         exact ⟨says_no _ _ _ _, rfl⟩
                       · go_ret
                         exact ⟨says_no _ _ _ _, rfl⟩
                       · go_round
                         case rel => exact ⟨j + 1, m2 + (T j).size, by omega, by omega, by go_num, by go_num, hsh2.step (by omega)⟩
                         case measure => simp [intOf]; omega)
                  · obtain rfl : j = n' := by omega
                    go_wp2
                    go_ret
                    exact ⟨says_yes hsh hsh2, rfl⟩
            · go_wp2
              go_ret
              exact ⟨says_no _ _ _ _, rfl⟩
          · go_wp2
            go_ret
            exact ⟨says_no _ _ _ _, rfl⟩
  · go_enter Trym.func13, Trym.ntmps13
    go_wp2
    go_ret
    exact ⟨says_no _ _ _ _, rfl⟩

end Go.Proofs.Qxb6601771aMods
