/-
  THE WALK of FnTemplateForShiftsPastAnUnrelatedTemplate.
-/
import Derived.Test.Qxb6600428aModsTpl
namespace Go.Proofs.Qxb6600428aMods
open Go.RowKit Plain

theorem fi_le (want : Bs) (l : List Bs) (i : Nat) : fi want l i ≤ i + l.length := by
  induction l generalizing i with
  | nil => simp only [fi, List.length_nil]; omega
  | cons x r ih =>
    unfold fi
    split
    · omega
    · have := ih (i + 1)
      simp only [List.length_cons]
      omega
theorem tf_le (v : Bs) (S : Nat → ByteArray) (n : Nat) : tf v (L S n) (-1) 0 ≤ n := by
  rw [tf_tm]
  unfold tm
  have a := fi_le v (L S n) 0
  have b := fi_le [42] (L S n) 0
  rw [L_length] at a b
  split <;> omega

/-- The other one in front. -/
def front (o : ByteArray) (S : Nat → ByteArray) : Nat → ByteArray
  | 0 => o
  | i + 1 => S i
/-- The cells of the longer slice so far. -/
def frontCells (o : ByteArray) (S : Nat → ByteArray) (k : Nat) : List Value := (List.range k).map fun i => .string (front o S i)
theorem frontCells_step (o : ByteArray) (S : Nat → ByteArray) (k : Nat) : frontCells o S (k + 1) ++ [.string (S k)] = frontCells o S (k + 1 + 1) := by
  unfold frontCells
  rw [List.range_succ (n := k + 1), List.map_append]
  rfl
theorem front_list (o : ByteArray) (S : Nat → ByteArray) (n : Nat) : L (front o S) (n + 1) = o.toList :: L S n := by
  unfold L
  rw [List.range_succ_eq_map, List.map_cons, List.map_map]
  rfl

/-- What is owned is a slice of strings. -/
theorem strs_front {w : World} {B g k cap : Nat} {o : ByteArray} {S : Nat → ByteArray} (h : w.ownsRow B 9 1 (.slice (some ⟨g, 0, none⟩) k cap) k (frontCells o S k)) (hg : g < w.heap.size) (hs : ∀ i, i < k → (front o S i).size ≤ maxLen) (hc : cap ≤ maxLen) (hk : k ≤ cap) :
    Strs w (some ⟨g, 0, none⟩) k cap (front o S) := by
  refine ⟨hk, hc, hs, fun _ => ⟨g, 0, rfl, hg, fun i hi => ?_⟩⟩
  have := h.cellAt i (by omega)
  rw [Nat.zero_add, this]
  simp [frontCells, hi]

theorem shift_all (v : ByteArray) (n : Nat) (S : Nat → ByteArray) (o : ByteArray) (h1 : (o.toList == v.toList) = false) (h2 : ¬ o.toList = [42]) :
    tf v.toList (L (front o S) (n + 1)) (-1) 0 = if tf v.toList (L S n) (-1) 0 < 0 then -1 else tf v.toList (L S n) (-1) 0 + 1 := by
  rw [front_list]
  exact tf_shift _ _ _ (by simpa using h1) h2

theorem front_below {w1 w2 w3 : World} {o : Obj} (h2 : w1.grownBy w2 none) (h3 : (w2.alloc o).grownBy w3 (some w1.heap.size)) : Below w1.heap.size w1 w3 :=
  ((((Below.refl w1.heap.size w1).grown h2 (Nat.le_refl _) (fun k e => by cases e)).alloc h2.size o)).grown h3 (by have := h2.size; simp; omega) (fun k e => by cases e; exact Nat.le_refl _)

theorem owns_lt {w : World} {B e size g n cap m : Nat} {xs : List Value} (h : w.ownsRow B e size (.slice (some ⟨g, 0, none⟩) n cap) m xs) : g < w.heap.size := by
  rcases h.2 with ⟨h', _⟩ | ⟨g', cap', cur, h', _, hg, _⟩
  · cases h'
  · simp only [Value.slice.injEq, Option.some.injEq, Addr.mk.injEq, and_true] at h'
    obtain ⟨rfl, _⟩ := h'
    exact (Array.getElem?_eq_some_iff.1 hg).1

theorem front_short {o : ByteArray} {S : Nat → ByteArray} {n : Nat} (ho : o.size ≤ maxLen) (hS : ∀ i, i < n → (S i).size ≤ maxLen) : ∀ i, i < n + 1 → (front o S i).size ≤ maxLen
  | 0, _ => ho
  | i + 1, hi => hS i (by omega)

theorem str_oneCell (s : ByteArray) : ∀ u ∈ [Value.string s], u.oneCell' = true := by
  intro u hu
  simp at hu
  subst hu
  rfl

set_option maxHeartbeats 1000000 in
theorem law7_zero (ao : Option Addr) (cap : Nat) (S : Nat → ByteArray) (v o : ByteArray) (w : World) (h0 : Strs w ao 0 cap S) (hv : v.size ≤ maxLen) (ho : o.size ≤ maxLen) (hb2 : v.size ≤ 1048576) (hb3 : o.size ≤ 1048576) :
    Calls Trym.prog 7 #[.slice ao 0 cap, .string v, .string o] w fun e w' => e = .returned (.bool true) ∧ Below w.heap.size w w' := by
  obtain ⟨i0, hi, hz0, hz1, hz2⟩ := info_parts Trym.info9
  go_enter Trym.func7, Trym.ntmps7
  go_wp2_with (go_at_call 17; refine (bytes17_any _ _ _ S _ _ _ h0 hv ho).mono ?_; rintro e w' ⟨rfl | ⟨rfl, hsh⟩, rfl⟩)
  · go_ret
    exact ⟨rfl, Below.refl _ _⟩
  go_loop [8] (fun i => i = .int .i64 0) (fun _ => 0)
  case atStart => exact rfl
  case round =>
    obtain rfl := hrel
    go_wp2_with fail
    · go_ret
      exact ⟨rfl, Below.refl _ _⟩
    · go_ret
      exact ⟨rfl, Below.refl _ _⟩
    have hne : ((o.toList == v.toList) = false ∧ (o.toList == [42]) = false) := by assumption
    have HX : Hid (tf v.toList (L (front o S) 1) (-1) 0 = if tf v.toList (L S 0) (-1) 0 < 0 then -1 else tf v.toList (L S 0) (-1) 0 + 1) := shift_all v 0 S o hne.1 (by simpa using hne.2)
    clear hne
    refine (copy_any _ _ _ S _ h0 (by omega)).mono ?_
    rintro e w1 ⟨ao1, cap1, rfl, hs1, hbel1⟩
    have HS1 : Hid (Strs w1 ao1 0 cap1 S) := hs1
    clear hs1
    go_wp2_with (first | (at_make; refine wpList_make_own _ rfl _ _ 24 rfl w1.heap.size 9 i0 _ 1 Trym.underlying24 hi hz0 hz1 _ _ _ 1 rfl rfl (by omega) (by rw [hz2]; omega) (by unfold maxLen; omega) (Nat.le_refl _) ?_; intro w2 hown2 hgrow2; have hz2b := hgrow2.size) | (at_builtin; refine wpList_append_fits _ rfl (.tmp 65) (.tmp 67) 24 rfl w1.heap.size 9 i0 1 Trym.underlying24 hi hz1 w1.heap.size 0 1 [] rfl (hown2.alloc _) ⟨w2.heap.size, 0, none⟩ 1 1 [.string o] rfl rfl (cell_one_new _ _ _) (str_oneCell _) (by omega) ?_; intro w3 hown3 hgrow3))
    have hbel3 : Below w1.heap.size w1 w3 := front_below hgrow2 hgrow3
    go_loopw [9, 10] (fun x i wr => x = .slice (some ⟨w1.heap.size, 0, none⟩) 1 1 ∧ i = .int .i64 0 ∧ wr.ownsRow w1.heap.size 9 1 (.slice (some ⟨w1.heap.size, 0, none⟩) 1 1) 1 (frontCells o S 1) ∧ Below w1.heap.size w1 wr) (fun _ _ _ => 0)
    case atStart => exact ⟨rfl, rfl, hown3, hbel3⟩
    case round =>
      clear hown3 hgrow3 hown2 hgrow2
      obtain ⟨rfl, rfl, hown, hbel⟩ := hrel
      have hsz := hbel.size
      have hgl := owns_lt hown
      have hstr : Strs wr (some ⟨w1.heap.size, 0, none⟩) 1 1 (front o S) := strs_front hown hgl (fun i hi => front_short (n := 0) ho (fun j hj => absurd hj (by omega)) i (by omega)) (by unfold maxLen; omega) (Nat.le_refl _)
      go_wp2_with fail
      refine (zztpl_any ao1 0 cap1 S v wr (HS1.out.below hbel (Nat.le_refl _)) (by omega)).mono ?_
      rintro e w5 ⟨rfl, hbel5⟩
      go_wp2_with fail
      refine (zztpl_any (some ⟨w1.heap.size, 0, none⟩) 1 1 (front o S) v w5 (hstr.below hbel5 (Nat.le_refl _)) (by omega)).mono ?_
      rintro e w6 ⟨rfl, hbel6⟩
      have hfin : Below w'.heap.size w' w6 := hbel1.trans (((hbel.trans (hbel5.mono hsz)).trans (hbel6.mono (Nat.le_trans hsz hbel5.size))).mono hbel1.size)
      rw [HX.out]
      by_cases hneg : tf v.toList (L S 0) (-1) 0 < 0
      · rw [if_pos hneg]
        go_wp2_with fail
        go_ret
        exact ⟨rfl, hfin⟩
      · rw [if_neg hneg]
        have hup := tf_le v.toList S 0
        go_wp2_with fail

set_option maxHeartbeats 1000000 in
theorem law7_pos (ao : Option Addr) (n cap : Nat) (S : Nat → ByteArray) (v o : ByteArray) (w : World) (h0 : Strs w ao n cap S) (hn0 : 0 < n) (hv : v.size ≤ maxLen) (ho : o.size ≤ maxLen) (hb1 : n ≤ 65536) (hb2 : v.size ≤ 1048576) (hb3 : o.size ≤ 1048576) :
    Calls Trym.prog 7 #[.slice ao n cap, .string v, .string o] w fun e w' => e = .returned (.bool true) ∧ Below w.heap.size w w' := by
  obtain ⟨b, off, rfl, hbw, hcell⟩ := h0.2.2.2 hn0
  obtain ⟨i0, hi, hz0, hz1, hz2⟩ := info_parts Trym.info9
  go_enter Trym.func7, Trym.ntmps7
  go_wp2_with (go_at_call 17; refine (bytes17_any _ _ _ S _ _ _ h0 hv ho).mono ?_; rintro e w' ⟨rfl | ⟨rfl, hsh⟩, rfl⟩)
  · go_ret
    exact ⟨rfl, Below.refl _ _⟩
  go_loop [7, 8] (fun t i => ∃ (k m : Nat), k ≤ n ∧ m ≤ 2097152 ∧ i = .int .i64 k ∧ t = .int .i64 m) (fun _ i => n - (intOf i).toNat)
  case atStart => exact ⟨0, v.size + o.size, by omega, by omega, rfl, by go_num⟩
  case round =>
    obtain ⟨k, m, hk, hm, rfl, rfl⟩ := hrel
    by_cases hlt : k < n
    · have hc := hcell k hlt
      have hk2 := hsh k hlt
      go_wp2_with fail
      · go_ret
        exact ⟨rfl, Below.refl _ _⟩
      · go_round
        case rel => exact ⟨k + 1, m + 16 + (S k).size, by omega, by omega, by go_num, by go_num⟩
        case measure => simp [intOf]; omega
    · go_wp2_with fail
      · go_ret
        exact ⟨rfl, Below.refl _ _⟩
      · go_ret
        exact ⟨rfl, Below.refl _ _⟩
      have hne : ((o.toList == v.toList) = false ∧ (o.toList == [42]) = false) := by assumption
      have HX : Hid (tf v.toList (L (front o S) (n + 1)) (-1) 0 = if tf v.toList (L S n) (-1) 0 < 0 then -1 else tf v.toList (L S n) (-1) 0 + 1) := shift_all v n S o hne.1 (by simpa using hne.2)
      clear hne
      refine (copy_any _ _ _ S _ h0 (by omega)).mono ?_
      rintro e w1 ⟨ao1, cap1, rfl, hs1, hbel1⟩
      obtain ⟨b1, off1, hao1, hbw1, hcell1⟩ := hs1.2.2.2 hn0
      have HS1 : Hid (Strs w1 ao1 n cap1 S) := hs1
      clear hs1
      subst hao1
      go_wp2_with (first | (at_make; refine wpList_make_own _ rfl _ _ 24 rfl w1.heap.size 9 i0 _ 1 Trym.underlying24 hi hz0 hz1 _ _ _ (n + 1) rfl rfl (by omega) (by rw [hz2]; omega) (by unfold maxLen; omega) (Nat.le_refl _) ?_; intro w2 hown2 hgrow2; have hz2b := hgrow2.size) | (at_builtin; refine wpList_append_fits _ rfl (.tmp 65) (.tmp 67) 24 rfl w1.heap.size 9 i0 1 Trym.underlying24 hi hz1 w1.heap.size 0 (n + 1) [] rfl (hown2.alloc _) ⟨w2.heap.size, 0, none⟩ 1 1 [.string o] rfl rfl (cell_one_new _ _ _) (str_oneCell _) (by omega) ?_; intro w3 hown3 hgrow3))
      have hbel3 : Below w1.heap.size w1 w3 := front_below hgrow2 hgrow3
      go_loopw [9, 10] (fun x i wr => ∃ k : Nat, k ≤ n ∧ i = .int .i64 k ∧ x = .slice (some ⟨w1.heap.size, 0, none⟩) (k + 1) (n + 1) ∧ wr.ownsRow w1.heap.size 9 1 (.slice (some ⟨w1.heap.size, 0, none⟩) (k + 1) (n + 1)) (k + 1) (frontCells o S (k + 1)) ∧ Below w1.heap.size w1 wr) (fun _ i _ => n - (intOf i).toNat)
      case atStart => exact ⟨0, by omega, rfl, rfl, hown3, hbel3⟩
      case round =>
        clear hown3 hgrow3 hown2 hgrow2
        obtain ⟨j, hj, rfl, rfl, hown, hbel⟩ := hrel
        by_cases hjn : j < n
        · have hc1 := (hbel.cell (p := ⟨b1, off1 + j, none⟩) hbw1).trans (hcell1 j hjn)
          have hsz := hbel.size
          go_wp2_with (at_builtin; refine wpList_append_fits _ rfl (.tmp 75) (.tmp 80) 24 rfl w1.heap.size 9 i0 1 Trym.underlying24 hi hz1 w1.heap.size (j + 1) (n + 1) _ rfl (hown.alloc _) ⟨wr.heap.size, 0, none⟩ 1 1 [.string (S j)] rfl rfl (cell_one_new _ _ _) (str_oneCell _) (by omega) ?_; intro w4 hown4 hgrow4)
          rw [frontCells_step] at hown4
          have hbel4 : Below w1.heap.size w1 w4 := (hbel.alloc hsz _).grown hgrow4 (by simp; omega) (fun k e => by cases e; exact Nat.le_refl _)
          go_roundw
          case rel => exact ⟨j + 1, by omega, by go_num, rfl, hown4, hbel4⟩
          case measure => simp [intOf]; omega
        · obtain rfl : j = n := by omega
          have hsz := hbel.size
          have hgl := owns_lt hown
          go_wp2_with fail
          refine (zztpl_any _ _ _ S _ _ (HS1.out.below hbel (Nat.le_refl _)) (by omega)).mono ?_
          rintro e w5 ⟨rfl, hbel5⟩
          go_wp2_with fail
          refine (zztpl_any _ _ _ (front o S) _ _ ((strs_front hown hgl (front_short ho HS1.out.2.2.1) (by unfold maxLen; omega) (Nat.le_refl _)).below hbel5 (Nat.le_refl _)) (by omega)).mono ?_
          rintro e w6 ⟨rfl, hbel6⟩
          have hfin : Below w'.heap.size w' w6 := hbel1.trans (((hbel.trans (hbel5.mono hsz)).trans (hbel6.mono (Nat.le_trans hsz hbel5.size))).mono hbel1.size)
          rw [HX.out]
          by_cases hneg : tf v.toList (L S j) (-1) 0 < 0
          · rw [if_pos hneg]
            go_wp2_with fail
            go_ret
            exact ⟨rfl, hfin⟩
          · rw [if_neg hneg]
            have hup := tf_le v.toList S j
            go_wp2_with fail
            go_ret
            exact ⟨by simp, hfin⟩

set_option maxHeartbeats 400000 in
theorem law7_any (ao : Option Addr) (n cap : Nat) (S : Nat → ByteArray) (v o : ByteArray) (w : World) (h0 : Strs w ao n cap S) (hv : v.size ≤ maxLen) (ho : o.size ≤ maxLen) :
    Calls Trym.prog 7 #[.slice ao n cap, .string v, .string o] w fun e w' => e = .returned (.bool true) ∧ Below w.heap.size w w' := by
  by_cases hb : n ≤ 65536 ∧ v.size ≤ 1048576 ∧ o.size ≤ 1048576
  · obtain ⟨hb1, hb2, hb3⟩ := hb
    by_cases hn0 : 0 < n
    · exact law7_pos ao n cap S v o w h0 hn0 hv ho hb1 hb2 hb3
    · obtain rfl : n = 0 := by omega
      exact law7_zero ao cap S v o w h0 hv ho hb2 hb3
  · have hcm : n ≤ maxLen := Nat.le_trans h0.1 h0.2.1
    unfold maxLen at hcm
    have hv2 : v.size ≤ 9223372036854775807 := hv
    have ho2 : o.size ≤ 9223372036854775807 := ho
    have hb' : 65536 < n ∨ (n ≤ 65536 ∧ 1048576 < v.size) ∨ (n ≤ 65536 ∧ v.size ≤ 1048576 ∧ 1048576 < o.size) := by omega
    clear hb
    rcases hb' with hb | ⟨hb, hb2⟩ | ⟨hb, hb2, hb3⟩
    all_goals
      go_enter Trym.func7, Trym.ntmps7
      go_wp2_with (go_at_call 17; refine (bytes17_any _ _ _ S _ _ _ h0 hv ho).mono ?_; rintro e w' ⟨rfl | ⟨rfl, hsh⟩, rfl⟩)
      · go_ret
        exact ⟨rfl, Below.refl _ _⟩
      · go_ret
        exact ⟨rfl, Below.refl _ _⟩
end Go.Proofs.Qxb6600428aMods
