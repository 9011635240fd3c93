/-
  THE WALKS of templateFor, ZZTemplateForVersions.
-/
import Derived.Test.Qxb6600428aModsStrs
namespace Go.Proofs.Qxb6600428aMods
open Go.RowKit Plain

def e0 : Value := .string ByteArray.empty
theorem Trym.info36 : (Trym.prog.info? 36).map (fun i => (i.zero, i.size, i.bytes)) = some (some (.agg #[.string ByteArray.empty, .string ByteArray.empty, .slice none 0 0, .string ByteArray.empty]), 4, 72) := by kernel_rfl

/-- THE TEMPLATES: four cells each, the first the version. -/
def Tpls (w : World) (g n : Nat) (S : Nat → ByteArray) : Prop :=
  ∀ i, i < n → w.cell? ⟨g, i * 4, none⟩ = some (.string (S i)) ∧ w.cell? ⟨g, i * 4 + 1, none⟩ = some (.string ByteArray.empty) ∧ w.cell? ⟨g, i * 4 + 2, none⟩ = some (.slice none 0 0) ∧ w.cell? ⟨g, i * 4 + 3, none⟩ = some (.string ByteArray.empty)

set_option maxHeartbeats 400000 in
theorem tplFor_any (g n : Nat) (S : Nat → ByteArray) (v : ByteArray) (w : World) (hg : g < w.heap.size) (h : Tpls w g n S) (hn : n ≤ 1048577) :
    Calls Trym.prog 20 #[.agg #[.slice (some ⟨g, 0, none⟩) n n], .string v] w fun e w' => e = .returned (.int .i64 (tf v.toList (L S n) (-1) 0)) ∧ Below w.heap.size w w' := by
  have HT : Hid (Tpls w g n S) := h
  clear h
  go_enter Trym.func20, Trym.ntmps20
  go_wp2
  go_loopw [5, 11] (fun f i wr => ∃ (k : Nat) (c : Int), k ≤ n ∧ i = .int .i64 k ∧ f = .int .i64 c ∧ Hid (tfAt v.toList (L S n) c k = tf v.toList (L S n) (-1) 0) ∧ Below w.heap.size w wr) (fun _ i _ => n - (intOf i).toNat)
  case atStart => exact ⟨0, -1, by omega, rfl, rfl, rfl, (Below.refl _ _).alloc (Nat.le_refl _) _⟩
  case round =>
    obtain ⟨k, c, hk, rfl, rfl, HR, hbel⟩ := hrel
    by_cases hlt : k < n
    · obtain ⟨t0, t1, t2, t3⟩ := HT.out k hlt
      have c0 := (hbel.cell (p := ⟨g, k * 4, none⟩) hg).trans t0
      have c1 := (hbel.cell (p := ⟨g, k * 4 + 1, none⟩) hg).trans t1
      have c2 := (hbel.cell (p := ⟨g, k * 4 + 2, none⟩) hg).trans t2
      have c3 := (hbel.cell (p := ⟨g, k * 4 + 3, none⟩) hg).trans t3
      clear t0 t1 t2 t3
      have hBs : w.heap.size ≤ wr.heap.size := hbel.size
      have hl : k < (L S n).length := by rw [L_length]; exact hlt
      have HA : Hid ((L S n)[k] = (S k).toList) := L_at S n k hl
      go_wp2
      · have he : ((S k).toList == v.toList) = true := by assumption
        go_ret
        exact ⟨retI (by rw [← HR.out, tfAt_hit _ _ _ k hl (by rw [HA.out]; simpa using he)]), hbel.alloc hBs _⟩
      · have he : ((S k).toList == v.toList) = false := by assumption
        have h1 : (S k).toList = [42] := by assumption
        have h2 : c < 0 := by assumption
        go_roundw
        case rel => exact ⟨k + 1, k, by omega, by go_num, rfl, by rw [← HR.out, tfAt_star _ _ _ k hl (by rw [HA.out]; simpa using he) (by rw [HA.out, h1]) h2]; rfl, hbel.alloc hBs _⟩
        case measure => simp [intOf]; omega
      · have he : ((S k).toList == v.toList) = false := by assumption
        have h2 : 0 ≤ c := by assumption
        go_roundw
        case rel => exact ⟨k + 1, c, by omega, by go_num, rfl, by rw [← HR.out, tfAt_miss _ _ _ k hl (by rw [HA.out]; simpa using he) (by omega)]; rfl, hbel.alloc hBs _⟩
        case measure => simp [intOf]; omega
      · have he : ((S k).toList == v.toList) = false := by assumption
        have h1 : ¬ (S k).toList = [42] := by assumption
        go_roundw
        case rel => exact ⟨k + 1, c, by omega, by go_num, rfl, by rw [← HR.out, tfAt_miss _ _ _ k hl (by rw [HA.out]; simpa using he) (by rw [HA.out]; exact fun h => h1 h.1)]; rfl, hbel.alloc hBs _⟩
        case measure => simp [intOf]; omega
    · go_wp2
      go_ret
      exact ⟨retI (by rw [← HR.out, tfAt_end _ _ _ _ (by rw [L_length]; omega)]), hbel⟩

/-- The cells of the templates so far. -/
def laid (S : Nat → ByteArray) (k : Nat) (j : Nat) : Value :=
  if j % 4 = 0 then (if j / 4 < k then .string (S (j / 4)) else .string ByteArray.empty) else if j % 4 = 2 then .slice none 0 0 else .string ByteArray.empty

theorem laid_step {w : World} {g n k : Nat} {S : Nat → ByteArray} (h : w.rowIs g 36 n (laid S k)) : (w.setCell ⟨g, k * 4, none⟩ (.string (S k))).rowIs g 36 n (laid S (k + 1)) :=
  (h.set (k * 4) _).congr fun i _ => by
    unfold laid
    by_cases h1 : i = k * 4
    · subst h1
      rw [if_pos rfl, if_pos (by omega), if_pos (by omega), show k * 4 / 4 = k by omega]
    · rw [if_neg h1]
      by_cases h2 : i % 4 = 0
      · rw [if_pos h2, if_pos h2]
        by_cases h3 : i / 4 < k
        · rw [if_pos h3, if_pos (by omega)]
        · rw [if_neg h3, if_neg (by omega)]
      · rw [if_neg h2, if_neg h2]

theorem laid_done {w : World} {g n : Nat} {S : Nat → ByteArray} (h : w.rowIs g 36 (n * 4) (laid S n)) : Tpls w g n S := fun i hi => by
  have a0 := h.cell (i := i * 4) (by omega)
  have a1 := h.cell (i := i * 4 + 1) (by omega)
  have a2 := h.cell (i := i * 4 + 2) (by omega)
  have a3 := h.cell (i := i * 4 + 3) (by omega)
  unfold laid at a0 a1 a2 a3
  rw [if_pos (by omega), if_pos (by omega), show i * 4 / 4 = i by omega] at a0
  rw [if_neg (by omega), if_neg (by omega)] at a1
  rw [if_neg (by omega), if_pos (by omega)] at a2
  rw [if_neg (by omega), if_neg (by omega)] at a3
  exact ⟨a0, a1, a2, a3⟩

theorem laid_made (w : World) (n : Nat) (S : Nat → ByteArray) :
    (w.alloc (.cells (madeCells #[.string ByteArray.empty, .string ByteArray.empty, .slice none 0 0, .string ByteArray.empty] (n * 4)) 36)).rowIs w.heap.size 36 (n * 4) (laid S 0) :=
  ⟨madeCells #[.string ByteArray.empty, .string ByteArray.empty, .slice none 0 0, .string ByteArray.empty] (n * 4), Deep.blk_alloc_new _ _, size_madeCells _ _, fun i hi => by
    have : i % 4 = 0 ∨ i % 4 = 1 ∨ i % 4 = 2 ∨ i % 4 = 3 := by omega
    unfold laid
    rcases this with h | h | h | h <;> simp [madeCells, hi, h]⟩

theorem make33 (n : Nat) (hn : n ≤ 1048577) (w : World) :
    (Instr.makeSlice 33 (.int .i64 (n : Int)) (.int .i64 (n : Int))).run Trym.prog w = .ok (.slice (some ⟨w.heap.size, 0, none⟩) n n)
      (w.alloc (.cells (madeCells #[.string ByteArray.empty, .string ByteArray.empty, .slice none 0 0, .string ByteArray.empty] (n * 4)) 36)) := by
  obtain ⟨i, hi, hz, hs, hb⟩ := info_parts Trym.info36
  have hr := run_make (P := Trym.prog) w 33 36 i _ Trym.underlying33 hi hz .i64 .i64 n n (by omega) (Int.le_refl _) (by rw [hb]; omega) (by omega)
  simp only [Int.toNat_natCast, hs, Value.cells] at hr
  exact hr

set_option maxHeartbeats 400000 in
theorem zztpl_any (ao : Option Addr) (n cap : Nat) (S : Nat → ByteArray) (v : ByteArray) (w : World) (h : Strs w ao n cap S) (hn : n ≤ 1048577) :
    Calls Trym.prog 15 #[.slice ao n cap, .string v] w fun e w' => e = .returned (.int .i64 (tf v.toList (L S n) (-1) 0)) ∧ Below w.heap.size w w' := by
  have hsp := h.split
  clear h
  have hmk := make33 n hn
  rcases hsp with ⟨b, off, rfl, hbw, hcell⟩ | hn0
  · go_enter Trym.func15, Trym.ntmps15
    go_wp2_with fail
    go_loopw [6] (fun i wr => ∃ k : Nat, k ≤ n ∧ i = .int .i64 k ∧ wr.rowIs w.heap.size 36 (n * 4) (laid S k) ∧ Below w.heap.size w wr) (fun i _ => n - (intOf i).toNat)
    case atStart => exact ⟨0, by omega, rfl, laid_made _ _ _, (Below.refl _ _).alloc (Nat.le_refl _) _⟩
    case round =>
      obtain ⟨k, hk, rfl, hrow, hbel⟩ := hrel
      by_cases hlt : k < n
      · have hc := (hbel.cell (p := ⟨b, off + k, none⟩) hbw).trans (hcell k hlt)
        have hr := hrow.cell (i := k * 4) (by omega)
        have hf := hrow.frozen (k * 4)
        have R1 := laid_step hrow
        have R2 := hbel.setCell (p := ⟨w.heap.size, k * 4, none⟩) (Nat.le_refl _) (.string (S k))
        go_wp2_with fail
        go_roundw
        case rel => exact ⟨k + 1, by omega, by go_num, R1, R2⟩
        case measure => simp [intOf]; omega
      · obtain rfl : k = n := by omega
        have hrl := hrow.lt
        have hsz := hbel.size
        go_wp2_with fail
        refine (tplFor_any w.heap.size k S v wr hrl (laid_done hrow) (by omega)).mono ?_
        rintro e w' ⟨rfl, hb2⟩
        go_wp2_with fail
        go_ret
        exact ⟨rfl, hbel.trans (hb2.mono hsz)⟩
  · go_enter Trym.func15, Trym.ntmps15
    go_wp2_with fail
    go_loopw [6] (fun i wr => i = .int .i64 0 ∧ w.heap.size < wr.heap.size ∧ Below w.heap.size w wr) (fun i _ => n - (intOf i).toNat)
    case atStart => exact ⟨rfl, by simp, (Below.refl _ _).alloc (Nat.le_refl _) _⟩
    case round =>
      obtain ⟨rfl, hrl, hbel⟩ := hrel
      go_wp2_with fail
      refine (tplFor_any w.heap.size n S v wr hrl (fun i hi => absurd hi (by omega)) (by omega)).mono ?_
      rintro e w' ⟨rfl, hb2⟩
      go_wp2_with fail
      go_ret
      exact ⟨rfl, hbel.trans (hb2.mono hbel.size)⟩
end Go.Proofs.Qxb6600428aMods
