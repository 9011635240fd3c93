/-
  THE WALK of b1Cmp.
-/
import Derived.Test.Qxb6601771aModsProg
import Derived.Test.Qxb6601771aModsPlain
import Derived.WalkKit
import Derived.WalkSpells
import Derived.WalkLawsBesides
import Derived.Deep.QuietTactic
import Derived.BigQuiet
import Derived.Deep.OwnRows
namespace Go.Proofs.Qxb6601771aMods
open Go.RowKit Plain

theorem retI {k : IntKind} {a b : Int} (h : a = b) : Ending.returned (.int k a) = .returned (.int k b) := by rw [h]
theorem retB {a b : Bool} (h : a = b) : Ending.returned (.bool a) = .returned (.bool b) := by rw [h]

/-- The compare of two strings from place k on. -/
def sc (x y : ByteArray) (k : Nat) : Int := cmpAt x.data.toList y.data.toList k
theorem sc_same (x y : ByteArray) (k : Nat) (hx : k < x.size) (hy : k < y.size) (h : (x[k].toNat : Int) = y[k].toNat) : sc x y k = sc x y (k + 1) := cmpAt_same _ _ _ (by simpa using hx) (by simpa using hy) h
theorem sc_less (x y : ByteArray) (k : Nat) (hx : k < x.size) (hy : k < y.size) (h : (x[k].toNat : Int) < y[k].toNat) : sc x y k = -1 := cmpAt_less _ _ _ (by simpa using hx) (by simpa using hy) h
theorem sc_more (x y : ByteArray) (k : Nat) (hx : k < x.size) (hy : k < y.size) (h : (y[k].toNat : Int) < x[k].toNat) : sc x y k = 1 := cmpAt_more _ _ _ (by simpa using hx) (by simpa using hy) h
theorem sc_short (x y : ByteArray) (k : Nat) (hx : x.size ≤ k) (hy : k < y.size) : sc x y k = -1 := cmpAt_short _ _ _ (by simpa using hx) (by simpa using hy)
theorem sc_long (x y : ByteArray) (k : Nat) (hx : y.size ≤ k) (hy : k < x.size) : sc x y k = 1 := cmpAt_long _ _ _ (by simpa using hx) (by simpa using hy)
theorem sc_end (x y : ByteArray) (k : Nat) (hx : x.size ≤ k) (hy : y.size ≤ k) : sc x y k = 0 := cmpAt_end _ _ _ (by simpa using hx) (by simpa using hy)

set_option maxHeartbeats 400000 in
theorem cmp_any (x y : ByteArray) (w : World) (hx : x.size ≤ maxLen) (hy : y.size ≤ maxLen) :
    Calls Trym.prog 12 #[.string x, .string y] w fun e w' => e = .returned (.int .i64 (sc x y 0)) ∧ ∃ q, w' = w.drewN q := by
  unfold maxLen at hx hy
  by_cases hyx : y.size < x.size
  · go_enter Trym.func12, Trym.ntmps12
    go_wp2
    go_loopw [6] (fun i wr => ∃ (k q : Nat), k ≤ y.size ∧ i = .int .i64 k ∧ Hid (sc x y k = sc x y 0) ∧ wr = w.drewN q) (fun i _ => y.size - (intOf i).toNat)
    case atStart => exact ⟨0, 0, by omega, rfl, rfl, by simp [World.drewN]⟩
    case round =>
      obtain ⟨k, q, hk, rfl, HR, rfl⟩ := hrel
      by_cases hlt : k < y.size
      · have hlx : k < x.size := by omega
        go_wp2
        go_quiet (fail)
        go_wp2
        · have hne : ((x[k].toNat : Int) != (y[k].toNat : Int)) = true := by assumption
          have HN : Hid (¬ (x[k].toNat : Int) = (y[k].toNat : Int)) := by
            have : ¬ (x[k].toNat : Int) = (y[k].toNat : Int) := by simpa using hne
            exact this
          by_cases h1 : (x[k].toNat : Int) < (y[k].toNat : Int)
          · go_quiet (fail)
            go_wp2
            go_ret
            exact ⟨retI (by rw [← HR.out, sc_less x y k (by omega) (by omega) h1]), _, by first | rfl | (simp only [World.drewN_drewN]; rfl)⟩
          · have h2 := HN.out
            go_quiet (fail)
            go_wp2
            go_ret
            exact ⟨retI (by rw [← HR.out, sc_more x y k (by omega) (by omega) (by omega)]), _, by first | rfl | (simp only [World.drewN_drewN]; rfl)⟩
        · have he : ((x[k].toNat : Int) != (y[k].toNat : Int)) = false := by assumption
          go_roundw
          case rel => exact ⟨k + 1, _, by omega, by go_num, by rw [← HR.out, sc_same x y k (by omega) (by omega) (by simpa using he)]; rfl, rfl⟩
          case measure => simp [intOf]; omega
      · go_wp2
        go_ret
        exact ⟨retI (by rw [← HR.out, sc_long x y k (by omega) (by omega)]), _, rfl⟩
  · go_enter Trym.func12, Trym.ntmps12
    go_wp2
    go_loopw [6] (fun i wr => ∃ (k q : Nat), k ≤ x.size ∧ i = .int .i64 k ∧ Hid (sc x y k = sc x y 0) ∧ wr = w.drewN q) (fun i _ => x.size - (intOf i).toNat)
    case atStart => exact ⟨0, 0, by omega, rfl, rfl, by simp [World.drewN]⟩
    case round =>
      obtain ⟨k, q, hk, rfl, HR, rfl⟩ := hrel
      by_cases hlt : k < x.size
      · have hly : k < y.size := by omega
        go_wp2
        go_quiet (fail)
        go_wp2
        · have hne : ((x[k].toNat : Int) != (y[k].toNat : Int)) = true := by assumption
          have HN : Hid (¬ (x[k].toNat : Int) = (y[k].toNat : Int)) := by
            have : ¬ (x[k].toNat : Int) = (y[k].toNat : Int) := by simpa using hne
            exact this
          by_cases h1 : (x[k].toNat : Int) < (y[k].toNat : Int)
          · go_quiet (fail)
            go_wp2
            go_ret
            exact ⟨retI (by rw [← HR.out, sc_less x y k (by omega) (by omega) h1]), _, by first | rfl | (simp only [World.drewN_drewN]; rfl)⟩
          · have h2 := HN.out
            go_quiet (fail)
            go_wp2
            go_ret
            exact ⟨retI (by rw [← HR.out, sc_more x y k (by omega) (by omega) (by omega)]), _, by first | rfl | (simp only [World.drewN_drewN]; rfl)⟩
        · have he : ((x[k].toNat : Int) != (y[k].toNat : Int)) = false := by assumption
          go_roundw
          case rel => exact ⟨k + 1, _, by omega, by go_num, by rw [← HR.out, sc_same x y k (by omega) (by omega) (by simpa using he)]; rfl, rfl⟩
          case measure => simp [intOf]; omega
      · go_wp2
        · go_ret
          exact ⟨retI (by rw [← HR.out, sc_short x y k (by omega) (by omega)]), _, rfl⟩
        · go_ret
          exact ⟨retI (by rw [← HR.out, sc_end x y k (by omega) (by omega)]), _, rfl⟩

end Go.Proofs.Qxb6601771aMods
