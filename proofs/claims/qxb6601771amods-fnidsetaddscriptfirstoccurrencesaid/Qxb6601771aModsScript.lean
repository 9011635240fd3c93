/-
  THE WALK of FnIdSetAddScriptFirstOccurrence.
-/
import Derived.Test.Qxb6601771aModsAdd
namespace Go.Proofs.Qxb6601771aMods
open Go.RowKit Plain

/-- THE FIRST OCCURRENCES among the first k. -/
def fo (S : Nat → ByteArray) : Nat → List ByteArray
  | 0 => []
  | k + 1 => if (S k).data.toList ∈ keys (fo S k) then fo S k else fo S k ++ [S k]

theorem fo_in {S : Nat → ByteArray} {k : Nat} (h : (S k).data.toList ∈ keys (fo S k)) : fo S (k + 1) = fo S k := by rw [fo, if_pos h]
theorem fo_new {S : Nat → ByteArray} {k : Nat} (h : ¬ (S k).data.toList ∈ keys (fo S k)) : fo S (k + 1) = fo S k ++ [S k] := by rw [fo, if_neg h]
theorem fo_len (S : Nat → ByteArray) (k : Nat) : (fo S k).length ≤ k := by
  induction k with
  | zero => simp [fo]
  | succ k ih =>
    by_cases h : (S k).data.toList ∈ keys (fo S k)
    · rw [fo_in h]; omega
    · rw [fo_new h]; simp; omega
theorem fo_prefix (S : Nat → ByteArray) (k d : Nat) : ∃ t, fo S (k + d) = fo S k ++ t := by
  induction d with
  | zero => exact ⟨[], by simp⟩
  | succ d ih =>
    obtain ⟨t, ht⟩ := ih
    by_cases h : (S (k + d)).data.toList ∈ keys (fo S (k + d))
    · exact ⟨t, by rw [← Nat.add_assoc, fo_in h, ht]⟩
    · exact ⟨t ++ [S (k + d)], by rw [← Nat.add_assoc, fo_new h, ht, List.append_assoc]⟩
theorem fo_mem (S : Nat → ByteArray) (n i : Nat) (h : i < n) : (S i).data.toList ∈ keys (fo S n) := by
  have h1 : (S i).data.toList ∈ keys (fo S (i + 1)) := by
    by_cases h : (S i).data.toList ∈ keys (fo S i)
    · rw [fo_in h]; exact h
    · rw [fo_new h, keys_snoc]; simp
  obtain ⟨t, ht⟩ := fo_prefix S (i + 1) (n - (i + 1))
  rw [show i + 1 + (n - (i + 1)) = n by omega] at ht
  rw [ht, keys, List.map_append]
  exact List.mem_append_left _ h1
theorem fo_at (S : Nat → ByteArray) (n i : Nat) (h : i < n) (hn : ¬ (S i).data.toList ∈ keys (fo S i)) : (fo S i).length < (fo S n).length ∧ nth (fo S n) (fo S i).length = S i := by
  obtain ⟨t, ht⟩ := fo_prefix S (i + 1) (n - (i + 1))
  rw [show i + 1 + (n - (i + 1)) = n by omega, fo_new hn] at ht
  constructor
  · rw [ht]; simp
  · unfold nth
    rw [ht, List.getD_eq_getElem?_getD]
    simp
theorem fo_size (S : Nat → ByteArray) (k : Nat) (h : ∀ i, i < k → (S i).size ≤ maxLen) : ∀ s ∈ fo S k, s.size ≤ maxLen := by
  induction k with
  | zero => simp [fo]
  | succ k ih =>
    have ih' := ih (fun i hi => h i (by omega))
    by_cases hin : (S k).data.toList ∈ keys (fo S k)
    · rw [fo_in hin]; exact ih'
    · rw [fo_new hin]
      intro s hs
      rcases List.mem_append.1 hs with hs | hs
      · exact ih' s hs
      · rw [List.mem_singleton.1 hs]; exact h k (by omega)

/-- A bool is handed back; where it is true, the strings are short. -/
def Says1 (S : Nat → ByteArray) (n : Nat) (e : Ending) : Prop := e = .returned (.bool false) ∨ (e = .returned (.bool true) ∧ Short S n)
theorem says1_no (S : Nat → ByteArray) (n : Nat) : Says1 S n (.returned (.bool false)) := .inl rfl
theorem says1_yes {S : Nat → ByteArray} {n : Nat} (h : Short S n) : Says1 S n (.returned (.bool true)) := .inr ⟨rfl, h⟩

set_option maxHeartbeats 400000 in
theorem bytes17_any (ao : Option Addr) (n cap : Nat) (S : Nat → ByteArray) (w : World) (h : Strs w ao n cap S) :
    Calls Trym.prog 17 #[.slice ao n cap] w fun e w' => Says1 S n e ∧ w' = w := by
  have hsp := h.split
  obtain ⟨hnc, hcm, hS, _⟩ := h
  unfold maxLen at hcm hS
  by_cases hn : n ≤ 1048576
  · rcases hsp with ⟨b, off, rfl, hbw, hcell⟩ | hn0
    all_goals
      go_enter Trym.func17, Trym.ntmps17
      go_wp2
      go_loop [3, 4] (fun t i => ∃ (k m : Nat), k ≤ n ∧ m ≤ 1048576 ∧ i = .int .i64 k ∧ t = .int .i64 m ∧ Short S k) (fun _ i => n - (intOf i).toNat)
      case atStart => exact ⟨0, n, by omega, by omega, rfl, rfl, short_zero S⟩
      case round =>
        obtain ⟨k, m, hk, hm, rfl, rfl, hsh⟩ := hrel
        by_cases hlt : k < n
        · first
          | (exfalso; omega)
          | (have hc := hcell k hlt
             have hk2 := hS k hlt
             go_wp2
             · go_ret
               exact ⟨says1_no _ _, rfl⟩
             · go_ret
               exact ⟨says1_no _ _, rfl⟩
             · go_round
               case rel => exact ⟨k + 1, m + (S k).size, by omega, by omega, by go_num, by go_num, hsh.step (by omega)⟩
               case measure => simp [intOf]; omega)
        · obtain rfl : k = n := by omega
          go_wp2
          go_ret
          exact ⟨says1_yes hsh, rfl⟩
  · go_enter Trym.func17, Trym.ntmps17
    go_wp2
    go_ret
    exact ⟨says1_no _ _, rfl⟩

theorem own_below {w w' : World} {B n B' : Nat} {v : Value} {xs : List Value} (h : w.ownsRow B 9 1 v n xs) (hb : Below B' w w') (hB : w.heap.size ≤ B') : w'.ownsRow B 9 1 v n xs :=
  own_block h fun g hg => by
    rcases h.2 with ⟨rfl, _⟩ | ⟨g', cap, cur, rfl, _, hh, _⟩
    · simp [Value.ownBlock] at hg
    · simp only [Value.ownBlock, Option.some.injEq] at hg
      subst hg
      have := (Array.getElem?_eq_some_iff.1 hh).1
      exact hb.block _ (by omega)
theorem mp_lens' {w : World} {b n : Nat} {ks : List Bs} (h : Mp w b ks) (hn : ks.length = n) : ∀ (q : Nat) (ty : TypeId), (Builtin.len_ #[28] ty #[.map (some b)]).run Trym.prog (w.drewN q) = .ok (.int .i64 (n : Nat)) (w.drewN q) := fun q ty => by
  rw [← hn]
  exact (h.drewN q).len ty
theorem sc_zero' (x y : ByteArray) : sc x y 0 = 0 ↔ x.data.toList = y.data.toList := cmp_zero _ _
theorem short_wide {S : Nat → ByteArray} {n : Nat} (h : Short S n) : ∀ i, i < n → (S i).size ≤ 140737488355328 := fun i hi => by have := h i hi; omega

/-! ### The walk -/
set_option maxHeartbeats 2000000 in
theorem script_any (ao : Option Addr) (n cap : Nat) (S : Nat → ByteArray) (w : World) (h : Strs w ao n cap S) :
    Calls Trym.prog 7 #[.slice ao n cap] w fun e w' => e = .returned (.bool true) ∧ Below w.heap.size w w' := by
  have hmm := @run_makeMap Trym.prog
  go_enter Trym.func7, Trym.ntmps7
  go_wp2_with (go_at_call 17; refine (bytes17_any _ _ _ S _ h).mono ?_; rintro e w' ⟨rfl | ⟨rfl, hsh⟩, rfl⟩)
  · go_ret
    exact ⟨rfl, Below.refl _ _⟩
  refine (size_any _ _ _ S _ h (short_wide hsh)).mono ?_
  rintro e w' ⟨⟨z, rfl, hz0, hz1, hz2⟩, rfl⟩
  have HZ : Hid (z ≤ 1048576 → n ≤ 65536 ∧ Short S n) := hz2
  clear hz2
  by_cases hz : z ≤ 1048576
  · have hn : n ≤ 65536 := (HZ.out hz).1
    go_wp2_with fail
    refine (clone_any _ _ _ S _ h (by omega)).mono ?_
    rintro e w1 ⟨ao1, cap1, rfl, hs1, hb1⟩
    have HS : Hid (∀ i, i < n → (S i).size ≤ maxLen) := hs1.2.2.1
    go_wp2_with fail
    go_loopw [3, 4, 24] (fun x m i wr => ∃ (k : Nat) (ao' : Option Addr) (cap' : Nat), k ≤ n ∧ i = .int .i64 k ∧ x = .slice ao' (fo S k).length cap' ∧ m = .map (some w1.heap.size) ∧ Hid (wr.ownsRow (w1.heap.size + 1) 9 1 (.slice ao' (fo S k).length cap') (fo S k).length (scells (fo S k))) ∧ Mp wr w1.heap.size (keys (fo S k)) ∧ Below w1.heap.size w1 wr) (fun _ _ i _ => n - (intOf i).toNat)
    case atStart => exact ⟨0, none, 0, by omega, rfl, rfl, rfl, World.ownsRow_nil _ _ _ _, Mp.made w1, (Below.refl _ _).alloc (Nat.le_refl _) _⟩
    case round =>
      obtain ⟨k, ao', cap', hk, rfl, rfl, rfl, HO, hmp, hbel⟩ := hrel
      by_cases hlt : k < n
      · obtain ⟨b, off, hao, hbw, hcell⟩ := hs1.2.2.2 (by omega)
        subst hao
        have hc := (hbel.cell (p := ⟨b, off + k, none⟩) hbw).trans (hcell k hlt)
        have hsk := HS.out k hlt
        have hfl := fo_len S k
        by_cases hin : (S k).data.toList ∈ keys (fo S k)
        · have HF : Hid (fo S (k + 1) = fo S k) := fo_in hin
          go_wp2_with (go_at_call 16; refine (zzadd_in _ _ _ _ _ (S k) _ hmp hsk hin).mono ?_; rintro e w2 ⟨rfl, hb2⟩)
          go_roundw
          case rel => exact ⟨k + 1, ao', cap', by omega, by go_num, by rw [HF.out], rfl, by rw [HF.out]; exact own_below HO.out hb2 (Nat.le_refl _), by rw [HF.out]; exact hmp.below hb2 hmp.lt, hbel.trans (hb2.mono hbel.size)⟩
          case measure => simp [intOf]; omega
        · have HF : Hid (fo S (k + 1) = fo S k ++ [S k]) := fo_new hin
          have hml := hmp.lt
          go_wp2_with (go_at_call 16; refine (zzadd_new (w1.heap.size + 1) w1.heap.size _ _ _ (fo S k) (S k) _ hmp HO.out hsk hin (by omega) (by omega) (Nat.le_refl _) (by omega)).mono ?_; rintro e w2 ⟨ao2, cap2, rfl, hmp2, hown2, hb2⟩)
          go_roundw
          case rel => exact ⟨k + 1, ao2, cap2, by omega, by go_num, by rw [HF.out]; simp, rfl, by rw [HF.out, List.length_append]; exact hown2, by rw [HF.out]; exact hmp2, hbel.trans hb2⟩
          case measure => simp [intOf]; omega
      · obtain rfl : k = n := by omega
        have hfl := fo_len S k
        have hF : Strs wr ao' (fo S k).length cap' (nth (fo S k)) := own_strs HO.out (fo_size S k HS.out)
        have hfin1 : Below w'.heap.size w' wr := hb1.trans (hbel.mono hb1.size)
        have hml := hmp.lt
        clear HO
        obtain ⟨W2, hW2⟩ : ∃ W2, W2 = wr := ⟨_, rfl⟩
        subst hW2
        go_wp2_with fail
        go_loopw [7, 41] (fun c i wq => ∃ j : Nat, j ≤ k ∧ i = .int .i64 j ∧ c = .int .i64 ((fo S j).length : Nat) ∧ Mp wq W2.heap.size (keys (fo S j)) ∧ Below W2.heap.size W2 wq) (fun _ i _ => k - (intOf i).toNat)
        case atStart => exact ⟨0, by omega, rfl, rfl, Mp.made W2, (Below.refl _ _).alloc (Nat.le_refl _) _⟩
        case round =>
          obtain ⟨j, hj, rfl, rfl, hmpq, hbq⟩ := hrel
          by_cases hjk : j < k
          · obtain ⟨b, off, hao, hbw, hcell⟩ := hs1.2.2.2 (by omega)
            subst hao
            have hbw2 : b < W2.heap.size := by have := hbel.size; omega
            have hc := (hbq.cell (p := ⟨b, off + j, none⟩) hbw2).trans ((hbel.cell (p := ⟨b, off + j, none⟩) hbw).trans (hcell j hjk))
            have hsj := HS.out j hjk
            have hflj := fo_len S j
            by_cases hin : (S j).data.toList ∈ keys (fo S j)
            · have HF : Hid (fo S (j + 1) = fo S j) := fo_in hin
              go_wp2_with (at_lookup; refine wpList_look_yes _ rfl _ _ rfl W2.heap.size _ rfl hmpq (S j) rfl hsj hin ?_)
              go_roundw
              case rel => exact ⟨j + 1, by omega, by go_num, by rw [HF.out], by rw [HF.out]; exact hmpq, hbq⟩
              case measure => simp [intOf]; omega
            · have HF : Hid (fo S (j + 1) = fo S j ++ [S j]) := fo_new hin
              have hat := fo_at S k j hjk hin
              have hlt2 := hat.1
              have HAT : Hid (nth (fo S k) (fo S j).length = S j) := hat.2
              clear hat
              have hkl : (keys (fo S j)).length < maxLen := by rw [keys_length]; unfold maxLen; omega
              obtain ⟨gF, offF, haoF, hbwF, hcellF⟩ := hF.2.2.2 (by omega)
              subst haoF
              go_wp2_with (first | (at_lookup; refine wpList_look_no _ rfl _ _ rfl W2.heap.size _ rfl hmpq (S j) rfl hsj hin ?_) | (at_mapUpdate; refine wpList_put_true _ rfl _ _ _ rfl W2.heap.size _ rfl hmpq hkl (S j) rfl rfl hsj hin ?_; intro w3 hm3 hg3; simp only [Act.put]))
              have hb3 : Below W2.heap.size W2 w3 := hbq.grown hg3 hbq.size (fun j e => by cases e; exact Nat.le_refl _)
              have hc3 := (hb3.cell (p := ⟨b, off + j, none⟩) hbw2).trans ((hbel.cell (p := ⟨b, off + j, none⟩) hbw).trans (hcell j hjk))
              have hcF := (hb3.cell (p := ⟨gF, offF + (fo S j).length, none⟩) hbwF).trans (hcellF _ hlt2)
              have hsF := hF.2.2.1 _ hlt2
              have hgd : decide (((fo S k).length : Int) ≤ ((fo S j).length : Int)) = false := decide_eq_false (by omega)
              have hi1 : ((fo S j).length : Int) < ((fo S k).length : Int) := by omega
              have hi2 : (j : Int) < (k : Int) := by omega
              have hscz : ((sc (nth (fo S k) (fo S j).length) (S j) 0) != 0) = false := by
                rw [(sc_zero' _ _).2 (by rw [HAT.out])]
                rfl
              have hm4 : Mp w3 W2.heap.size (keys (fo S (j + 1))) := by rw [HF.out, keys_snoc]; exact hm3
              clear hmpq hin hm3 hg3 hc
              go_quiet ((go_at_call 12; exact Calls.quiet_of (cmp_any _ (S j) _ hsF hsj)))
              go_wp2_with fail
              go_roundw
              case rel => exact ⟨j + 1, by omega, by go_num, by rw [HF.out, List.length_append]; go_num, hm4.drewN _, below_drewN' hb3 _⟩
              case measure => simp [intOf]; omega
          · obtain rfl : j = k := by omega
            have hmpb : Mp wr w1.heap.size (keys (fo S j)) := hmp.below hbq hml
            have hlb := fun ty => hmpb.len ty
            rw [keys_length] at hlb
            go_wp2_with fail
            have hbel1q : Below w1.heap.size w1 wr := hbel.trans (hbq.mono hbel.size)
            have hFq : Strs wr ao' (fo S j).length cap' (nth (fo S j)) := hF.below hbq (Nat.le_refl _)
            have hfinq : Below w'.heap.size w' wr := hfin1.trans (hbq.mono hfin1.size)
            obtain ⟨W3, hW3⟩ : ∃ W3, W3 = wr := ⟨_, rfl⟩
            subst hW3
            clear hmpq hbq hF hfin1 hbel hmp hml hlb
            go_loop [86] (fun i => ∃ r : Nat, r ≤ j ∧ i = .int .i64 r) (fun i => j - (intOf i).toNat)
            case atStart => exact ⟨0, by omega, rfl⟩
            case round =>
              obtain ⟨r, hr, rfl⟩ := hrel
              by_cases hrj : r < j
              · obtain ⟨b, off, hao, hbw, hcell⟩ := hs1.2.2.2 (by omega)
                subst hao
                have hc := (hbel1q.cell (p := ⟨b, off + r, none⟩) hbw).trans (hcell r hrj)
                have hsr := HS.out r hrj
                go_wp2_with (at_lookup; refine wpList_look_yes _ rfl _ _ rfl w1.heap.size _ rfl hmpb (S r) rfl hsr (fo_mem S j r hrj) ?_)
                go_round
                case rel => exact ⟨r + 1, by omega, by go_num⟩
                case measure => simp [intOf]; omega
              · go_wp2_with fail
                refine (clone_any _ _ _ (nth (fo S j)) _ hFq (by omega)).mono ?_
                rintro e w5 ⟨ao5, cap5, rfl, hs5, hb5⟩
                have hbel15 : Below w1.heap.size w1 w5 := hbel1q.trans (hb5.mono hbel1q.size)
                have hF5 : Strs w5 ao' (fo S j).length cap' (nth (fo S j)) := hFq.below hb5 (Nat.le_refl _)
                have hfin5 : Below w'.heap.size w' w5 := hfinq.trans (hb5.mono hfinq.size)
                have hmp5 : Mp w5 w1.heap.size (keys (fo S j)) := hmpb.below hb5 hmpb.lt
                have hl5 := hmp5.lt
                clear hmpb hFq hfinq hb5
                go_wp2_with fail
                go_loopw [3, 4, 101] (fun x m i wz => ∃ r : Nat, r ≤ j ∧ i = .int .i64 r ∧ x = .slice ao' (fo S j).length cap' ∧ m = .map (some w1.heap.size) ∧ Below w5.heap.size w5 wz) (fun _ _ i _ => j - (intOf i).toNat)
                case atStart => exact ⟨0, by omega, rfl, rfl, rfl, Below.refl _ _⟩
                case round =>
                  obtain ⟨r2, hr2, rfl, rfl, rfl, hbz⟩ := hrel
                  have hmpz : Mp wr w1.heap.size (keys (fo S j)) := hmp5.below hbz hl5
                  have hbel1z : Below w1.heap.size w1 wr := hbel15.trans (hbz.mono hbel15.size)
                  by_cases hrj2 : r2 < j
                  · obtain ⟨b, off, hao, hbw, hcell⟩ := hs1.2.2.2 (by omega)
                    subst hao
                    have hc := (hbel1z.cell (p := ⟨b, off + r2, none⟩) hbw).trans (hcell r2 hrj2)
                    have hsr := HS.out r2 hrj2
                    go_wp2_with (go_at_call 16; refine (zzadd_in _ _ _ _ _ (S r2) _ hmpz hsr (fo_mem S j r2 hrj2)).mono ?_; rintro e w6 ⟨rfl, hb6⟩)
                    go_roundw
                    case rel => exact ⟨r2 + 1, by omega, by go_num, rfl, rfl, hbz.trans (hb6.mono hbz.size)⟩
                    case measure => simp [intOf]; omega
                  · have hFz := hF5.below hbz (Nat.le_refl _)
                    have hsz := hs5.below hbz (Nat.le_refl _)
                    have hlz := mp_lens' hmpz (keys_length _)
                    have hfinz : Below w'.heap.size w' wr := hfin5.trans (hbz.mono hfin5.size)
                    obtain ⟨W4, hW4⟩ : ∃ W4, W4 = wr := ⟨_, rfl⟩
                    subst hW4
                    go_wp2_with fail
                    refine (equal_any _ _ _ (nth (fo S j)) _ _ _ (nth (fo S j)) _ hFz hsz (by omega) (by omega)).mono ?_
                    rintro e w6 ⟨rfl, q6, rfl⟩
                    rw [show eqB (nth (fo S j)) (nth (fo S j)) (fo S j).length (fo S j).length = true from decide_eq_true rfl]
                    go_wp2_with fail
                    go_loop [126] (fun i => ∃ r : Nat, r ≤ j ∧ i = .int .i64 r) (fun i => j - (intOf i).toNat)
                    case atStart => exact ⟨0, by omega, rfl⟩
                    case round =>
                      obtain ⟨r3, hr3, rfl⟩ := hrel
                      by_cases hrj3 : r3 < j
                      · obtain ⟨b, off, hao, hbw, hcell⟩ := hs1.2.2.2 (by omega)
                        subst hao
                        have hc := (hbel1z.cell (p := ⟨b, off + r3, none⟩) hbw).trans (hcell r3 hrj3)
                        have hsr := HS.out r3 hrj3
                        go_wp2_with (at_lookup; refine wpList_look_yes _ rfl _ _ rfl w1.heap.size _ rfl (hmpz.drewN _) (S r3) rfl hsr (fo_mem S j r3 hrj3) ?_)
                        go_round
                        case rel => exact ⟨r3 + 1, by omega, by go_num⟩
                        case measure => simp [intOf]; omega
                      · go_wp2_with fail
                        go_ret
                        exact ⟨rfl, below_drewN' hfinz _⟩
  · go_wp2_with fail
    go_ret
    exact ⟨rfl, Below.refl _ _⟩

end Go.Proofs.Qxb6601771aMods
