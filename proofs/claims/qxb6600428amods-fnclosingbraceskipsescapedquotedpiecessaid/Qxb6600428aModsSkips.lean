/-
  THE WALK of FnClosingBraceSkipsEscapedQuotedPieces.
-/
import Derived.Test.Qxb6600428aModsStrs
import Derived.Test.Qxb6600428aModsBrace
namespace Go.Proofs.Qxb6600428aMods
open Go.RowKit Plain

/-- The function's own 'total' behind k pieces. -/
def tot (S : Nat → ByteArray) (t : Nat) : Nat → Nat
  | 0 => t
  | k + 1 => tot S t k + 16 + (S k).size
theorem tot_mono (S : Nat → ByteArray) (t k n : Nat) (h : k ≤ n) : tot S t k ≤ tot S t n := by
  induction n with
  | zero => rw [show k = 0 by omega]; exact Nat.le_refl _
  | succ n ih =>
    by_cases e : k = n + 1
    · rw [e]; exact Nat.le_refl _
    · have := ih (by omega)
      show tot S t k ≤ tot S t n + 16 + (S n).size
      omega
theorem tot_ge (S : Nat → ByteArray) (t k : Nat) : t ≤ tot S t k := tot_mono S t 0 k (Nat.zero_le _)
theorem tot_step (S : Nat → ByteArray) (t k : Nat) : tot S t (k + 1) = tot S t k + 16 + (S k).size := rfl

/-- Bytes as cells. -/
def bcells (l : List UInt8) : List Value := l.map fun c => .int .u8 (c.toNat : Int)
theorem bcells_snoc (l : List UInt8) (c : UInt8) : bcells l ++ [.int .u8 (c.toNat : Int)] = bcells (l ++ [c]) := by simp [bcells]
theorem bcells_length (l : List UInt8) : (bcells l).length = l.length := by simp [bcells]
theorem byte_oneCell (z : Int) : ∀ u ∈ [Value.int .u8 z], u.oneCell' = true := by
  intro u hu
  simp at hu
  subst hu
  rfl

theorem Trym.info5 : (Trym.prog.info? 5).map (fun i => (i.zero, i.size, i.bytes)) = some (some (.int .u8 0), 1, 1) := by kernel_rfl

/-- WHAT IS BUILT: '{' and then l, in block g. -/
def Built (w : World) (g C : Nat) (l : List UInt8) : Prop := w.ownsRow g 5 1 (.slice (some ⟨g, 0, none⟩) (l.length + 1) C) (l.length + 1) (bcells (123 :: l))

theorem Built.more {w : World} {g C : Nat} {l : List UInt8} {c : UInt8} (h : w.ownsRow g 5 1 (.slice (some ⟨g, 0, none⟩) (l.length + 1 + 1) C) (l.length + 1 + 1) (bcells (123 :: l) ++ [.int .u8 (c.toNat : Int)])) : Built w g C (l ++ [c]) := by
  unfold Built
  rw [bcells_snoc] at h
  simpa using h

theorem Built.more2 {w : World} {g C : Nat} {l : List UInt8} {c : UInt8} (h : w.ownsRow g 5 1 (.slice (some ⟨g, 0, none⟩) (l.length + 1 + 1 + 1) C) (l.length + 1 + 1 + 1) (bcells (123 :: l) ++ [.int .u8 92] ++ [.int .u8 (c.toNat : Int)])) : Built w g C (l ++ [92, c]) := by
  unfold Built
  have e : bcells (123 :: l) ++ [Value.int .u8 92] ++ [.int .u8 (c.toNat : Int)] = bcells (123 :: (l ++ [92, c])) := by simp [bcells]
  rw [e] at h
  simpa using h

theorem built_two {w1 wr w4 w5 : World} {o o' : Obj} (h : Below w1.heap.size w1 wr) (h4 : (wr.alloc o).grownBy w4 (some w1.heap.size)) (h5 : (w4.alloc o').grownBy w5 (some w1.heap.size)) : Below w1.heap.size w1 w5 := by
  have a4 : Below w1.heap.size w1 w4 := (h.alloc h.size o).grown h4 (by have := h.size; simp; omega) (fun k e => by cases e; exact Nat.le_refl _)
  exact (a4.alloc a4.size o').grown h5 (by have := a4.size; simp; omega) (fun k e => by cases e; exact Nat.le_refl _)

theorem tail_step {l l2 : List UInt8} {v : ByteArray} {r : Nat} (h : l2 = l ++ (125 :: v.data.toList.take r)) (hr : r < v.size) : l2 ++ [v[r]] = l ++ (125 :: v.data.toList.take (r + 1)) := by
  have e : v.data.toList.take (r + 1) = v.data.toList.take r ++ [v[r]] := by
    rw [List.take_succ_eq_append_getElem (by simpa using hr)]; rfl
  rw [h, e]
  simp

theorem built_string {w : World} {g C : Nat} {l : List UInt8} (h : Built w g C l) : (convert 27 9 (.slice (some ⟨g, 0, none⟩) (l.length + 1) C)).run Trym.prog w = .ok (.string (ByteArray.mk (123 :: l).toArray)) w := by
  refine run_convert_bytes_back (P := Trym.prog) w 27 9 5 ⟨g, 0, none⟩ C (123 :: l) Trym.underlying27 Trym.underlying5 Trym.underlying9 fun j hj => ?_
  have hj' : j < l.length + 1 := by simpa using hj
  have := World.ownsRow.cellAt h j (by omega)
  rw [Addr.add_lit, Nat.zero_add, this]
  simp only [bcells, List.getElem?_map, List.getElem?_eq_getElem hj, Option.map_some]

theorem built_found {l l2 : List UInt8} {v : ByteArray} {r : Nat} (hp : Passes 0 l) (h : l2 = l ++ (125 :: v.data.toList.take r)) (hr : v.size ≤ r) : sc (ByteArray.mk (123 :: l2).toArray) 0 1 = (l.length : Int) + 1 := by
  have e : v.data.toList.take r = v.data.toList := List.take_of_length_le (by simpa using hr)
  rw [e] at h
  unfold sc
  rw [h]
  have := found 123 l v.data.toList hp
  simp only [List.length_cons] at this
  simpa using this

/-! ### The walk -/

set_option maxRecDepth 100000 in
set_option maxHeartbeats 2000000 in
theorem skips39_any (ao : Option Addr) (n cap : Nat) (S : Nat → ByteArray) (v : ByteArray) (w : World) (h0 : Strs w ao n cap S) (hn0 : 0 < n) (hv : v.size ≤ maxLen) (hb1 : n ≤ 65536) (hb2 : v.size ≤ 1048576) :
    Calls Trym.prog 4 #[.slice ao n cap, .string v, .bool false] w fun e w' => e = .returned (.bool true) ∧ Below w.heap.size w w' := by
  obtain ⟨b, off, rfl, hbw, hcell⟩ := h0.2.2.2 hn0
  obtain ⟨i0, hi, hz0, hz1, hz2⟩ := info_parts Trym.info5
  go_enter Trym.func4, Trym.ntmps4
  go_wp2_with (go_at_call 11; refine (bytes11_any _ _ _ S _ _ _ h0 hv).mono ?_; rintro e w' ⟨rfl | ⟨rfl, hsh⟩, rfl⟩)
  · go_ret
    exact ⟨rfl, Below.refl _ _⟩
  go_loop [7, 8] (fun t i => ∃ k : Nat, k ≤ n ∧ tot S v.size k ≤ 1048576 ∧ i = .int .i64 k ∧ t = .int .i64 (tot S v.size k : Nat)) (fun _ i => n - (intOf i).toNat)
  case atStart => exact ⟨0, by omega, hb2, rfl, rfl⟩
  case round =>
    obtain ⟨k, hk, hm, rfl, rfl⟩ := hrel
    by_cases hlt : k < n
    · have hc := hcell k hlt
      have hk2 := hsh k hlt
      have HT : Hid (tot S v.size (k + 1) = tot S v.size k + 16 + (S k).size) := tot_step _ _ _
      go_wp2_with fail
      · go_ret
        exact ⟨rfl, Below.refl _ _⟩
      · have hle : ((tot S v.size k : Nat) : Int) + 16 + ((S k).size : Int) ≤ 1048576 := by assumption
        go_round
        case rel => exact ⟨k + 1, by omega, by rw [HT.out]; omega, by go_num, by rw [HT.out]; go_num⟩
        case measure => simp [intOf]; omega
    · obtain rfl : k = n := by omega
      have HM : Hid (∀ j, j < k → tot S v.size j + 16 + (S j).size ≤ tot S v.size k) := fun j hj => tot_mono S v.size (j + 1) k (by omega)
      obtain ⟨m, hmm⟩ : ∃ m, m = tot S v.size k := ⟨_, rfl⟩
      have HMM : Hid (m = tot S v.size k) := hmm
      rw [← hmm] at hm ⊢
      clear hmm
      go_wp2_with fail
      refine (copy_any _ _ _ S _ h0 (by omega)).mono ?_
      rintro e w1 ⟨ao1, cap1, rfl, hs1, hbel1⟩
      obtain ⟨b1, off1, hao1, hbw1, hcell1⟩ := hs1.2.2.2 hn0
      clear hs1
      subst hao1
      obtain ⟨C, hC⟩ : ∃ C, C = 2 * m + 4 := ⟨_, rfl⟩
      have hC1 : 2 * m + 4 ≤ C := by omega
      have hC2 : C ≤ 2 * m + 4 := by omega
      clear hC
      go_wp2_with (first | (at_make; refine wpList_make_own _ rfl _ _ 27 rfl w1.heap.size 5 i0 _ 1 Trym.underlying27 hi hz0 hz1 _ _ _ C rfl rfl (by omega) (by rw [hz2]; omega) (by unfold maxLen; omega) (Nat.le_refl _) ?_; intro w2 hown2 hgrow2; have hz2b := hgrow2.size) | (at_builtin; refine wpList_append_fits _ rfl (.tmp 57) (.tmp 58) 27 rfl w1.heap.size 5 i0 1 Trym.underlying27 hi hz1 w1.heap.size 0 C _ rfl (hown2.alloc _) ⟨w2.heap.size, 0, none⟩ 1 1 [.int .u8 123] rfl rfl (cell_one_new _ _ _) (byte_oneCell _) (by omega) ?_; intro w3 hown3 hgrow3))
      have hbel3 : Below w1.heap.size w1 w3 := ((((Below.refl w1.heap.size w1).grown hgrow2 (Nat.le_refl _) (fun k e => by cases e)).alloc hgrow2.size _)).grown hgrow3 (by have := hgrow2.size; simp; omega) (fun k e => by cases e; exact Nat.le_refl _)
      go_loopw [10, 11] (fun x i wr => ∃ (j : Nat) (l : List UInt8), j ≤ k ∧ i = .int .i64 j ∧ x = .slice (some ⟨w1.heap.size, 0, none⟩) (l.length + 1) C ∧ Hid (Passes 0 l) ∧ l.length + 2 * v.size ≤ 2 * tot S v.size j ∧ Hid (Built wr w1.heap.size C l) ∧ Below w1.heap.size w1 wr) (fun _ i _ => k - (intOf i).toNat)
      case atStart => exact ⟨0, [], by omega, rfl, rfl, passes_nil 0, by simp [tot], hown3, hbel3⟩
      case round =>
        clear hown3 hgrow3 hown2 hgrow2 hbel3
        obtain ⟨j, l, hj, rfl, rfl, HP, hll, HO, hbel⟩ := hrel
        have hsz := hbel.size
        by_cases hjk : j < k
        · have hc1 := (hbel.cell (p := ⟨b1, off1 + j, none⟩) hbw1).trans (hcell1 j hjk)
          have hp2 := hsh j hjk
          have hms := HM.out j hjk
          have hmk : tot S v.size k = m := HMM.out.symm
          have hmb : tot S v.size j + 16 + (S j).size ≤ m := by omega
          have HTS : Hid (tot S v.size (j + 1) = tot S v.size j + 16 + (S j).size) := tot_step _ _ _
          clear hmk hms
          by_cases hev : (((j : Int) % 2) == 0) = true
          · go_wp2_with fail
            go_loopw [10, 13] (fun x i wr => ∃ (r : Nat) (l' : List UInt8), r ≤ (S j).size ∧ i = .int .i64 r ∧ x = .slice (some ⟨w1.heap.size, 0, none⟩) (l'.length + 1) C ∧ Hid (Passes 0 l') ∧ l'.length + 2 * v.size ≤ 2 * tot S v.size j + r ∧ Hid (Built wr w1.heap.size C l') ∧ Below w1.heap.size w1 wr) (fun _ i _ => (S j).size - (intOf i).toNat)
            case atStart => exact ⟨0, l, by omega, rfl, rfl, HP, by omega, HO, hbel⟩
            case round =>
              clear hbel HO HP hsz hc1
              obtain ⟨r, l', hr, rfl, rfl, HP', hll', HO', hbel⟩ := hrel
              have hsz := hbel.size
              by_cases hrs : r < (S j).size
              · by_cases h125 : ((S j)[r].toNat : Int) = 125
                · go_wp2_with fail
                  go_roundw
                  case rel => exact ⟨r + 1, l', by omega, by go_num, rfl, HP', by omega, HO', hbel⟩
                  case measure => simp [intOf]; omega
                · by_cases h39 : ((S j)[r].toNat : Int) = 39
                  · clear h125
                    go_wp2_with fail
                    go_roundw
                    case rel => exact ⟨r + 1, l', by omega, by go_num, rfl, HP', by omega, HO', hbel⟩
                    case measure => simp [intOf]; omega
                  · by_cases h34 : ((S j)[r].toNat : Int) = 34
                    · clear h125 h39
                      go_wp2_with fail
                      go_roundw
                      case rel => exact ⟨r + 1, l', by omega, by go_num, rfl, HP', by omega, HO', hbel⟩
                      case measure => simp [intOf]; omega
                    · have hown := HO'.out
                      unfold Built at hown
                      have g1 : (((S j)[r].toNat : Int) != 125) = true := by simp [h125]
                      have g2 : (((S j)[r].toNat : Int) != 39) = true := by simp [h39]
                      have g3 : (((S j)[r].toNat : Int) != 34) = true := by simp [h34]
                      have HPP : Hid (Passes 0 [(S j)[r]]) := passes_plain _ h39 h34 h125
                      clear h125 h39 h34
                      go_wp2_with (at_builtin; refine wpList_append_fits _ rfl (.tmp 92) (.tmp 94) 27 rfl w1.heap.size 5 i0 1 Trym.underlying27 hi hz1 w1.heap.size (l'.length + 1) C _ rfl (hown.alloc _) ⟨wr.heap.size, 0, none⟩ 1 1 [.int .u8 ((S j)[r].toNat : Int)] rfl rfl (cell_one_new _ _ _) (byte_oneCell _) (by omega) ?_; intro w4 hown4 hgrow4)
                      have hbel4 : Below w1.heap.size w1 w4 := (hbel.alloc hsz _).grown hgrow4 (by simp; omega) (fun k e => by cases e; exact Nat.le_refl _)
                      go_roundw
                      case rel => exact ⟨r + 1, l' ++ [(S j)[r]], by omega, by go_num, by simp, passes_append HP'.out HPP.out, by simp; omega, Built.more hown4, hbel4⟩
                      case measure => simp [intOf]; omega
              · go_wp2_with fail
                go_roundw
                case rel => exact ⟨j + 1, l', by omega, by go_num, rfl, HP', by rw [HTS.out]; omega, HO', hbel⟩
                case measure => simp [intOf]; omega
          · have hod : (((j : Int) % 2) == 0) = false := by simpa using hev
            clear hev
            have hown := HO.out
            unfold Built at hown
            go_wp2_with (at_builtin; refine wpList_append_fits _ rfl (.tmp 96) (.tmp 98) 27 rfl w1.heap.size 5 i0 1 Trym.underlying27 hi hz1 w1.heap.size (l.length + 1) C _ rfl (hown.alloc _) ⟨wr.heap.size, 0, none⟩ 1 1 [.int .u8 39] rfl rfl (cell_one_new _ _ _) (byte_oneCell _) (by omega) ?_; intro w4 hown4 hgrow4)
            have hbel4 : Below w1.heap.size w1 w4 := (hbel.alloc hsz _).grown hgrow4 (by simp; omega) (fun k e => by cases e; exact Nat.le_refl _)
            go_loopw [10, 15] (fun x i wr => ∃ (r : Nat) (l2 M : List UInt8), r ≤ (S j).size ∧ i = .int .i64 r ∧ x = .slice (some ⟨w1.heap.size, 0, none⟩) (l2.length + 1) C ∧ Hid (l2 = l ++ (39 :: M) ∧ Passes 39 M) ∧ l2.length ≤ l.length + 1 + 2 * r ∧ Hid (Built wr w1.heap.size C l2) ∧ Below w1.heap.size w1 wr) (fun _ i _ => (S j).size - (intOf i).toNat)
            case atStart => exact ⟨0, l ++ [39], [], by omega, rfl, by simp, ⟨rfl, passes_nil 39⟩, by simp, Built.more (c := 39) hown4, hbel4⟩
            case round =>
              clear hbel HO hsz hc1 hown hown4 hgrow4 hbel4
              obtain ⟨r, l2, M, hr, rfl, rfl, HL, hl2, HO', hbel⟩ := hrel
              have hsz := hbel.size
              have hown := HO'.out
              unfold Built at hown
              by_cases hrs : r < (S j).size
              · by_cases h92 : ((S j)[r].toNat : Int) = 92
                · go_wp2_with (first | (at_builtin; refine wpList_append_fits _ rfl (.tmp 116) (.tmp 117) 27 rfl w1.heap.size 5 i0 1 Trym.underlying27 hi hz1 w1.heap.size (l2.length + 1) C _ rfl (hown.alloc _) ⟨wr.heap.size, 0, none⟩ 1 1 [.int .u8 92] rfl rfl (cell_one_new _ _ _) (byte_oneCell _) (by omega) ?_; intro w4 hown4 hgrow4) | (at_builtin; refine wpList_append_fits _ rfl (.tmp 119) (.tmp 121) 27 rfl w1.heap.size 5 i0 1 Trym.underlying27 hi hz1 w1.heap.size (l2.length + 1 + 1) C _ rfl (hown4.alloc _) ⟨w4.heap.size, 0, none⟩ 1 1 [.int .u8 92] rfl rfl (cell_one_new _ _ _) (byte_oneCell _) (by omega) ?_; intro w5 hown5 hgrow5))
                  have hbel5 := built_two hbel hgrow4 hgrow5
                  go_roundw
                  case rel => exact ⟨r + 1, l2 ++ [92, 92], M ++ [92, 92], by omega, by go_num, by simp, ⟨by rw [HL.out.1]; simp, passes_append HL.out.2 (passes_esc 39 92 (by omega))⟩, by simp; omega, Built.more2 (c := 92) hown5, hbel5⟩
                  case measure => simp [intOf]; omega
                · by_cases hqq : ((S j)[r].toNat : Int) = 39
                  · clear h92
                    go_wp2_with (first | (at_builtin; refine wpList_append_fits _ rfl (.tmp 116) (.tmp 117) 27 rfl w1.heap.size 5 i0 1 Trym.underlying27 hi hz1 w1.heap.size (l2.length + 1) C _ rfl (hown.alloc _) ⟨wr.heap.size, 0, none⟩ 1 1 [.int .u8 92] rfl rfl (cell_one_new _ _ _) (byte_oneCell _) (by omega) ?_; intro w4 hown4 hgrow4) | (at_builtin; refine wpList_append_fits _ rfl (.tmp 119) (.tmp 121) 27 rfl w1.heap.size 5 i0 1 Trym.underlying27 hi hz1 w1.heap.size (l2.length + 1 + 1) C _ rfl (hown4.alloc _) ⟨w4.heap.size, 0, none⟩ 1 1 [.int .u8 39] rfl rfl (cell_one_new _ _ _) (byte_oneCell _) (by omega) ?_; intro w5 hown5 hgrow5))
                    have hbel5 := built_two hbel hgrow4 hgrow5
                    go_roundw
                    case rel => exact ⟨r + 1, l2 ++ [92, 39], M ++ [92, 39], by omega, by go_num, by simp, ⟨by rw [HL.out.1]; simp, passes_append HL.out.2 (passes_esc 39 39 (by omega))⟩, by simp; omega, Built.more2 (c := 39) hown5, hbel5⟩
                    case measure => simp [intOf]; omega
                  · have g1 : (((S j)[r].toNat : Int) == 92) = false := by simp [h92]
                    have g2 : (((S j)[r].toNat : Int) == 39) = false := by simp [hqq]
                    have HPP : Hid (Passes 39 [(S j)[r]]) := passes_inq 39 _ (by omega) h92 hqq
                    clear h92 hqq
                    go_wp2_with (at_builtin; refine wpList_append_fits _ rfl (.tmp 119) (.tmp 121) 27 rfl w1.heap.size 5 i0 1 Trym.underlying27 hi hz1 w1.heap.size (l2.length + 1) C _ rfl (hown.alloc _) ⟨wr.heap.size, 0, none⟩ 1 1 [.int .u8 ((S j)[r].toNat : Int)] rfl rfl (cell_one_new _ _ _) (byte_oneCell _) (by omega) ?_; intro w4 hown4 hgrow4)
                    have hbel4 : Below w1.heap.size w1 w4 := (hbel.alloc hsz _).grown hgrow4 (by simp; omega) (fun k e => by cases e; exact Nat.le_refl _)
                    go_roundw
                    case rel => exact ⟨r + 1, l2 ++ [(S j)[r]], M ++ [(S j)[r]], by omega, by go_num, by simp, ⟨by rw [HL.out.1]; simp, passes_append HL.out.2 HPP.out⟩, by simp; omega, Built.more hown4, hbel4⟩
                    case measure => simp [intOf]; omega
              · go_wp2_with (at_builtin; refine wpList_append_fits _ rfl (.tmp 123) (.tmp 125) 27 rfl w1.heap.size 5 i0 1 Trym.underlying27 hi hz1 w1.heap.size (l2.length + 1) C _ rfl (hown.alloc _) ⟨wr.heap.size, 0, none⟩ 1 1 [.int .u8 39] rfl rfl (cell_one_new _ _ _) (byte_oneCell _) (by omega) ?_; intro w4 hown4 hgrow4)
                have hbel4 : Below w1.heap.size w1 w4 := (hbel.alloc hsz _).grown hgrow4 (by simp; omega) (fun k e => by cases e; exact Nat.le_refl _)
                have hP : Passes 0 (l2 ++ [39]) := by
                  rw [HL.out.1, List.append_assoc]
                  exact passes_append HP.out (passes_quoted 39 M (by decide) HL.out.2)
                go_roundw
                case rel => exact ⟨j + 1, l2 ++ [39], by omega, by go_num, by simp, hP, by rw [HTS.out]; simp; omega, Built.more (c := 39) hown4, hbel4⟩
                case measure => simp [intOf]; omega
        · obtain rfl : j = k := by omega
          have hmk : tot S v.size j = m := HMM.out.symm
          have hlm : l.length + 2 * v.size ≤ 2 * m := by omega
          clear hmk
          have hown := HO.out
          unfold Built at hown
          go_wp2_with (at_builtin; refine wpList_append_fits _ rfl (.tmp 129) (.tmp 130) 27 rfl w1.heap.size 5 i0 1 Trym.underlying27 hi hz1 w1.heap.size (l.length + 1) C _ rfl (hown.alloc _) ⟨wr.heap.size, 0, none⟩ 1 1 [.int .u8 125] rfl rfl (cell_one_new _ _ _) (byte_oneCell _) (by omega) ?_; intro w4 hown4 hgrow4)
          have hbel4 : Below w1.heap.size w1 w4 := (hbel.alloc hsz _).grown hgrow4 (by simp; omega) (fun k e => by cases e; exact Nat.le_refl _)
          go_loopw [10, 18] (fun x i wr => ∃ (r : Nat) (l2 : List UInt8), r ≤ v.size ∧ i = .int .i64 r ∧ x = .slice (some ⟨w1.heap.size, 0, none⟩) (l2.length + 1) C ∧ Hid (l2 = l ++ (125 :: v.data.toList.take r)) ∧ l2.length ≤ l.length + 1 + r ∧ Hid (Built wr w1.heap.size C l2) ∧ Below w1.heap.size w1 wr) (fun _ i _ => v.size - (intOf i).toNat)
          case atStart => exact ⟨0, l ++ [125], by omega, rfl, by simp, rfl, by simp, Built.more (c := 125) hown4, hbel4⟩
          case round =>
            clear hbel HO hsz hown hown4 hgrow4 hbel4
            obtain ⟨r, l2, hr, rfl, rfl, HL, hl2, HO', hbel⟩ := hrel
            have hsz := hbel.size
            have hown := HO'.out
            unfold Built at hown
            by_cases hrs : r < v.size
            · go_wp2_with (at_builtin; refine wpList_append_fits _ rfl (.tmp 138) (.tmp 142) 27 rfl w1.heap.size 5 i0 1 Trym.underlying27 hi hz1 w1.heap.size (l2.length + 1) C _ rfl (hown.alloc _) ⟨wr.heap.size, 0, none⟩ 1 1 [.int .u8 (v[r].toNat : Int)] rfl rfl (cell_one_new _ _ _) (byte_oneCell _) (by omega) ?_; intro w4 hown4 hgrow4)
              have hbel4 : Below w1.heap.size w1 w4 := (hbel.alloc hsz _).grown hgrow4 (by simp; omega) (fun k e => by cases e; exact Nat.le_refl _)
              go_roundw
              case rel => exact ⟨r + 1, l2 ++ [v[r]], by omega, by go_num, by simp, tail_step HL.out hrs, by simp; omega, Built.more hown4, hbel4⟩
              case measure => simp [intOf]; omega
            · have hcv := built_string HO'.out
              have HF := built_found HP.out HL.out (by omega)
              have hsl : (ByteArray.mk (123 :: l2).toArray).size ≤ 1099511627776 := by
                show (123 :: l2).toArray.size ≤ _
                simp; omega
              go_wp2_with (go_at_call 9; refine (zzclosing_any _ _ hsl).mono ?_; rintro e w5 ⟨rfl, rfl⟩)
              go_ret
              exact ⟨rfl, hbel1.trans (hbel.mono hbel1.size)⟩

set_option maxRecDepth 100000 in
set_option maxHeartbeats 2000000 in
theorem skips34_any (ao : Option Addr) (n cap : Nat) (S : Nat → ByteArray) (v : ByteArray) (w : World) (h0 : Strs w ao n cap S) (hn0 : 0 < n) (hv : v.size ≤ maxLen) (hb1 : n ≤ 65536) (hb2 : v.size ≤ 1048576) :
    Calls Trym.prog 4 #[.slice ao n cap, .string v, .bool true] w fun e w' => e = .returned (.bool true) ∧ Below w.heap.size w w' := by
  obtain ⟨b, off, rfl, hbw, hcell⟩ := h0.2.2.2 hn0
  obtain ⟨i0, hi, hz0, hz1, hz2⟩ := info_parts Trym.info5
  go_enter Trym.func4, Trym.ntmps4
  go_wp2_with (go_at_call 11; refine (bytes11_any _ _ _ S _ _ _ h0 hv).mono ?_; rintro e w' ⟨rfl | ⟨rfl, hsh⟩, rfl⟩)
  · go_ret
    exact ⟨rfl, Below.refl _ _⟩
  go_loop [7, 8] (fun t i => ∃ k : Nat, k ≤ n ∧ tot S v.size k ≤ 1048576 ∧ i = .int .i64 k ∧ t = .int .i64 (tot S v.size k : Nat)) (fun _ i => n - (intOf i).toNat)
  case atStart => exact ⟨0, by omega, hb2, rfl, rfl⟩
  case round =>
    obtain ⟨k, hk, hm, rfl, rfl⟩ := hrel
    by_cases hlt : k < n
    · have hc := hcell k hlt
      have hk2 := hsh k hlt
      have HT : Hid (tot S v.size (k + 1) = tot S v.size k + 16 + (S k).size) := tot_step _ _ _
      go_wp2_with fail
      · go_ret
        exact ⟨rfl, Below.refl _ _⟩
      · have hle : ((tot S v.size k : Nat) : Int) + 16 + ((S k).size : Int) ≤ 1048576 := by assumption
        go_round
        case rel => exact ⟨k + 1, by omega, by rw [HT.out]; omega, by go_num, by rw [HT.out]; go_num⟩
        case measure => simp [intOf]; omega
    · obtain rfl : k = n := by omega
      have HM : Hid (∀ j, j < k → tot S v.size j + 16 + (S j).size ≤ tot S v.size k) := fun j hj => tot_mono S v.size (j + 1) k (by omega)
      obtain ⟨m, hmm⟩ : ∃ m, m = tot S v.size k := ⟨_, rfl⟩
      have HMM : Hid (m = tot S v.size k) := hmm
      rw [← hmm] at hm ⊢
      clear hmm
      go_wp2_with fail
      refine (copy_any _ _ _ S _ h0 (by omega)).mono ?_
      rintro e w1 ⟨ao1, cap1, rfl, hs1, hbel1⟩
      obtain ⟨b1, off1, hao1, hbw1, hcell1⟩ := hs1.2.2.2 hn0
      clear hs1
      subst hao1
      obtain ⟨C, hC⟩ : ∃ C, C = 2 * m + 4 := ⟨_, rfl⟩
      have hC1 : 2 * m + 4 ≤ C := by omega
      have hC2 : C ≤ 2 * m + 4 := by omega
      clear hC
      go_wp2_with (first | (at_make; refine wpList_make_own _ rfl _ _ 27 rfl w1.heap.size 5 i0 _ 1 Trym.underlying27 hi hz0 hz1 _ _ _ C rfl rfl (by omega) (by rw [hz2]; omega) (by unfold maxLen; omega) (Nat.le_refl _) ?_; intro w2 hown2 hgrow2; have hz2b := hgrow2.size) | (at_builtin; refine wpList_append_fits _ rfl (.tmp 57) (.tmp 58) 27 rfl w1.heap.size 5 i0 1 Trym.underlying27 hi hz1 w1.heap.size 0 C _ rfl (hown2.alloc _) ⟨w2.heap.size, 0, none⟩ 1 1 [.int .u8 123] rfl rfl (cell_one_new _ _ _) (byte_oneCell _) (by omega) ?_; intro w3 hown3 hgrow3))
      have hbel3 : Below w1.heap.size w1 w3 := ((((Below.refl w1.heap.size w1).grown hgrow2 (Nat.le_refl _) (fun k e => by cases e)).alloc hgrow2.size _)).grown hgrow3 (by have := hgrow2.size; simp; omega) (fun k e => by cases e; exact Nat.le_refl _)
      go_loopw [10, 11] (fun x i wr => ∃ (j : Nat) (l : List UInt8), j ≤ k ∧ i = .int .i64 j ∧ x = .slice (some ⟨w1.heap.size, 0, none⟩) (l.length + 1) C ∧ Hid (Passes 0 l) ∧ l.length + 2 * v.size ≤ 2 * tot S v.size j ∧ Hid (Built wr w1.heap.size C l) ∧ Below w1.heap.size w1 wr) (fun _ i _ => k - (intOf i).toNat)
      case atStart => exact ⟨0, [], by omega, rfl, rfl, passes_nil 0, by simp [tot], hown3, hbel3⟩
      case round =>
        clear hown3 hgrow3 hown2 hgrow2 hbel3
        obtain ⟨j, l, hj, rfl, rfl, HP, hll, HO, hbel⟩ := hrel
        have hsz := hbel.size
        by_cases hjk : j < k
        · have hc1 := (hbel.cell (p := ⟨b1, off1 + j, none⟩) hbw1).trans (hcell1 j hjk)
          have hp2 := hsh j hjk
          have hms := HM.out j hjk
          have hmk : tot S v.size k = m := HMM.out.symm
          have hmb : tot S v.size j + 16 + (S j).size ≤ m := by omega
          have HTS : Hid (tot S v.size (j + 1) = tot S v.size j + 16 + (S j).size) := tot_step _ _ _
          clear hmk hms
          by_cases hev : (((j : Int) % 2) == 0) = true
          · go_wp2_with fail
            go_loopw [10, 13] (fun x i wr => ∃ (r : Nat) (l' : List UInt8), r ≤ (S j).size ∧ i = .int .i64 r ∧ x = .slice (some ⟨w1.heap.size, 0, none⟩) (l'.length + 1) C ∧ Hid (Passes 0 l') ∧ l'.length + 2 * v.size ≤ 2 * tot S v.size j + r ∧ Hid (Built wr w1.heap.size C l') ∧ Below w1.heap.size w1 wr) (fun _ i _ => (S j).size - (intOf i).toNat)
            case atStart => exact ⟨0, l, by omega, rfl, rfl, HP, by omega, HO, hbel⟩
            case round =>
              clear hbel HO HP hsz hc1
              obtain ⟨r, l', hr, rfl, rfl, HP', hll', HO', hbel⟩ := hrel
              have hsz := hbel.size
              by_cases hrs : r < (S j).size
              · by_cases h125 : ((S j)[r].toNat : Int) = 125
                · go_wp2_with fail
                  go_roundw
                  case rel => exact ⟨r + 1, l', by omega, by go_num, rfl, HP', by omega, HO', hbel⟩
                  case measure => simp [intOf]; omega
                · by_cases h39 : ((S j)[r].toNat : Int) = 39
                  · clear h125
                    go_wp2_with fail
                    go_roundw
                    case rel => exact ⟨r + 1, l', by omega, by go_num, rfl, HP', by omega, HO', hbel⟩
                    case measure => simp [intOf]; omega
                  · by_cases h34 : ((S j)[r].toNat : Int) = 34
                    · clear h125 h39
                      go_wp2_with fail
                      go_roundw
                      case rel => exact ⟨r + 1, l', by omega, by go_num, rfl, HP', by omega, HO', hbel⟩
                      case measure => simp [intOf]; omega
                    · have hown := HO'.out
                      unfold Built at hown
                      have g1 : (((S j)[r].toNat : Int) != 125) = true := by simp [h125]
                      have g2 : (((S j)[r].toNat : Int) != 39) = true := by simp [h39]
                      have g3 : (((S j)[r].toNat : Int) != 34) = true := by simp [h34]
                      have HPP : Hid (Passes 0 [(S j)[r]]) := passes_plain _ h39 h34 h125
                      clear h125 h39 h34
                      go_wp2_with (at_builtin; refine wpList_append_fits _ rfl (.tmp 92) (.tmp 94) 27 rfl w1.heap.size 5 i0 1 Trym.underlying27 hi hz1 w1.heap.size (l'.length + 1) C _ rfl (hown.alloc _) ⟨wr.heap.size, 0, none⟩ 1 1 [.int .u8 ((S j)[r].toNat : Int)] rfl rfl (cell_one_new _ _ _) (byte_oneCell _) (by omega) ?_; intro w4 hown4 hgrow4)
                      have hbel4 : Below w1.heap.size w1 w4 := (hbel.alloc hsz _).grown hgrow4 (by simp; omega) (fun k e => by cases e; exact Nat.le_refl _)
                      go_roundw
                      case rel => exact ⟨r + 1, l' ++ [(S j)[r]], by omega, by go_num, by simp, passes_append HP'.out HPP.out, by simp; omega, Built.more hown4, hbel4⟩
                      case measure => simp [intOf]; omega
              · go_wp2_with fail
                go_roundw
                case rel => exact ⟨j + 1, l', by omega, by go_num, rfl, HP', by rw [HTS.out]; omega, HO', hbel⟩
                case measure => simp [intOf]; omega
          · have hod : (((j : Int) % 2) == 0) = false := by simpa using hev
            clear hev
            have hown := HO.out
            unfold Built at hown
            go_wp2_with (at_builtin; refine wpList_append_fits _ rfl (.tmp 96) (.tmp 98) 27 rfl w1.heap.size 5 i0 1 Trym.underlying27 hi hz1 w1.heap.size (l.length + 1) C _ rfl (hown.alloc _) ⟨wr.heap.size, 0, none⟩ 1 1 [.int .u8 34] rfl rfl (cell_one_new _ _ _) (byte_oneCell _) (by omega) ?_; intro w4 hown4 hgrow4)
            have hbel4 : Below w1.heap.size w1 w4 := (hbel.alloc hsz _).grown hgrow4 (by simp; omega) (fun k e => by cases e; exact Nat.le_refl _)
            go_loopw [10, 15] (fun x i wr => ∃ (r : Nat) (l2 M : List UInt8), r ≤ (S j).size ∧ i = .int .i64 r ∧ x = .slice (some ⟨w1.heap.size, 0, none⟩) (l2.length + 1) C ∧ Hid (l2 = l ++ (34 :: M) ∧ Passes 34 M) ∧ l2.length ≤ l.length + 1 + 2 * r ∧ Hid (Built wr w1.heap.size C l2) ∧ Below w1.heap.size w1 wr) (fun _ i _ => (S j).size - (intOf i).toNat)
            case atStart => exact ⟨0, l ++ [34], [], by omega, rfl, by simp, ⟨rfl, passes_nil 34⟩, by simp, Built.more (c := 34) hown4, hbel4⟩
            case round =>
              clear hbel HO hsz hc1 hown hown4 hgrow4 hbel4
              obtain ⟨r, l2, M, hr, rfl, rfl, HL, hl2, HO', hbel⟩ := hrel
              have hsz := hbel.size
              have hown := HO'.out
              unfold Built at hown
              by_cases hrs : r < (S j).size
              · by_cases h92 : ((S j)[r].toNat : Int) = 92
                · go_wp2_with (first | (at_builtin; refine wpList_append_fits _ rfl (.tmp 116) (.tmp 117) 27 rfl w1.heap.size 5 i0 1 Trym.underlying27 hi hz1 w1.heap.size (l2.length + 1) C _ rfl (hown.alloc _) ⟨wr.heap.size, 0, none⟩ 1 1 [.int .u8 92] rfl rfl (cell_one_new _ _ _) (byte_oneCell _) (by omega) ?_; intro w4 hown4 hgrow4) | (at_builtin; refine wpList_append_fits _ rfl (.tmp 119) (.tmp 121) 27 rfl w1.heap.size 5 i0 1 Trym.underlying27 hi hz1 w1.heap.size (l2.length + 1 + 1) C _ rfl (hown4.alloc _) ⟨w4.heap.size, 0, none⟩ 1 1 [.int .u8 92] rfl rfl (cell_one_new _ _ _) (byte_oneCell _) (by omega) ?_; intro w5 hown5 hgrow5))
                  have hbel5 := built_two hbel hgrow4 hgrow5
                  go_roundw
                  case rel => exact ⟨r + 1, l2 ++ [92, 92], M ++ [92, 92], by omega, by go_num, by simp, ⟨by rw [HL.out.1]; simp, passes_append HL.out.2 (passes_esc 34 92 (by omega))⟩, by simp; omega, Built.more2 (c := 92) hown5, hbel5⟩
                  case measure => simp [intOf]; omega
                · by_cases hqq : ((S j)[r].toNat : Int) = 34
                  · clear h92
                    go_wp2_with (first | (at_builtin; refine wpList_append_fits _ rfl (.tmp 116) (.tmp 117) 27 rfl w1.heap.size 5 i0 1 Trym.underlying27 hi hz1 w1.heap.size (l2.length + 1) C _ rfl (hown.alloc _) ⟨wr.heap.size, 0, none⟩ 1 1 [.int .u8 92] rfl rfl (cell_one_new _ _ _) (byte_oneCell _) (by omega) ?_; intro w4 hown4 hgrow4) | (at_builtin; refine wpList_append_fits _ rfl (.tmp 119) (.tmp 121) 27 rfl w1.heap.size 5 i0 1 Trym.underlying27 hi hz1 w1.heap.size (l2.length + 1 + 1) C _ rfl (hown4.alloc _) ⟨w4.heap.size, 0, none⟩ 1 1 [.int .u8 34] rfl rfl (cell_one_new _ _ _) (byte_oneCell _) (by omega) ?_; intro w5 hown5 hgrow5))
                    have hbel5 := built_two hbel hgrow4 hgrow5
                    go_roundw
                    case rel => exact ⟨r + 1, l2 ++ [92, 34], M ++ [92, 34], by omega, by go_num, by simp, ⟨by rw [HL.out.1]; simp, passes_append HL.out.2 (passes_esc 34 34 (by omega))⟩, by simp; omega, Built.more2 (c := 34) hown5, hbel5⟩
                    case measure => simp [intOf]; omega
                  · have g1 : (((S j)[r].toNat : Int) == 92) = false := by simp [h92]
                    have g2 : (((S j)[r].toNat : Int) == 34) = false := by simp [hqq]
                    have HPP : Hid (Passes 34 [(S j)[r]]) := passes_inq 34 _ (by omega) h92 hqq
                    clear h92 hqq
                    go_wp2_with (at_builtin; refine wpList_append_fits _ rfl (.tmp 119) (.tmp 121) 27 rfl w1.heap.size 5 i0 1 Trym.underlying27 hi hz1 w1.heap.size (l2.length + 1) C _ rfl (hown.alloc _) ⟨wr.heap.size, 0, none⟩ 1 1 [.int .u8 ((S j)[r].toNat : Int)] rfl rfl (cell_one_new _ _ _) (byte_oneCell _) (by omega) ?_; intro w4 hown4 hgrow4)
                    have hbel4 : Below w1.heap.size w1 w4 := (hbel.alloc hsz _).grown hgrow4 (by simp; omega) (fun k e => by cases e; exact Nat.le_refl _)
                    go_roundw
                    case rel => exact ⟨r + 1, l2 ++ [(S j)[r]], M ++ [(S j)[r]], by omega, by go_num, by simp, ⟨by rw [HL.out.1]; simp, passes_append HL.out.2 HPP.out⟩, by simp; omega, Built.more hown4, hbel4⟩
                    case measure => simp [intOf]; omega
              · go_wp2_with (at_builtin; refine wpList_append_fits _ rfl (.tmp 123) (.tmp 125) 27 rfl w1.heap.size 5 i0 1 Trym.underlying27 hi hz1 w1.heap.size (l2.length + 1) C _ rfl (hown.alloc _) ⟨wr.heap.size, 0, none⟩ 1 1 [.int .u8 34] rfl rfl (cell_one_new _ _ _) (byte_oneCell _) (by omega) ?_; intro w4 hown4 hgrow4)
                have hbel4 : Below w1.heap.size w1 w4 := (hbel.alloc hsz _).grown hgrow4 (by simp; omega) (fun k e => by cases e; exact Nat.le_refl _)
                have hP : Passes 0 (l2 ++ [34]) := by
                  rw [HL.out.1, List.append_assoc]
                  exact passes_append HP.out (passes_quoted 34 M (by decide) HL.out.2)
                go_roundw
                case rel => exact ⟨j + 1, l2 ++ [34], by omega, by go_num, by simp, hP, by rw [HTS.out]; simp; omega, Built.more (c := 34) hown4, hbel4⟩
                case measure => simp [intOf]; omega
        · obtain rfl : j = k := by omega
          have hmk : tot S v.size j = m := HMM.out.symm
          have hlm : l.length + 2 * v.size ≤ 2 * m := by omega
          clear hmk
          have hown := HO.out
          unfold Built at hown
          go_wp2_with (at_builtin; refine wpList_append_fits _ rfl (.tmp 129) (.tmp 130) 27 rfl w1.heap.size 5 i0 1 Trym.underlying27 hi hz1 w1.heap.size (l.length + 1) C _ rfl (hown.alloc _) ⟨wr.heap.size, 0, none⟩ 1 1 [.int .u8 125] rfl rfl (cell_one_new _ _ _) (byte_oneCell _) (by omega) ?_; intro w4 hown4 hgrow4)
          have hbel4 : Below w1.heap.size w1 w4 := (hbel.alloc hsz _).grown hgrow4 (by simp; omega) (fun k e => by cases e; exact Nat.le_refl _)
          go_loopw [10, 18] (fun x i wr => ∃ (r : Nat) (l2 : List UInt8), r ≤ v.size ∧ i = .int .i64 r ∧ x = .slice (some ⟨w1.heap.size, 0, none⟩) (l2.length + 1) C ∧ Hid (l2 = l ++ (125 :: v.data.toList.take r)) ∧ l2.length ≤ l.length + 1 + r ∧ Hid (Built wr w1.heap.size C l2) ∧ Below w1.heap.size w1 wr) (fun _ i _ => v.size - (intOf i).toNat)
          case atStart => exact ⟨0, l ++ [125], by omega, rfl, by simp, rfl, by simp, Built.more (c := 125) hown4, hbel4⟩
          case round =>
            clear hbel HO hsz hown hown4 hgrow4 hbel4
            obtain ⟨r, l2, hr, rfl, rfl, HL, hl2, HO', hbel⟩ := hrel
            have hsz := hbel.size
            have hown := HO'.out
            unfold Built at hown
            by_cases hrs : r < v.size
            · go_wp2_with (at_builtin; refine wpList_append_fits _ rfl (.tmp 138) (.tmp 142) 27 rfl w1.heap.size 5 i0 1 Trym.underlying27 hi hz1 w1.heap.size (l2.length + 1) C _ rfl (hown.alloc _) ⟨wr.heap.size, 0, none⟩ 1 1 [.int .u8 (v[r].toNat : Int)] rfl rfl (cell_one_new _ _ _) (byte_oneCell _) (by omega) ?_; intro w4 hown4 hgrow4)
              have hbel4 : Below w1.heap.size w1 w4 := (hbel.alloc hsz _).grown hgrow4 (by simp; omega) (fun k e => by cases e; exact Nat.le_refl _)
              go_roundw
              case rel => exact ⟨r + 1, l2 ++ [v[r]], by omega, by go_num, by simp, tail_step HL.out hrs, by simp; omega, Built.more hown4, hbel4⟩
              case measure => simp [intOf]; omega
            · have hcv := built_string HO'.out
              have HF := built_found HP.out HL.out (by omega)
              have hsl : (ByteArray.mk (123 :: l2).toArray).size ≤ 1099511627776 := by
                show (123 :: l2).toArray.size ≤ _
                simp; omega
              go_wp2_with (go_at_call 9; refine (zzclosing_any _ _ hsl).mono ?_; rintro e w5 ⟨rfl, rfl⟩)
              go_ret
              exact ⟨rfl, hbel1.trans (hbel.mono hbel1.size)⟩

set_option maxRecDepth 100000 in
set_option maxHeartbeats 1000000 in
theorem skipsZero_any (ao : Option Addr) (cap : Nat) (S : Nat → ByteArray) (v : ByteArray) (d : Bool) (w : World) (h0 : Strs w ao 0 cap S) (hv : v.size ≤ maxLen) (hb2 : v.size ≤ 1048576) :
    Calls Trym.prog 4 #[.slice ao 0 cap, .string v, .bool d] w fun e w' => e = .returned (.bool true) ∧ Below w.heap.size w w' := by
  obtain ⟨i0, hi, hz0, hz1, hz2⟩ := info_parts Trym.info5
  cases d
  all_goals
    go_enter Trym.func4, Trym.ntmps4
    go_wp2_with (go_at_call 11; refine (bytes11_any _ _ _ S _ _ _ h0 hv).mono ?_; rintro e w' ⟨rfl | ⟨rfl, hsh⟩, rfl⟩)
    · go_ret
      exact ⟨rfl, Below.refl _ _⟩
    go_loop [7, 8] (fun t i => t = .int .i64 v.size ∧ i = .int .i64 0) (fun _ _ => 0)
    case atStart => exact ⟨rfl, rfl⟩
    case round =>
      obtain ⟨rfl, rfl⟩ := hrel
      go_wp2_with fail
      refine (copy_any _ _ _ S _ h0 (by omega)).mono ?_
      rintro e w1 ⟨ao1, cap1, rfl, hs1, hbel1⟩
      clear hs1
      obtain ⟨C, hC⟩ : ∃ C, C = 2 * v.size + 4 := ⟨_, rfl⟩
      have hC1 : 2 * v.size + 4 ≤ C := by omega
      have hC2 : C ≤ 2 * v.size + 4 := by omega
      clear hC
      go_wp2_with (first | (at_make; refine wpList_make_own _ rfl _ _ 27 rfl w1.heap.size 5 i0 _ 1 Trym.underlying27 hi hz0 hz1 _ _ _ C rfl rfl (by omega) (by rw [hz2]; omega) (by unfold maxLen; omega) (Nat.le_refl _) ?_; intro w2 hown2 hgrow2; have hz2b := hgrow2.size) | (at_builtin; refine wpList_append_fits _ rfl (.tmp 57) (.tmp 58) 27 rfl w1.heap.size 5 i0 1 Trym.underlying27 hi hz1 w1.heap.size 0 C _ rfl (hown2.alloc _) ⟨w2.heap.size, 0, none⟩ 1 1 [.int .u8 123] rfl rfl (cell_one_new _ _ _) (byte_oneCell _) (by omega) ?_; intro w3 hown3 hgrow3))
      have hbel3 : Below w1.heap.size w1 w3 := ((((Below.refl w1.heap.size w1).grown hgrow2 (Nat.le_refl _) (fun k e => by cases e)).alloc hgrow2.size _)).grown hgrow3 (by have := hgrow2.size; simp; omega) (fun k e => by cases e; exact Nat.le_refl _)
      go_loopw [10, 11] (fun x i wr => x = .slice (some ⟨w1.heap.size, 0, none⟩) 1 C ∧ i = .int .i64 0 ∧ Hid (Built wr w1.heap.size C []) ∧ Below w1.heap.size w1 wr) (fun _ _ _ => 0)
      case atStart => exact ⟨rfl, rfl, hown3, hbel3⟩
      case round =>
        clear hown3 hgrow3 hown2 hgrow2 hbel3
        obtain ⟨rfl, rfl, HO, hbel⟩ := hrel
        have hsz := hbel.size
        have hown : wr.ownsRow w1.heap.size 5 1 (.slice (some ⟨w1.heap.size, 0, none⟩) 1 C) 1 (bcells [123]) := HO.out
        go_wp2_with (at_builtin; refine wpList_append_fits _ rfl (.tmp 129) (.tmp 130) 27 rfl w1.heap.size 5 i0 1 Trym.underlying27 hi hz1 w1.heap.size 1 C _ rfl (hown.alloc _) ⟨wr.heap.size, 0, none⟩ 1 1 [.int .u8 125] rfl rfl (cell_one_new _ _ _) (byte_oneCell _) (by omega) ?_; intro w4 hown4 hgrow4)
        have hbel4 : Below w1.heap.size w1 w4 := (hbel.alloc hsz _).grown hgrow4 (by simp; omega) (fun k e => by cases e; exact Nat.le_refl _)
        go_loopw [10, 18] (fun x i wr => ∃ (r : Nat) (l2 : List UInt8), r ≤ v.size ∧ i = .int .i64 r ∧ x = .slice (some ⟨w1.heap.size, 0, none⟩) (l2.length + 1) C ∧ Hid (l2 = [] ++ (125 :: v.data.toList.take r)) ∧ l2.length ≤ 1 + r ∧ Hid (Built wr w1.heap.size C l2) ∧ Below w1.heap.size w1 wr) (fun _ i _ => v.size - (intOf i).toNat)
        case atStart => exact ⟨0, [125], by omega, rfl, rfl, rfl, by simp, Built.more (l := []) (c := 125) hown4, hbel4⟩
        case round =>
          clear hbel HO hsz hown hown4 hgrow4 hbel4
          obtain ⟨r, l2, hr, rfl, rfl, HL, hl2, HO', hbel⟩ := hrel
          have hsz := hbel.size
          have hown := HO'.out
          unfold Built at hown
          by_cases hrs : r < v.size
          · go_wp2_with (at_builtin; refine wpList_append_fits _ rfl (.tmp 138) (.tmp 142) 27 rfl w1.heap.size 5 i0 1 Trym.underlying27 hi hz1 w1.heap.size (l2.length + 1) C _ rfl (hown.alloc _) ⟨wr.heap.size, 0, none⟩ 1 1 [.int .u8 (v[r].toNat : Int)] rfl rfl (cell_one_new _ _ _) (byte_oneCell _) (by omega) ?_; intro w4 hown4 hgrow4)
            have hbel4 : Below w1.heap.size w1 w4 := (hbel.alloc hsz _).grown hgrow4 (by simp; omega) (fun k e => by cases e; exact Nat.le_refl _)
            go_roundw
            case rel => exact ⟨r + 1, l2 ++ [v[r]], by omega, by go_num, by simp, tail_step HL.out hrs, by simp; omega, Built.more hown4, hbel4⟩
            case measure => simp [intOf]; omega
          · have hcv := built_string HO'.out
            have HF : sc (ByteArray.mk (123 :: l2).toArray) 0 1 = 1 := built_found (passes_nil 0) HL.out (by omega)
            have hsl : (ByteArray.mk (123 :: l2).toArray).size ≤ 1099511627776 := by
              show (123 :: l2).toArray.size ≤ _
              simp; omega
            go_wp2_with (go_at_call 9; refine (zzclosing_any _ _ hsl).mono ?_; rintro e w5 ⟨rfl, rfl⟩)
            go_ret
            exact ⟨rfl, hbel1.trans (hbel.mono hbel1.size)⟩

set_option maxHeartbeats 400000 in
theorem law4_any (ao : Option Addr) (n cap : Nat) (S : Nat → ByteArray) (v : ByteArray) (d : Bool) (w : World) (h0 : Strs w ao n cap S) (hv : v.size ≤ maxLen) :
    Calls Trym.prog 4 #[.slice ao n cap, .string v, .bool d] w fun e w' => e = .returned (.bool true) ∧ Below w.heap.size w w' := by
  by_cases hb : n ≤ 65536 ∧ v.size ≤ 1048576
  · obtain ⟨hb1, hb2⟩ := hb
    by_cases hn0 : 0 < n
    · cases d
      · exact skips39_any ao n cap S v w h0 hn0 hv hb1 hb2
      · exact skips34_any ao n cap S v w h0 hn0 hv hb1 hb2
    · obtain rfl : n = 0 := by omega
      exact skipsZero_any ao cap S v d w h0 hv hb2
  · have hcm : n ≤ maxLen := Nat.le_trans h0.1 h0.2.1
    unfold maxLen at hcm
    have hv2 : v.size ≤ 9223372036854775807 := hv
    have hb' : 65536 < n ∨ (n ≤ 65536 ∧ 1048576 < v.size) := by omega
    clear hb
    rcases hb' with hb | ⟨hb, hb2⟩
    all_goals
      go_enter Trym.func4, Trym.ntmps4
      go_wp2_with (go_at_call 11; refine (bytes11_any _ _ _ S _ _ _ h0 hv).mono ?_; rintro e w' ⟨rfl | ⟨rfl, hsh⟩, rfl⟩)
      · go_ret
        exact ⟨rfl, Below.refl _ _⟩
      · go_ret
        exact ⟨rfl, Below.refl _ _⟩
end Go.Proofs.Qxb6600428aMods
