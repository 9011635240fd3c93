/-
  THE WALK of FnIdSetAddSpec.
-/
import Derived.Test.Qxb6601771aModsAdd
namespace Go.Proofs.Qxb6601771aMods
open Go.RowKit Plain

theorem run_map_nil (W : World) (r : Option Nat) : (binOp .eql 28 (.map r) (.map none)).run Trym.prog W = .ok (.bool r.isNone) W := run_eql_map_nil W 28 9 4 r Trym.underlying28

theorem own_strsS {w : World} {B n cap : Nat} {ao : Option Addr} {S : Nat → ByteArray} (h : w.ownsRow B 9 1 (.slice ao n cap) n (scells (lst S n))) (hs : ∀ i, i < n → (S i).size ≤ maxLen) : Strs w ao n cap S := by
  rcases h.2 with ⟨hn, hx⟩ | ⟨g, c, cur, hv, _, hg, hle, hcm, _⟩
  · simp only [Value.slice.injEq] at hn
    obtain ⟨rfl, h1, rfl⟩ := hn
    exact ⟨by omega, Nat.zero_le _, hs, fun h => absurd h (by omega)⟩
  · simp only [Value.slice.injEq, true_and] at hv
    obtain ⟨rfl, rfl⟩ := hv
    refine ⟨hle, hcm, hs, fun _ => ⟨g, 0, rfl, (Array.getElem?_eq_some_iff.1 hg).1, fun i hi => ?_⟩⟩
    have := World.ownsRow.cellAt h i (by omega)
    rw [Nat.zero_add, this]
    simp [scells, lst, hi]

theorem zzadd_newS (B B0 bm n : Nat) (ao : Option Addr) (cap : Nat) (xs : List ByteArray) (hxn : xs.length = n) (id : ByteArray) (w : World) (hm : Mp w bm (keys xs)) (hown : w.ownsRow B 9 1 (.slice ao n cap) n (scells xs)) (hid : id.size ≤ maxLen) (hin : ¬ id.data.toList ∈ keys xs)
    (hl : n ≤ 1048576) (h1 : B0 ≤ B) (h2 : B0 ≤ bm) (h4 : B ≤ w.heap.size) :
    Calls Trym.prog 16 #[.slice ao n cap, .map (some bm), .string id] w fun e w' => ∃ ao' cap', e = .returned (.tuple #[.slice ao' (n + 1) cap', .map (some bm)]) ∧ Mp w' bm (keys (xs ++ [id])) ∧ w'.ownsRow B 9 1 (.slice ao' (n + 1) cap') (n + 1) (scells (xs ++ [id])) ∧ Below B0 w w' := by
  subst hxn
  exact zzadd_new B B0 bm ao cap xs id w hm hown hid hin hl h1 h2 h4

/-- One string more behind n. -/
def more (S : Nat → ByteArray) (n : Nat) (id : ByteArray) (i : Nat) : ByteArray := if i < n then S i else id
theorem more_lst (S : Nat → ByteArray) (n : Nat) (id : ByteArray) : lst (more S n id) (n + 1) = lst S n ++ [id] := by
  rw [lst_succ]
  congr 1
  · exact List.map_congr_left fun i hi => by unfold more; rw [if_pos (List.mem_range.1 hi)]
  · simp [more]
theorem more_L (S : Nat → ByteArray) (n : Nat) (id : ByteArray) : L (more S n id) n = L S n :=
  List.map_congr_left fun i hi => by unfold more; rw [if_pos (List.mem_range.1 hi)]
theorem more_size {S : Nat → ByteArray} {n : Nat} {id : ByteArray} (hs : ∀ i, i < n → (S i).size ≤ maxLen) (hid : id.size ≤ maxLen) : ∀ i, i < n + 1 → (more S n id i).size ≤ maxLen := fun i hi => by
  unfold more
  split
  · exact hs i (by assumption)
  · exact hid
theorem lst_mem (S : Nat → ByteArray) (n i : Nat) (h : i < n) : (S i).data.toList ∈ keys (lst S n) := by
  unfold keys lst
  rw [List.map_map]
  exact List.mem_map.2 ⟨i, List.mem_range.2 h, rfl⟩

theorem was_step (S : Nat → ByteArray) (k : Nat) (id : ByteArray) :
    decide (id.data.toList ∈ keys (lst S (k + 1))) = (decide (id.data.toList ∈ keys (lst S k)) || decide ((S k).data.toList = id.data.toList)) := by
  rw [lst_succ, keys_snoc, Bool.eq_iff_iff]
  simp only [decide_eq_true_eq, Bool.or_eq_true, List.mem_append, List.mem_singleton]
  constructor
  · rintro (h | h)
    · exact .inl h
    · exact .inr h.symm
  · rintro (h | h)
    · exact .inl h
    · exact .inr h.symm

theorem arg_len {H : Type} {w : World} {b n : Nat} {D : DataW H} (h : w.ownsMap Trym.prog 9 (plainElem Trym.prog 4) b n D) :
    ∃ sz : Nat, ∀ W : World, W.heap[b]? = w.heap[b]? → ∀ ty : TypeId, (Builtin.len_ #[28] ty #[.map (some b)]).run Trym.prog W = .ok (.int .i64 sz) W :=
  ⟨Maps.size D, fun _ e ty => (ownsMap_block h e).len Trym.underlying28 ty⟩

theorem strs_drewN {w : World} {ao : Option Addr} {n cap : Nat} {S : Nat → ByteArray} (h : Strs w ao n cap S) (q : Nat) : Strs (w.drewN q) ao n cap S := h
theorem strs_short {w : World} {ao : Option Addr} {n cap : Nat} {S : Nat → ByteArray} (h : Strs w ao (n + 1) cap S) : Strs w ao n cap S := by
  obtain ⟨h1, h2, h3, h4⟩ := h
  obtain ⟨b, off, hao, hb, hc⟩ := h4 (by omega)
  exact ⟨by omega, h2, fun i hi => h3 i (by omega), fun _ => ⟨b, off, hao, hb, fun i hi => hc i (by omega)⟩⟩
theorem mp_lens {w : World} {b n : Nat} {ks : List Bs} (h : Mp w b ks) (hn : ks.length = n) : ∀ (q : Nat) (ty : TypeId), (Builtin.len_ #[28] ty #[.map (some b)]).run Trym.prog (w.drewN q) = .ok (.int .i64 (n : Nat)) (w.drewN q) := fun q ty => by
  rw [← hn]
  exact (h.drewN q).len ty

theorem sc_zero (x y : ByteArray) : sc x y 0 = 0 ↔ x.data.toList = y.data.toList := cmp_zero _ _

set_option maxHeartbeats 1000000 in
theorem spec_none (ao : Option Addr) (n cap : Nat) (S : Nat → ByteArray) (id : ByteArray) (w : World) (h : Strs w ao n cap S) (hS : ∀ i, i < n → (S i).size ≤ 140737488355328) (hid : id.size ≤ maxLen) :
    Calls Trym.prog 6 #[.slice ao n cap, .map none, .string id] w fun e w' => e = .returned (.bool true) ∧ Below w.heap.size w w' := by
  have hln : ∀ (W : World) (ty : TypeId), (Builtin.len_ #[28] ty #[.map none]).run Trym.prog W = .ok (.int .i64 0) W := fun W ty => Maps.len_nil Trym.underlying28 ty
  have hmn := run_map_nil
  unfold maxLen at hid
  by_cases hi : id.size ≤ 1048576
  · go_enter Trym.func6, Trym.ntmps6
    go_wp2_with fail
    refine (size_any _ _ _ S _ h hS).mono ?_
    rintro e w' ⟨⟨z, rfl, hz0, hz1, hz2⟩, rfl⟩
    clear hz2
    by_cases hz : z + id.size ≤ 1048576
    · go_wp2_with fail
      go_ret
      exact ⟨rfl, Below.refl _ _⟩
    · go_wp2_with fail
      go_ret
      exact ⟨rfl, Below.refl _ _⟩
  · go_enter Trym.func6, Trym.ntmps6
    go_wp2_with fail
    go_ret
    exact ⟨rfl, Below.refl _ _⟩

set_option maxHeartbeats 2000000 in
theorem spec_some {H : Type} (ao : Option Addr) (n cap : Nat) (S : Nat → ByteArray) (b0 nm : Nat) (D : DataW H) (id : ByteArray) (w : World) (h : Strs w ao n cap S) (hS : ∀ i, i < n → (S i).size ≤ 140737488355328) (hid : id.size ≤ maxLen) (hown0 : w.ownsMap Trym.prog 9 (plainElem Trym.prog 4) b0 nm D) :
    Calls Trym.prog 6 #[.slice ao n cap, .map (some b0), .string id] w fun e w' => e = .returned (.bool true) ∧ Below w.heap.size w w' := by
  have hmn := run_map_nil
  have hmm := @run_makeMap Trym.prog
  have hb0 := hown0.lt
  obtain ⟨sz, hlen⟩ := arg_len hown0
  have hl0 := hlen w rfl
  have hid2 : id.size ≤ 9223372036854775807 := hid
  by_cases hi : id.size ≤ 1048576
  · go_enter Trym.func6, Trym.ntmps6
    go_wp2_with fail
    refine (size_any _ _ _ S _ h hS).mono ?_
    rintro e w' ⟨⟨z, rfl, hz0, hz1, hz2⟩, rfl⟩
    have HZ : Hid (z ≤ 1048576 → n ≤ 65536 ∧ Short S n) := hz2
    clear hz2
    by_cases hz : z + id.size ≤ 1048576
    · have hn : n ≤ 65536 := (HZ.out (by omega)).1
      by_cases hsz : sz ≤ 65536
      · go_wp2_with fail
        refine (clone_any _ _ _ S _ h (by omega)).mono ?_
        rintro e w1 ⟨ao1, cap1, rfl, hs1, hb1⟩
        have HS : Hid (∀ i, i < n → (S i).size ≤ maxLen) := hs1.2.2.1
        have HO1 : Hid (w1.ownsMap Trym.prog 9 (plainElem Trym.prog 4) b0 nm D) := ownsMap_block hown0 (hb1.block b0 hb0)
        have hb01 : b0 < w1.heap.size := by have := hb1.size; omega
        go_wp2_with fail
        go_loopw [35] (fun i wr => ∃ k : Nat, k ≤ n ∧ i = .int .i64 k ∧ Mp wr w1.heap.size (keys (lst S k)) ∧ Below w1.heap.size w1 wr) (fun i _ => n - (intOf i).toNat)
        case atStart => exact ⟨0, by omega, rfl, Mp.made w1, (Below.refl _ _).alloc (Nat.le_refl _) _⟩
        case round =>
          obtain ⟨k, hk, rfl, hmp, hbel⟩ := hrel
          by_cases hlt : k < n
          · obtain ⟨b, off, hao, hbw, hcell⟩ := hs1.2.2.2 (by omega)
            subst hao
            have hc := (hbel.cell (p := ⟨b, off + k, none⟩) hbw).trans (hcell k hlt)
            have hsk := HS.out k hlt
            have hkl : (keys (lst S k)).length < maxLen := by rw [keys_length, lst_length]; unfold maxLen; omega
            by_cases hin : (S k).data.toList ∈ keys (lst S k)
            · go_wp2_with (at_lookup; refine wpList_look_yes _ rfl _ _ rfl w1.heap.size _ rfl hmp (S k) rfl hsk hin ?_)
              go_ret
              exact ⟨rfl, hb1.trans (hbel.mono hb1.size)⟩
            · go_wp2_with (first | (at_lookup; refine wpList_look_no _ rfl _ _ rfl w1.heap.size _ rfl hmp (S k) rfl hsk hin ?_) | (at_mapUpdate; refine wpList_put_true _ rfl _ _ _ rfl w1.heap.size _ rfl hmp hkl (S k) rfl rfl hsk hin ?_; intro w2 hm2 hg2))
              have hbel2 : Below w1.heap.size w1 w2 := hbel.grown hg2 hbel.size (fun j e => by cases e; exact Nat.le_refl _)
              rw [← keys_snoc, ← lst_succ] at hm2
              go_roundw
              case rel => exact ⟨k + 1, by omega, by go_num, hm2, hbel2⟩
              case measure => simp [intOf]; omega
          · obtain rfl : k = n := by omega
            have hown0r : wr.ownsMap Trym.prog 9 (plainElem Trym.prog 4) b0 nm D := ownsMap_block HO1.out (hbel.block b0 hb01)
            have hl1 := hlen wr ((hbel.block b0 hb01).trans (hb1.block b0 hb0))
            have hfin1 : Below w'.heap.size w' wr := hb1.trans (hbel.mono hb1.size)
            by_cases hsn : sz = k
            · have hne : ((sz : Int) != (k : Int)) = false := by simp [hsn]
              clear hsn
              go_wp2_with fail
              go_loop [57] (fun i => ∃ j : Nat, j ≤ k ∧ i = .int .i64 j) (fun i => k - (intOf i).toNat)
              case atStart => exact ⟨0, by omega, rfl⟩
              case round =>
                obtain ⟨j, hj, rfl⟩ := hrel
                by_cases hjk : j < k
                · obtain ⟨b, off, hao, hbw, hcell⟩ := hs1.2.2.2 (by omega)
                  subst hao
                  have hc := (hbel.cell (p := ⟨b, off + j, none⟩) hbw).trans (hcell j hjk)
                  have hsj := HS.out j hjk
                  go_wp2_with (at_lookup; refine wpList_look_any _ rfl _ _ rfl b0 nm D rfl hown0r (S j) rfl hsj ?_; intro c; cases c)
                  · go_ret
                    exact ⟨rfl, hfin1⟩
                  · go_round
                    case rel => exact ⟨j + 1, by omega, by go_num⟩
                    case measure => simp [intOf]; omega
                · go_wp2_with fail
                  go_loopw [10, 71] (fun c i wq => ∃ (r q : Nat) (cb : Bool), r ≤ k ∧ i = .int .i64 r ∧ c = .bool cb ∧ Hid (cb = decide (id.data.toList ∈ keys (lst S r))) ∧ wq = wr.drewN q) (fun _ i _ => k - (intOf i).toNat)
                  case atStart => exact ⟨0, 0, false, by omega, rfl, rfl, by simp [lst, keys, Hid], by simp [World.drewN]⟩
                  case round =>
                    obtain ⟨r, q, cb, hr, rfl, rfl, HC, rfl⟩ := hrel
                    by_cases hrk : r < k
                    · obtain ⟨b, off, hao, hbw, hcell⟩ := hs1.2.2.2 (by omega)
                      subst hao
                      have hc := (hbel.cell (p := ⟨b, off + r, none⟩) hbw).trans (hcell r hrk)
                      have hsr := HS.out r hrk
                      have HW : Hid (decide (id.data.toList ∈ keys (lst S (r + 1))) = (decide (id.data.toList ∈ keys (lst S r)) || decide ((S r).data.toList = id.data.toList))) := was_step S r id
                      by_cases he : sc (S r) id 0 = 0
                      · have hbe : ((sc (S r) id 0) == 0) = true := by simp [he]
                        have HE : Hid ((S r).data.toList = id.data.toList) := (sc_zero _ _).1 he
                        clear he
                        go_wp2_with (go_at_call 12; refine (cmp_any (S r) id _ hsr hid).mono ?_; rintro e w2 ⟨rfl, q2, rfl⟩)
                        go_roundw
                        case rel => exact ⟨r + 1, _, true, by omega, by go_num, rfl, by show true = _; rw [HW.out, decide_eq_true HE.out, Bool.or_true], rfl⟩
                        case measure => simp [intOf]; omega
                      · have hbe : ((sc (S r) id 0) == 0) = false := by simp [he]
                        have HE : Hid (¬ (S r).data.toList = id.data.toList) := fun e => he ((sc_zero _ _).2 e)
                        clear he
                        go_wp2_with (go_at_call 12; refine (cmp_any (S r) id _ hsr hid).mono ?_; rintro e w2 ⟨rfl, q2, rfl⟩)
                        go_roundw
                        case rel => exact ⟨r + 1, _, cb, by omega, by go_num, rfl, by show cb = _; rw [HW.out, decide_eq_false HE.out, Bool.or_false, HC.out], rfl⟩
                        case measure => simp [intOf]; omega
                    · obtain rfl : r = k := by omega
                      go_wp2_with fail
                      refine (cloneOwn_any _ _ _ S _ (strs_drewN (hs1.below hbel (Nat.le_refl _)) q) (by omega)).mono ?_
                      rintro e w4 ⟨ao4, cap4, rfl, hown4, hb4⟩
                      have hlt4 : w1.heap.size < (wr.drewN q).heap.size := hmp.lt
                      have hmp4 : Mp w4 w1.heap.size (keys (lst S r)) := (hmp.drewN q).below hb4 hlt4
                      have hb14 : Below w1.heap.size w1 w4 := (below_drewN' hbel q).trans (hb4.mono (by omega))
                      by_cases hin : id.data.toList ∈ keys (lst S r)
                      · obtain rfl : cb = true := by rw [HC.out]; exact decide_eq_true hin
                        go_wp2_with fail
                        refine (zzadd_in _ _ _ _ _ id _ hmp4 hid hin).mono ?_
                        rintro e w5 ⟨rfl, hb5⟩
                        have hs5 : Strs w5 ao4 r cap4 S := (own_strsS hown4 HS.out).below hb5 (Nat.le_refl _)
                        have hb15 : Below w1.heap.size w1 w5 := hb14.trans (hb5.mono hb14.size)
                        have hq5 : Strs w5 ao1 r cap1 S := hs1.below hb15 (Nat.le_refl _)
                        have hmp5 := hmp4.below hb5 hmp4.lt
                        have hlen5 := mp_lens hmp5 (by rw [keys_length, lst_length])
                        have HF5 : Hid (Below w'.heap.size w' w5) := hb1.trans (hb15.mono hb1.size)
                        clear hown0r hl1 hl0 hlen hown0 HO1 hown4 hb4 hb14 hb5 hb15 hmp hmp4 hfin1
                        go_wp2_with fail
                        refine (equal_any _ _ _ S _ _ _ S _ hs5 hq5 (by omega) (by omega)).mono ?_
                        rintro e w6 ⟨rfl, q6, rfl⟩
                        rw [show eqB S S r r = true from decide_eq_true rfl]
                        go_wp2_with fail
                        go_loop [128] (fun i => ∃ j : Nat, j ≤ r ∧ i = .int .i64 j) (fun i => r - (intOf i).toNat)
                        case atStart => exact ⟨0, by omega, rfl⟩
                        case round =>
                          obtain ⟨j, hj, rfl⟩ := hrel
                          by_cases hjr : j < r
                          · obtain ⟨b, off, hao, hbw, hcell⟩ := hs5.2.2.2 (by omega)
                            subst hao
                            have hc := hcell j hjr
                            have hsj := HS.out j hjr
                            go_wp2_with (at_lookup; refine wpList_look_yes _ rfl _ _ rfl w1.heap.size _ rfl (hmp5.drewN _) (S j) rfl hsj (lst_mem S r j hjr) ?_)
                            go_round
                            case rel => exact ⟨j + 1, by omega, by go_num⟩
                            case measure => simp [intOf]; omega
                          · go_wp2_with fail
                            go_ret
                            exact ⟨rfl, below_drewN' HF5.out _⟩
                      · obtain rfl : cb = false := by rw [HC.out]; exact decide_eq_false hin
                        go_wp2_with fail
                        refine (zzadd_newS (wr.drewN q).heap.size w1.heap.size _ _ _ _ (lst S r) (lst_length _ _) id _ hmp4 hown4 hid hin (by omega) (by omega) (Nat.le_refl _) hb4.size).mono ?_
                        rintro e w5 ⟨ao5, cap5, rfl, hmp5, hown5, hb5⟩
                        rw [← more_lst] at hmp5 hown5
                        have hs5 : Strs w5 ao5 (r + 1) cap5 (more S r id) := own_strsS hown5 (more_size HS.out hid)
                        have hb15 : Below w1.heap.size w1 w5 := hb14.trans hb5
                        have hq5 : Strs w5 ao1 r cap1 S := hs1.below hb15 (Nat.le_refl _)
                        have hlen5 := mp_lens hmp5 (by rw [keys_length, lst_length])
                        have HF5 : Hid (Below w'.heap.size w' w5) := hb1.trans (hb15.mono hb1.size)
                        obtain ⟨g5, off5, hao5, hbw5, hcell5⟩ := hs5.2.2.2 (by omega)
                        subst hao5
                        have hsp5 : Strs w5 (some ⟨g5, off5, none⟩) r cap5 (more S r id) := strs_short hs5
                        have hcl := hcell5 r (by omega)
                        have hcapr : r + 1 ≤ cap5 := hs5.1
                        have hcapm : cap5 ≤ 9223372036854775807 := hs5.2.1
                        clear hown0r hl1 hl0 hlen hown0 HO1 hown4 hown5 hb4 hb14 hb5 hb15 hmp hmp4 hfin1
                        go_wp2_with fail
                        refine (equal_any _ _ _ (more S r id) _ _ _ S _ hsp5 hq5 (by omega) (by omega)).mono ?_
                        rintro e w6 ⟨rfl, q6, rfl⟩
                        rw [show eqB (more S r id) S r r = true from decide_eq_true (more_L S r id)]
                        have hidz : sc (more S r id r) id 0 = 0 := (sc_zero _ _).2 (by unfold more; rw [if_neg (by omega)])
                        go_wp2_with fail
                        refine (cmp_any (more S r id r) id _ (more_size HS.out hid r (by omega)) hid).mono ?_
                        rintro e w7 ⟨rfl, q7, rfl⟩
                        rw [hidz]
                        clear hidz hcl
                        go_wp2_with fail
                        go_loop [128] (fun i => ∃ j : Nat, j ≤ r + 1 ∧ i = .int .i64 j) (fun i => r + 1 - (intOf i).toNat)
                        case atStart => exact ⟨0, by omega, rfl⟩
                        case round =>
                          obtain ⟨j, hj, rfl⟩ := hrel
                          by_cases hjr : j < r + 1
                          · have hc := hcell5 j hjr
                            have hsj := more_size HS.out hid j hjr
                            go_wp2_with (at_lookup; refine wpList_look_yes _ rfl _ _ rfl w1.heap.size _ rfl (hmp5.drewN _) (more S r id j) rfl hsj (lst_mem _ _ j hjr) ?_)
                            go_round
                            case rel => exact ⟨j + 1, by omega, by go_num⟩
                            case measure => simp [intOf]; omega
                          · go_wp2_with fail
                            go_ret
                            exact ⟨rfl, below_drewN' HF5.out _⟩
            · have hne : ((sz : Int) != (k : Int)) = true := by simp; omega
              clear hsn
              go_wp2_with fail
              go_ret
              exact ⟨rfl, hfin1⟩
      · go_wp2_with fail
        go_ret
        exact ⟨rfl, Below.refl _ _⟩
    · go_wp2_with fail
      go_ret
      exact ⟨rfl, Below.refl _ _⟩
  · go_enter Trym.func6, Trym.ntmps6
    go_wp2_with fail
    go_ret
    exact ⟨rfl, Below.refl _ _⟩

end Go.Proofs.Qxb6601771aMods
