/-
  THE WALKS of (*idSet).add, ZZIdSetAdd; the clone as an owned row.
-/
import Derived.Test.Qxb6601771aModsMap
namespace Go.Proofs.Qxb6601771aMods
open Go.RowKit Plain

theorem below_drewN' {B : Nat} {a w : World} (h : Below B a w) (q : Nat) : Below B a (w.drewN q) := ⟨h.os, h.tape, h.output, h.size, h.block⟩

def keys (xs : List ByteArray) : List Bs := xs.map fun s => s.data.toList
def scells (xs : List ByteArray) : List Value := xs.map .string
theorem keys_snoc (xs : List ByteArray) (s : ByteArray) : keys (xs ++ [s]) = keys xs ++ [s.data.toList] := by simp [keys]
theorem scells_snoc (xs : List ByteArray) (s : ByteArray) : scells (xs ++ [s]) = scells xs ++ [.string s] := by simp [scells]
theorem keys_length (xs : List ByteArray) : (keys xs).length = xs.length := by simp [keys]

theorem str_oneCell (s : ByteArray) : ∀ u ∈ [Value.string s], u.oneCell' = true := by
  intro u hu
  simp at hu
  subst hu
  rfl

/-- A row of strings does not lie in a block that is none. -/
theorem own_ne {w : World} {B n b : Nat} {v : Value} {xs : List Value} (h : w.ownsRow B 9 1 v n xs) (hb : ∀ c, w.heap[b]? ≠ some (.cells c 9 (0, 0))) : v.ownBlock ≠ some b := by
  rcases h.2 with ⟨rfl, _⟩ | ⟨g, cap, cur, rfl, _, hg, _⟩
  · simp [Value.ownBlock]
  · intro e
    simp only [Value.ownBlock, Option.some.injEq] at e
    subst e
    exact hb _ hg

theorem own_block {w w' : World} {B n : Nat} {v : Value} {xs : List Value} (h : w.ownsRow B 9 1 v n xs) (hb : ∀ g, v.ownBlock = some g → w'.heap[g]? = w.heap[g]?) : w'.ownsRow B 9 1 v n xs := by
  refine ⟨h.1, ?_⟩
  rcases h.2 with hn | ⟨g, cap, cur, rfl, h1, hg, h2⟩
  · exact .inl hn
  · exact .inr ⟨g, cap, cur, rfl, h1, (hb g rfl).trans hg, h2⟩

theorem Mp.notRow {w : World} {b : Nat} {ks : List Bs} (h : Mp w b ks) : ∀ c, w.heap[b]? ≠ some (.cells c 9 (0, 0)) := by
  obtain ⟨n, D, _, ⟨es, clock, hb, _⟩, _⟩ := h
  intro c e
  rw [hb] at e
  cases e

theorem cell_of_heap {w : World} {b i : Nat} {c : Array Value} {t : TypeId} {f : Nat × Nat} {v : Value} (h : w.heap[b]? = some (.cells c t f)) (hi : c[i]? = some v) : w.cell? ⟨b, i, none⟩ = some v := by
  simp [World.cell?, h, hi]
theorem frozen_of_heap {w : World} {b i : Nat} {c : Array Value} {t : TypeId} (h : w.heap[b]? = some (.cells c t (0, 0))) : w.frozen? ⟨b, i, none⟩ = false := by
  simp [World.frozen?, h]

/-- THE SET's STRUCT in block sb. -/
def Box (w : World) (sb : Nat) (v : Value) (bm : Nat) : Prop := w.heap[sb]? = some (.cells #[v, .map (some bm)] 35 (0, 0))
theorem Box.c0 {w : World} {sb bm : Nat} {v : Value} (h : Box w sb v bm) : w.cell? ⟨sb, 0, none⟩ = some v := cell_of_heap h rfl
theorem Box.c1 {w : World} {sb bm : Nat} {v : Value} (h : Box w sb v bm) : w.cell? ⟨sb, 1, none⟩ = some (.map (some bm)) := cell_of_heap h rfl
theorem Box.lt {w : World} {sb bm : Nat} {v : Value} (h : Box w sb v bm) : sb < w.heap.size := (Array.getElem?_eq_some_iff.1 h).1
theorem Box.notRow {w : World} {sb bm : Nat} {v : Value} (h : Box w sb v bm) : ∀ c, w.heap[sb]? ≠ some (.cells c 9 (0, 0)) := by
  intro c e
  unfold Box at h
  rw [h] at e
  simp at e
theorem Box.ne {w : World} {sb bm b : Nat} {v : Value} {ks : List Bs} (h : Box w sb v bm) (hm : Mp w b ks) : sb ≠ b := by
  intro e
  subst e
  obtain ⟨n, D, _, ⟨es, clock, hb, _⟩, _⟩ := hm
  unfold Box at h
  rw [h] at hb
  cases hb
theorem Box.block {w w' : World} {sb bm : Nat} {v : Value} (h : Box w sb v bm) (e : w'.heap[sb]? = w.heap[sb]?) : Box w' sb v bm := e.trans h
theorem Box.store {w : World} {sb bm : Nat} {v : Value} (h : Box w sb v bm) (u : Value) : Box (w.setCell ⟨sb, 0, none⟩ u) sb u bm := by
  unfold Box at h ⊢
  simp [World.setCell, Array.getElem?_modify, h]

set_option maxHeartbeats 400000 in
theorem add_in (sb bm : Nat) (v : Value) (ks : List Bs) (id : ByteArray) (w : World) (hb : Box w sb v bm) (hm : Mp w bm ks) (hid : id.size ≤ maxLen) (hin : id.data.toList ∈ ks) :
    Calls Trym.prog 19 #[.pointer (some ⟨sb, 0, none⟩), .string id] w fun e w' => e = .returned (.tuple #[]) ∧ w' = w := by
  have c1 := hb.c1
  go_enter Trym.func19, Trym.ntmps19
  go_wp2_with (at_lookup; refine wpList_look_yes _ rfl _ _ rfl bm ks rfl hm id rfl hid hin ?_)
  go_end0
  exact ⟨rfl, rfl⟩

theorem box_kept {w w2 : World} {sb bm : Nat} {v : Value} {row : Option Nat} (h : Box w sb v bm) (hg : w.grownBy w2 row) (hr : row ≠ some sb) : Box w2 sb v bm := h.block (hg.block sb h.lt (fun e => hr e.symm))

theorem own_form {w : World} {B n : Nat} {v : Value} {xs : List Value} (h : w.ownsRow B 9 1 v (n + 1) xs) : ∃ g cap, v = .slice (some ⟨g, 0, none⟩) (n + 1) cap := by
  rcases h.2 with ⟨_, h⟩ | ⟨g, cap, cur, rfl, _⟩
  · cases h
  · exact ⟨g, cap, rfl⟩

/-- What is known behind the store into the map and the append. -/
structure Added (B B0 sb bm : Nat) (xs : List ByteArray) (id : ByteArray) (w w3 : World) (v v' : Value) : Prop where
  box : Box w3 sb v bm
  map : Mp w3 bm (keys (xs ++ [id]))
  own : w3.ownsRow B 9 1 v' (xs.length + 1) (scells (xs ++ [id]))
  bel : Below B0 w w3

theorem added_mk {B B0 sb bm : Nat} {xs : List ByteArray} {id : ByteArray} {w w2 w3 : World} {v v' : Value} (hb : Box w sb v bm) (hm : Mp w bm (keys xs)) (hown : w.ownsRow B 9 1 v xs.length (scells xs))
    (h1 : B0 ≤ B) (h2 : B0 ≤ bm) (h4 : B ≤ w.heap.size) (hm2 : Mp w2 bm (keys xs ++ [id.data.toList])) (hg2 : w.grownBy w2 (some bm))
    (hown3 : w3.ownsRow B 9 1 v' (xs.length + 1) (scells xs ++ [.string id])) (hg3 : (w2.alloc (.cells #[.string id] 9)).grownBy w3 v.ownBlock) : Added B B0 sb bm xs id w w3 v v' := by
  have n1 : v.ownBlock ≠ some sb := own_ne hown hb.notRow
  have n2 : v.ownBlock ≠ some bm := own_ne hown hm.notRow
  have b2 : Box w2 sb v bm := box_kept hb hg2 (fun e => hb.ne hm (Option.some.inj e).symm)
  have b3 : Box (w2.alloc (.cells #[.string id] 9)) sb v bm := b2.block (Below.heap_alloc _ _ _ b2.lt)
  have m3 := hm2.alloc (.cells #[.string id] 9)
  refine ⟨box_kept b3 hg3 n1, ?_, by rw [scells_snoc]; exact hown3, ?_⟩
  · rw [keys_snoc]
    exact m3.block (hg3.block bm m3.lt (fun e => n2 e.symm))
  · have e2 : Below B0 w w2 := (Below.refl B0 w).grown hg2 (by have := hm.lt; omega) (fun k e => by cases e; exact h2)
    have hs2 := hg2.size
    refine (e2.alloc (by omega) _).grown hg3 (by simp; omega) (fun k e => ?_)
    rcases hown.2 with ⟨rfl, _⟩ | ⟨g, cap, cur, rfl, hB, _⟩
    · simp [Value.ownBlock] at e
    · simp only [Value.ownBlock, Option.some.injEq] at e
      omega

theorem Added.done {B B0 sb bm : Nat} {xs : List ByteArray} {id : ByteArray} {w w3 : World} {v v' : Value} {u : Value} (A : Added B B0 sb bm xs id w w3 v v') :
    Mp (w3.setCell ⟨sb, 0, none⟩ u) bm (keys (xs ++ [id])) ∧ (w3.setCell ⟨sb, 0, none⟩ u).ownsRow B 9 1 v' (xs.length + 1) (scells (xs ++ [id])) := by
  constructor
  · exact A.map.block (Below.heap_setCell _ _ _ _ (fun e => A.box.ne A.map e.symm))
  · exact own_block A.own fun g hg => Below.heap_setCell _ _ _ _ (fun e => own_ne A.own A.box.notRow (by rw [hg, e]))

theorem own_two {B bm : Nat} {xs : List ByteArray} {w w2 : World} {v : Value} {ks : List Bs} (hown : w.ownsRow B 9 1 v xs.length (scells xs)) (hm : Mp w bm ks) (hg2 : w.grownBy w2 (some bm)) : w2.ownsRow B 9 1 v xs.length (scells xs) :=
  hown.kept hg2 (.inr (own_ne hown hm.notRow))

set_option maxHeartbeats 400000 in
theorem add_new (B B0 sb bm : Nat) (ao : Option Addr) (cap : Nat) (xs : List ByteArray) (id : ByteArray) (w : World) (hb : Box w sb (.slice ao xs.length cap) bm) (hm : Mp w bm (keys xs)) (hown : w.ownsRow B 9 1 (.slice ao xs.length cap) xs.length (scells xs)) (hid : id.size ≤ maxLen) (hin : ¬ id.data.toList ∈ keys xs)
    (hl : xs.length ≤ 1048576) (h1 : B0 ≤ B) (h2 : B0 ≤ bm) (h3 : B0 ≤ sb) (h4 : B ≤ w.heap.size) :
    Calls Trym.prog 19 #[.pointer (some ⟨sb, 0, none⟩), .string id] w fun e w' => e = .returned (.tuple #[]) ∧ ∃ v', Box w' sb v' bm ∧ Mp w' bm (keys (xs ++ [id])) ∧ w'.ownsRow B 9 1 v' (xs.length + 1) (scells (xs ++ [id])) ∧ Below B0 w w' := by
  obtain ⟨i0, hi, hz0, hz1, hz2⟩ := info_parts Trym.info9
  have c1 := hb.c1
  have hbm := hm.lt
  have hsb := hb.lt
  have hkl : (keys xs).length < maxLen := by rw [keys_length]; unfold maxLen; omega
  have HB : Hid (Box w sb (.slice ao xs.length cap) bm) := hb
  have HN : Hid (sb ≠ bm) := hb.ne hm
  clear hb
  go_enter Trym.func19, Trym.ntmps19
  go_wp2_with (first | (at_lookup; refine wpList_look_no _ rfl _ _ rfl bm (keys xs) rfl hm id rfl hid hin ?_) | (at_mapUpdate; refine wpList_put_true _ rfl _ _ _ rfl bm (keys xs) rfl hm hkl id rfl rfl hid hin ?_; intro w2 hm2 hg2; have hb2 := box_kept HB.out hg2 (fun e => HN.out (Option.some.inj e).symm); have c0 := hb2.c0; have hsz2 := hg2.size; have hown2 := own_two hown hm hg2) | (at_builtin; refine wpList_append_own _ rfl (.tmp 20) (.tmp 22) 22 rfl B 9 i0 _ 1 16 Trym.underlying22 hi hz0 hz1 hz2 rfl (by decide) _ _ _ rfl (hown2.alloc _) ⟨w2.heap.size, 0, none⟩ 1 1 [.string id] rfl rfl (cell_one_new _ _ _) (str_oneCell _) (by unfold maxLen; omega) (by omega) (by simp; omega) ?_; intro v' w3 hown3 hgrow3 _; obtain ⟨g, cap3, hv3⟩ := own_form hown3; subst hv3; have A := added_mk HB.out hm hown h1 h2 h4 hm2 hg2 hown3 hgrow3; have d0 := A.box.c0; have f0 := frozen_of_heap (i := 0) A.box))
  go_end0
  exact ⟨rfl, _, A.box.store _, A.done.1, A.done.2, A.bel.setCell h3 _⟩

set_option maxHeartbeats 400000 in
theorem zzadd_in (bm n cap : Nat) (ao : Option Addr) (ks : List Bs) (id : ByteArray) (w : World) (hm : Mp w bm ks) (hid : id.size ≤ maxLen) (hin : id.data.toList ∈ ks) :
    Calls Trym.prog 16 #[.slice ao n cap, .map (some bm), .string id] w fun e w' => e = .returned (.tuple #[.slice ao n cap, .map (some bm)]) ∧ Below w.heap.size w w' := by
  have hbox : Box (w.alloc (.cells #[.slice ao n cap, .map (some bm)] 35)) w.heap.size (.slice ao n cap) bm := Deep.blk_alloc_new _ _
  have hm1 := hm.alloc (.cells #[.slice ao n cap, .map (some bm)] 35)
  have c0 := hbox.c0
  have c1 := hbox.c1
  go_enter Trym.func16, Trym.ntmps16
  go_wp2_with (go_at_call 19; refine (add_in _ bm _ ks id _ hbox hm1 hid hin).mono ?_; rintro e w' ⟨rfl, rfl⟩)
  go_quiet (fail)
  go_wp2
  go_ret2
  exact ⟨rfl, below_drewN' ((Below.refl _ _).alloc (Nat.le_refl _) _) _⟩

set_option maxHeartbeats 400000 in
theorem zzadd_new (B B0 bm : Nat) (ao : Option Addr) (cap : Nat) (xs : List ByteArray) (id : ByteArray) (w : World) (hm : Mp w bm (keys xs)) (hown : w.ownsRow B 9 1 (.slice ao xs.length cap) xs.length (scells xs)) (hid : id.size ≤ maxLen) (hin : ¬ id.data.toList ∈ keys xs)
    (hl : xs.length ≤ 1048576) (h1 : B0 ≤ B) (h2 : B0 ≤ bm) (h4 : B ≤ w.heap.size) :
    Calls Trym.prog 16 #[.slice ao xs.length cap, .map (some bm), .string id] w fun e w' => ∃ ao' cap', e = .returned (.tuple #[.slice ao' (xs.length + 1) cap', .map (some bm)]) ∧ Mp w' bm (keys (xs ++ [id])) ∧ w'.ownsRow B 9 1 (.slice ao' (xs.length + 1) cap') (xs.length + 1) (scells (xs ++ [id])) ∧ Below B0 w w' := by
  have hbox : Box (w.alloc (.cells #[.slice ao xs.length cap, .map (some bm)] 35)) w.heap.size (.slice ao xs.length cap) bm := Deep.blk_alloc_new _ _
  have hm1 := hm.alloc (.cells #[.slice ao xs.length cap, .map (some bm)] 35)
  have hown1 := hown.alloc (.cells #[.slice ao xs.length cap, .map (some bm)] 35)
  have hB0 : B0 ≤ w.heap.size := by omega
  go_enter Trym.func16, Trym.ntmps16
  go_wp2_with (go_at_call 19; refine (add_new B B0 _ bm ao cap xs id _ hbox hm1 hown1 hid hin hl h1 h2 hB0 (by simp; omega)).mono ?_; rintro e w' ⟨rfl, v', hb', hm', hown', hbel'⟩; obtain ⟨g, cap3, hv3⟩ := own_form hown'; subst hv3; have c0 := hb'.c0; have c1 := hb'.c1)
  go_quiet (fail)
  go_wp2
  go_ret2
  exact ⟨_, _, rfl, hm'.drewN _, own_block hown' (fun _ _ => rfl), below_drewN' (((Below.refl _ _).alloc hB0 _).trans hbel') _⟩

/-! ### The clone, as an owned row -/
def lst (S : Nat → ByteArray) (n : Nat) : List ByteArray := (List.range n).map S
theorem lst_length (S : Nat → ByteArray) (n : Nat) : (lst S n).length = n := by simp [lst]
theorem lst_cells (S : Nat → ByteArray) (n : Nat) : scells (lst S n) = strCells S n := by simp [lst, scells, strCells]
theorem lst_keys (S : Nat → ByteArray) (n : Nat) : keys (lst S n) = L S n := by simp [lst, keys, L, ByteArray.toList_eq]
theorem lst_succ (S : Nat → ByteArray) (n : Nat) : lst S (n + 1) = lst S n ++ [S n] := by simp [lst, List.range_succ]

theorem cloned_own (w : World) (S : Nat → ByteArray) (n : Nat) (hn : n ≤ 1048576) : (cloned w S n).ownsRow w.heap.size 9 1 (.slice (some ⟨w.heap.size, 0, none⟩) n n) n (strCells S n) := by
  refine ⟨by simp [strCells], .inr ⟨w.heap.size, n, (strCells S n).toArray, rfl, Nat.le_refl _, setRow_heap _ _ _ _ _ _ (Deep.blk_alloc_new _ _), Nat.le_refl _, by unfold maxLen; omega, by simp [strCells], ?_⟩⟩
  exact List.take_of_length_le (by simp [strCells])

set_option maxHeartbeats 400000 in
theorem cloneOwn_any (ao : Option Addr) (n cap : Nat) (S : Nat → ByteArray) (w : World) (h : Strs w ao n cap S) (hn : n ≤ 1048576) :
    Calls Trym.prog 10 #[.slice ao n cap] w fun e w' => ∃ ao' cap', e = .returned (.slice ao' n cap') ∧ w'.ownsRow w.heap.size 9 1 (.slice ao' n cap') n (scells (lst S n)) ∧ Below w.heap.size w w' := by
  rw [lst_cells]
  have hnil : ∀ (W : World) (a : Option Addr) (n c n' c' : Nat), (binOp .eql 22 (.slice a n c) (.slice none n' c')).run Trym.prog W = .ok (.bool a.isNone) W := fun W a n c n' c' => Lib.run_eql_slice_nil W _ _ a n c n' c' Trym.underlying22
  by_cases h0 : 0 < n
  · obtain ⟨b, off, rfl, hbw, hcell⟩ := h.2.2.2 h0
    have hmk := run_make_row' (P := Trym.prog) 22 9 (.string ByteArray.empty) 16 Trym.underlying22 Trym.info9 rfl .i64 .i64 n (by omega) (by omega)
    have hcp := run_clone w S n cap b off hbw hcell
    have HF : Hid ((cloned w S n).ownsRow w.heap.size 9 1 (.slice (some ⟨w.heap.size, 0, none⟩) n n) n (strCells S n) ∧ Below w.heap.size w (cloned w S n)) := ⟨cloned_own w S n hn, cloned_below w S n⟩
    clear h hcell
    go_enter Trym.func10, Trym.ntmps10
    go_wp2
    go_ret
    exact ⟨_, _, rfl, HF.out.1, HF.out.2⟩
  · obtain rfl : n = 0 := by omega
    clear h
    cases ao with
    | none =>
      go_enter Trym.func10, Trym.ntmps10
      go_wp2
      go_ret
      exact ⟨none, 0, rfl, World.ownsRow_nil _ _ _ _, Below.refl _ _⟩
    | some a =>
      have hmk : ∀ w : World, (Instr.makeSlice 22 (.int .i64 0) (.int .i64 0)).run Trym.prog w = .ok (.slice (some ⟨w.heap.size, 0, none⟩) 0 0) (w.alloc (.cells (madeCells #[.string ByteArray.empty] 0) 9)) := run_make_row' (P := Trym.prog) 22 9 (.string ByteArray.empty) 16 Trym.underlying22 Trym.info9 rfl .i64 .i64 0 (by omega) (by omega)
      have hcp := fun (W : World) (ty : TypeId) (d a : Option Addr) (c c' : Nat) => run_copy_none (P := Trym.prog) W 22 22 ty 9 d a 0 c 0 c' Trym.underlying22 Trym.size9 rfl
      go_enter Trym.func10, Trym.ntmps10
      go_wp2
      go_ret
      exact ⟨_, _, rfl, World.ownsRow_made _ _ _ (Nat.le_refl _) (Nat.zero_le _) (by rw [size_madeCells]), (Below.refl _ _).alloc (Nat.le_refl _) _⟩

/-- An owned row is a slice of strings. -/
def nth (xs : List ByteArray) (i : Nat) : ByteArray := xs.getD i ByteArray.empty
theorem own_strs {w : World} {B cap : Nat} {ao : Option Addr} {xs : List ByteArray} (h : w.ownsRow B 9 1 (.slice ao xs.length cap) xs.length (scells xs)) (hs : ∀ s ∈ xs, s.size ≤ maxLen) : Strs w ao xs.length cap (nth xs) := by
  rcases h.2 with ⟨hn, hx⟩ | ⟨g, c, cur, hv, _, hg, hle, hcm, _⟩
  · simp only [Value.slice.injEq] at hn
    obtain ⟨rfl, h1, rfl⟩ := hn
    exact ⟨by omega, Nat.zero_le _, fun i hi => absurd hi (by omega), fun h => absurd h (by omega)⟩
  · simp only [Value.slice.injEq, true_and] at hv
    obtain ⟨rfl, rfl⟩ := hv
    refine ⟨hle, hcm, fun i hi => ?_, fun _ => ⟨g, 0, rfl, (Array.getElem?_eq_some_iff.1 hg).1, fun i hi => ?_⟩⟩
    · refine hs _ ?_
      unfold nth
      rw [List.getD_eq_getElem?_getD, List.getElem?_eq_getElem hi]
      exact List.getElem_mem hi
    · have := World.ownsRow.cellAt h i (by omega)
      rw [Nat.zero_add, this]
      simp [scells, nth, hi]
theorem nth_L (xs : List ByteArray) : L (nth xs) xs.length = keys xs := by
  unfold L keys nth
  refine List.ext_getElem (by simp) fun i h1 h2 => ?_
  have hi : i < xs.length := by simpa using h1
  simp [hi, ByteArray.toList_eq]

end Go.Proofs.Qxb6601771aMods
