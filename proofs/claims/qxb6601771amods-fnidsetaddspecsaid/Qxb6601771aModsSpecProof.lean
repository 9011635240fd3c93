/-
  'Rows.FnIdSetAddSpecSaid', proved.
-/
import Derived.Test.Qxb6601771aModsFrame
import Derived.Test.Qxb6601771aModsSpecWalk
import Derived.SizedLaws
namespace Go.Proofs.Qxb6601771aMods.SpecRow
open Go.ChangeShapes Go.WideShapes Go.ChangeAt Go.RowKit Go.WideElems
open Go.ChangeMaps (open_string shut_string)
open RowStep

theorem weightsAll_mem {H : Type} {P : Program} {e : TypeId} {n : Nat} {d : DataW H} : ∀ {l : List (DataW H)}, d ∈ l → n ∈ d.weights P e → n ∈ DataW.weightsAll P e l
  | x :: r, hm, hn => by
    rw [DataW.weightsAll]
    rcases List.mem_cons.1 hm with rfl | hm
    · exact List.mem_append_left _ hn
    · exact List.mem_append_right _ (weightsAll_mem hm hn)

/-- What came in as a slice of strings is one; each string's length is among the datum's weights. -/
theorem strs_of_sized {H : Type} {enc : TypeId × Value → H} {W : World} {a : Option Addr} {len cap : Nat} {d : DataW H} {p : List MemPlace}
    (h : DataW.Trod enc Trym.prog W 0 (fun _ => true) true 22 (.slice a len cap) d p) : ∃ S, Strs W a len cap S ∧ ∀ i, i < len → (S i).size ∈ d.weights Trym.prog 22 := by
  obtain ⟨fuel, hf⟩ := h
  rcases Deep.open_strs Trym.underlying22 Trym.underlying9 cells9 hf with ⟨hcs, _⟩ | ⟨x, l, c, m, S, hcs, _, hl, hm, hmm, hx, hcell⟩
  · simp [Value.cells] at hcs
    obtain ⟨rfl, rfl, rfl⟩ := hcs
    exact ⟨fun _ => ByteArray.empty, ⟨Nat.le_refl _, Nat.zero_le _, fun i hi => absurd hi (by omega), fun h => absurd h (by omega)⟩, fun i hi => absurd hi (by omega)⟩
  · simp [Value.cells] at hcs
    obtain ⟨rfl, rfl, rfl⟩ := hcs
    simp only [if_true] at hmm
    subst hmm
    simp only [Prod.mk.injEq] at hx
    obtain ⟨rfl, rfl⟩ := hx
    refine ⟨S, ⟨hl, hm, fun i hi => (hcell i (by omega)).2, fun hn => ?_⟩, fun i hi => ?_⟩
    · obtain ⟨b, off, spot⟩ := x
      have hc0 := (hcell 0 (by omega)).1
      have hspot : spot = none := by simpa [Addr.add] using World.cell?_spot hc0
      subst hspot
      refine ⟨b, off, rfl, ?_, fun i hi => ?_⟩
      · rw [add_plain] at hc0
        exact lt_of_cell hc0
      · have := (hcell i (by omega)).1
        rwa [add_plain] at this
    · rw [DataW.weights, Trym.underlying22]
      refine List.mem_cons_of_mem _ (List.mem_append_left _ (weightsAll_mem (d := .lit (.string (S i).data.toList)) (List.mem_map.2 ⟨i, List.mem_range.2 hi, rfl⟩) ?_))
      rw [DataW.weights]
      simp

/-- What came in as a map is nil or one that can be looked into. -/
theorem map_of {H : Type} {enc : TypeId × Value → H} {W : World} {mo : Option Nat} {d : DataW H} {p : List MemPlace}
    (h : DataW.Trod enc Trym.prog W 0 (fun _ => true) true 28 (.map mo) d p) : mo = none ∨ ∃ b n, ∃ D : DataW H, mo = some b ∧ W.ownsMap Trym.prog 9 (plainElem Trym.prog 4) b n D := by
  obtain ⟨fuel, hf⟩ := h
  rcases open_map Trym.underlying28 hf with ⟨hcs, _⟩ | ⟨bm, es, clock, m, rfl, hcs, hb, _, F, _⟩
  · left
    simpa [Value.cells] using hcs
  · right
    simp [Value.cells] at hcs
    subst hcs
    exact ⟨bm, _, _, rfl, World.ownsMap_of_fit (R := plainElem Trym.prog 4) hb F (fun x _ z hz => by
      obtain ⟨c, hv, rfl⟩ := elemAt_bool Trym.underlying4 hz
      rw [hv]
      exact plainElem_bool Trym.underlying4 c)⟩

set_option maxRecDepth 100000 in
theorem lifted (os : Os) (started : os.Started) (H : Type) (enc : TypeId × Value → H) :
    ReturnsInHanded {} Trym.checked os 6 .any (Rows.fnIdSetAddSpecSpec.pre6 enc Trym.prog Trym.f6 Rows.fnIdSetAddSpecRow.domain false) (Rows.fnIdSetAddSpecSpec.post enc Trym.prog Trym.f6 false true false false) := by
  refine returnsInHanded_of_change_sized (C := Trym.checked) own started (by kernel_rfl) Trym.func6
    (ChangeSpec.witness6 (enc := enc) (C := Trym.checked) false ⟨#[], #[.slice none 0 0, .map none, .string ByteArray.empty], []⟩ 8 (by kernel_rfl) (by kernel_rfl) (by kernel_rfl) (by kernel_rfl)) ?_
  intro W base args ds gs before hval0 hW hcnd hsz0 _
  have hsz : (DataW.weightsEach Trym.prog (Trym.f6.params.toList ++ Rows.fnIdSetAddSpecSpec.plain.varTypes Trym.prog) (ds ++ gs)).all (· ≤ reachBytes) = true := hsz0
  have hval : ∀ (j : Nat) t v, Trym.f6.params[j]? = some t → args[j]? = some v → Value.okWide Trym.prog W .any base t v := hval0
  have hW' := hW
  obtain ⟨p, q, hA0, hV, rfl, hfz, hnd⟩ := hW
  have hA : DataW.TrodAll enc Trym.prog W 0 (fun _ => true) true Trym.f6.params.toList args.toList ds p := hA0
  rw [Trym.params6] at hA hval hsz
  obtain ⟨v0, vs0, d0, ds0, p0, q0, hargs, rfl, rfl, h0, r0⟩ := trodAll_cons hA
  obtain ⟨v1, vs1, d1, ds1, p1, q1, rfl, rfl, rfl, h1, r1⟩ := trodAll_cons r0
  obtain ⟨v2, vs2, d2, ds2, p2, q2, rfl, rfl, rfl, h2, r2⟩ := trodAll_cons r1
  obtain ⟨rfl, rfl, rfl⟩ := trodAll_nil r2
  obtain rfl : args = #[v0, v1, v2] := by cases args; simp_all
  obtain ⟨rfl, rfl⟩ := trodVars_none hV
  obtain ⟨a0, len0, cap0, rfl⟩ := okWide_slice Trym.underlying22 (hval 0 22 v0 rfl rfl)
  obtain ⟨mo, rfl⟩ := okWide_map Trym.underlying28 (hval 1 28 v1 rfl rfl)
  have k0 := h0
  have k1 := h1
  have lt0 : ∀ x ∈ p0, x.block < W.heap.size := by obtain ⟨m, hm⟩ := k0; exact DataW.trod_lt m _ _ _ hm
  have lt1 : ∀ x ∈ p1, x.block < W.heap.size := by obtain ⟨m, hm⟩ := k1; exact DataW.trod_lt m _ _ _ hm
  obtain ⟨S, w0, hw⟩ := strs_of_sized h0
  have hS : ∀ i, i < len0 → (S i).size ≤ 140737488355328 := fun i hi => by
    have h3 := List.all_eq_true.1 hsz _ (DataW.weights_mem_each (j := 0) (t := 22) rfl rfl _ (hw i hi))
    have h4 : (S i).size ≤ reachBytes := by simpa using h3
    have h5 := reachBytes_lt
    omega
  obtain ⟨a2, rfl, rfl, rfl, w2⟩ := open_string Trym.underlying9 (hval 2 9 v2 rfl rfl) h2
  have walk : Calls Trym.prog 6 #[.slice a0 len0 cap0, .map mo, .string a2] W fun e w' => e = .returned (.bool true) ∧ Below W.heap.size W w' := by
    rcases map_of h1 with rfl | ⟨b, n, D, rfl, hown⟩
    · exact spec_none a0 len0 cap0 S a2 W w0 hS w2
    · exact spec_some a0 len0 cap0 S b n D a2 W w0 hS w2 hown
  clear hA0 hval0
  refine walk.mono fun e W' ⟨he, bel⟩ => ?_
  subst he
  exact ⟨_, rfl, _, _, _, [], _, [], hW', trodAll_mk1 (shut_bool Trym.underlying4 _), (trodAll_cons_mk (Below.trod laidOut (by kernel_rfl) (of_decide_eq_true (by kernel_rfl)) k0 bel lt0) (trodAll_cons_mk (Below.trod laidOut (by kernel_rfl) (of_decide_eq_true (by kernel_rfl)) k1 bel lt1) (trodAll_cons_mk (shut_string Trym.underlying9 w2) trodAll_mk0))), rfl, bel.frame _, fun h => by cases h⟩

theorem over : Rows.fnIdSetAddSpecRow.holds Trym.pinned (OpenSpec.ofChange Rows.fnIdSetAddSpecSpec) :=
  OpenClaim.holds_of_wide 6 Trym.f6 rfl rfl rfl rfl rfl rfl rfl ⟨rfl, rfl, rfl, rfl, rfl⟩ rfl rfl rfl rfl rfl (by kernel_rfl) Trym.func6 (by kernel_rfl)
    (of_decide_eq_true (by kernel_rfl)) (by unfold Func.isWrapper; first | (rw [if_pos (by decide +kernel)]; kernel_rfl) | (rw [if_neg (by decide +kernel)]; exact ⟨rfl, rfl⟩))
    (fun os started H enc _ => lifted os started H enc)

/-- THE STATEMENT. -/
theorem proved : Rows.FnIdSetAddSpecSaid := over
#print axioms proved
end Go.Proofs.Qxb6601771aMods.SpecRow
