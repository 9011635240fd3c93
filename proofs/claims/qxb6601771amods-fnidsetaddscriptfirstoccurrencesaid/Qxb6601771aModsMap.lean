/-
  A map[string]bool OF THE CALL'S OWN: its keys, all true. The laws at the operations.
-/
import Derived.Test.Qxb6601771aModsPrev
import Derived.Maps.OwnSet
import Derived.Maps.OwnOps
namespace Go.Proofs.Qxb6601771aMods
open Go.RowKit Plain
open Go.Maps (Keyed string_keyed)

theorem law : Keyed Trym.prog 9 := string_keyed Trym.underlying9
theorem zero4 (w : World) : (zeroValue 4).run Trym.prog w = .ok (.bool false) w := by kernel_rfl

theorem plainElem_bool_inv {H : Type} {v : Value} {z : DataW H × List MemPlace} (h : plainElem Trym.prog 4 v = some z) : ∃ c, v = .bool c ∧ z = (.lit (.bool c), []) := by
  unfold plainElem at h
  rw [Trym.underlying4] at h
  split at h
  · exact ⟨_, rfl, (Option.some.inj h).symm⟩
  · rename_i he; cases he
  · rename_i he; cases he
  · cases h

theorem lookup_bool {H : Type} {w : World} {b n : Nat} {D : DataW H} (h : w.ownsMap Trym.prog 9 (plainElem Trym.prog 4) b n D) (s : ByteArray) (hs : s.size ≤ maxLen) :
    ∃ c, (Instr.lookup 28 (.map (some b)) (.string s) false).run Trym.prog w = .ok (.bool c) w ∧ D.atKey (.string s.data.toList) (.lit (.bool false)) = .lit (.bool c) := by
  obtain ⟨v, ps, hrun, hv⟩ := h.lookup law Trym.underlying28 (zero4 w) (plainElem_bool Trym.underlying4 false) (Go.WideMaps.keyOf_string_mk Trym.underlying9 hs)
  obtain ⟨c, rfl, hc⟩ := plainElem_bool_inv hv
  simp only [Prod.mk.injEq] at hc
  exact ⟨c, hrun, hc.1⟩

/-- THE MAP IN BLOCK b HOLDS JUST THE KEYS ks, all true. -/
def Mp (w : World) (b : Nat) (ks : List Bs) : Prop :=
  ∃ (n : Nat) (D : DataW Unit), n ≤ ks.length ∧ w.ownsMap Trym.prog 9 (plainElem Trym.prog 4) b n D ∧ (∀ k z, D.atKey (.string k) z = if k ∈ ks then .lit (.bool true) else z) ∧ (∀ k, Maps.has D (.string k) = decide (k ∈ ks)) ∧ Maps.size D = ks.length

theorem ownsMap_block {H : Type} {w w' : World} {b n : Nat} {D : DataW H} (h : w.ownsMap Trym.prog 9 (plainElem Trym.prog 4) b n D) (e : w'.heap[b]? = w.heap[b]?) : w'.ownsMap Trym.prog 9 (plainElem Trym.prog 4) b n D := by
  obtain ⟨es, clock, hb, F⟩ := h
  exact ⟨es, clock, e.trans hb, F⟩

theorem Mp.block {w w' : World} {b : Nat} {ks : List Bs} (h : Mp w b ks) (e : w'.heap[b]? = w.heap[b]?) : Mp w' b ks := by
  obtain ⟨n, D, h1, h2, h3⟩ := h
  exact ⟨n, D, h1, ownsMap_block h2 e, h3⟩

theorem Mp.lt {w : World} {b : Nat} {ks : List Bs} (h : Mp w b ks) : b < w.heap.size := by
  obtain ⟨n, D, h1, h2, h3⟩ := h
  exact h2.lt

theorem Mp.below {w w' : World} {b B : Nat} {ks : List Bs} (h : Mp w b ks) (hb : Below B w w') (hB : b < B) : Mp w' b ks := h.block (hb.block b hB)

theorem Mp.drewN {w : World} {b : Nat} {ks : List Bs} (h : Mp w b ks) (q : Nat) : Mp (w.drewN q) b ks := h.block rfl

theorem Mp.alloc {w : World} {b : Nat} {ks : List Bs} (h : Mp w b ks) (o : Obj) : Mp (w.alloc o) b ks := h.block (Below.heap_alloc _ _ _ h.lt)

theorem Mp.made (w : World) : Mp (w.alloc (.map #[] 0)) w.heap.size [] :=
  ⟨0, .map [], Nat.le_refl _, World.ownsMap_made _ _ _ _, fun k z => by simp [DataW.atKey], fun k => by simp [Maps.has], rfl⟩

theorem Mp.look {w : World} {b : Nat} {ks : List Bs} (h : Mp w b ks) (s : ByteArray) (hs : s.size ≤ maxLen) :
    (Instr.lookup 28 (.map (some b)) (.string s) false).run Trym.prog w = .ok (.bool (decide (s.data.toList ∈ ks))) w := by
  obtain ⟨n, D, h1, h2, h3, h4, h5⟩ := h
  obtain ⟨c, hrun, hat⟩ := lookup_bool h2 s hs
  rw [hrun]
  rw [h3] at hat
  by_cases hk : s.data.toList ∈ ks
  · rw [if_pos hk] at hat
    cases hat
    rw [decide_eq_true hk]
  · rw [if_neg hk] at hat
    cases hat
    rw [decide_eq_false hk]

theorem Mp.len {w : World} {b : Nat} {ks : List Bs} (h : Mp w b ks) (ty : TypeId) : (Builtin.len_ #[28] ty #[.map (some b)]).run Trym.prog w = .ok (.int .i64 (ks.length : Nat)) w := by
  obtain ⟨n, D, h1, h2, h3, h4, h5⟩ := h
  rw [h2.len Trym.underlying28 ty, h5]

theorem mp_put {w' : World} {b n : Nat} {ks : List Bs} {D : DataW Unit} (k0 : Bs) (hk : ¬ k0 ∈ ks) (h1 : n ≤ ks.length) (ht : Maps.Tidy D) (hi : Maps.IsMap D) (h3 : ∀ k z, D.atKey (.string k) z = if k ∈ ks then .lit (.bool true) else z)
    (h4 : ∀ k, Maps.has D (.string k) = decide (k ∈ ks)) (h5 : Maps.size D = ks.length) (h : w'.ownsMap Trym.prog 9 (plainElem Trym.prog 4) b (n + 1) (D.put (.string k0) (.lit (.bool true)))) : Mp w' b (ks ++ [k0]) := by
  have hl : WideAt.IsKeyLit (.string k0) := by simp [WideAt.IsKeyLit]
  refine ⟨n + 1, _, by simp; omega, h, fun k z => ?_, fun k => ?_, ?_⟩
  · by_cases e : k = k0
    · subst e
      rw [Maps.atKey_put_same hi hl, if_pos (by simp)]
    · rw [Maps.atKey_put_other (by simpa using e), h3]
      simp [e]
  · by_cases e : k = k0
    · subst e
      rw [Maps.has_put_same hi hl]
      simp
    · rw [Maps.has_put_other (by simpa using e), h4]
      simp [e]
  · rw [Maps.size_put ht, h4, decide_eq_false hk, h5]
    simp

section
variable {ops : Array Oper} {rest : List Oper} {o : Oper} {a : Act} {Q : Exit → Act → World → Prop}

/-- 'm[k]', whichever bool: for a map that came in. -/
theorem wpList_look_any {H : Type} (w : World) (hg : o.guard = none) (m x : Operand) (hop : o.op = Op.lookup 28 m x false) (b n : Nat) (D : DataW H) (hm : a.eval m = .map (some b)) (hown : w.ownsMap Trym.prog 9 (plainElem Trym.prog 4) b n D)
    (s : ByteArray) (hx : a.eval x = .string s) (hs : s.size ≤ maxLen) (hK : ∀ c : Bool, wpList Trym.prog ops Q rest (a.put o.dst (.bool c)) w) : wpList Trym.prog ops Q (o :: rest) a w := by
  refine wpList_plain hg fun K' hK' => ?_
  obtain ⟨c, hrun, _⟩ := lookup_bool hown s hs
  unfold Oper.wp
  simp [execOp, hop, hm, hx, hrun, Result.andThen]
  exact hK' _ _ (hK c)

theorem wpList_look_yes (w : World) (hg : o.guard = none) (m x : Operand) (hop : o.op = Op.lookup 28 m x false) (b : Nat) (ks : List Bs) (hm : a.eval m = .map (some b)) (h : Mp w b ks)
    (s : ByteArray) (hx : a.eval x = .string s) (hs : s.size ≤ maxLen) (hin : s.data.toList ∈ ks) (hK : wpList Trym.prog ops Q rest (a.put o.dst (.bool true)) w) : wpList Trym.prog ops Q (o :: rest) a w := by
  refine wpList_plain hg fun K' hK' => ?_
  have hrun := h.look s hs
  rw [decide_eq_true hin] at hrun
  unfold Oper.wp
  simp [execOp, hop, hm, hx, hrun, Result.andThen]
  exact hK' _ _ hK

theorem wpList_look_no (w : World) (hg : o.guard = none) (m x : Operand) (hop : o.op = Op.lookup 28 m x false) (b : Nat) (ks : List Bs) (hm : a.eval m = .map (some b)) (h : Mp w b ks)
    (s : ByteArray) (hx : a.eval x = .string s) (hs : s.size ≤ maxLen) (hin : ¬ s.data.toList ∈ ks) (hK : wpList Trym.prog ops Q rest (a.put o.dst (.bool false)) w) : wpList Trym.prog ops Q (o :: rest) a w := by
  refine wpList_plain hg fun K' hK' => ?_
  have hrun := h.look s hs
  rw [decide_eq_false hin] at hrun
  unfold Oper.wp
  simp [execOp, hop, hm, hx, hrun, Result.andThen]
  exact hK' _ _ hK

/-- 'm[k] = true', k new. -/
theorem wpList_put_true (w : World) (hg : o.guard = none) (m x v : Operand) (hop : o.op = Op.mapUpdate 28 m x v) (b : Nat) (ks : List Bs) (hm : a.eval m = .map (some b)) (h : Mp w b ks) (hn : ks.length < maxLen)
    (s : ByteArray) (hx : a.eval x = .string s) (hv : a.eval v = .bool true) (hs : s.size ≤ maxLen) (hin : ¬ s.data.toList ∈ ks)
    (hK : ∀ w', Mp w' b (ks ++ [s.data.toList]) → w.grownBy w' (some b) → wpList Trym.prog ops Q rest (a.put o.dst undef) w') : wpList Trym.prog ops Q (o :: rest) a w := by
  obtain ⟨n, D, h1, h2, h3, h4, h5⟩ := h
  exact wpList_mapUpdate_own w hg m x v 28 hop 9 4 law Trym.underlying28 _ b n D hm h2 (by omega) _ _ _ hx hv (Go.WideMaps.keyOf_string_mk Trym.underlying9 hs) _ [] (plainElem_bool Trym.underlying4 true)
    fun w' g1 g2 => hK w' (mp_put _ hin h1 (h2.tidy law) h2.isMap h3 h4 h5 g1) g2

/-- 'len(m)'. -/
theorem wpList_mp_len (w : World) (hg : o.guard = none) (m : Operand) (hop : o.op = Op.call { callee := Callee.builtin Builtin.len, args := #[m], argTypes := #[28] }) (b : Nat) (ks : List Bs) (hm : a.eval m = .map (some b)) (h : Mp w b ks)
    (hK : wpList Trym.prog ops Q rest (a.put o.dst (.int .i64 (ks.length : Nat))) w) : wpList Trym.prog ops Q (o :: rest) a w := by
  refine wpList_plain hg fun K' hK' => ?_
  unfold Oper.wp
  simp [execOp, hop, resolve, invoke, builtin, hm, h.len o.type, Result.andThen]
  exact hK' _ _ hK
end

end Go.Proofs.Qxb6601771aMods
