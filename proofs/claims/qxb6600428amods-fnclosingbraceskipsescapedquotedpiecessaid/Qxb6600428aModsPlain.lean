/-
  THE PLAIN MATHEMATICS OF THE SEAT b6600428aM: no Go in sight.
-/
namespace Go.Proofs.Qxb6600428aMods.Plain

/-- WHERE THE CLOSING BRACE IS: the bytes from place i on, the open quote q (0: none). -/
def cb : List UInt8 → Int → Nat → Int
  | [], _, _ => -1
  | c :: r, q, i =>
    if q ≠ 0 ∧ (c.toNat : Int) = 92 then
      match r with
      | [] => -1
      | _ :: r' => cb r' q (i + 2)
    else if q ≠ 0 ∧ (c.toNat : Int) = q then cb r 0 (i + 1)
    else if q ≠ 0 then cb r q (i + 1)
    else if (c.toNat : Int) = 39 ∨ (c.toNat : Int) = 34 then cb r (c.toNat : Int) (i + 1)
    else if (c.toNat : Int) = 125 then i
    else cb r 0 (i + 1)

theorem cb_nil (q : Int) (i : Nat) : cb [] q i = -1 := by simp [cb]

theorem cb_esc (c : UInt8) (r : List UInt8) (q : Int) (i : Nat) (hq : ¬ q = 0) (hc : (c.toNat : Int) = 92) : cb (c :: r) q i = cb (r.drop 1) q (i + 2) := by
  rw [cb.eq_def]
  simp only []
  rw [if_pos ⟨hq, hc⟩]
  cases r with
  | nil => simp [cb_nil]
  | cons d r' => simp

theorem cb_close (c : UInt8) (r : List UInt8) (q : Int) (i : Nat) (hq : ¬ q = 0) (h1 : ¬ (c.toNat : Int) = 92) (hc : (c.toNat : Int) = q) : cb (c :: r) q i = cb r 0 (i + 1) := by
  rw [cb.eq_def]
  simp only []
  rw [if_neg (fun h => h1 h.2), if_pos ⟨hq, hc⟩]

theorem cb_inq (c : UInt8) (r : List UInt8) (q : Int) (i : Nat) (hq : ¬ q = 0) (h1 : ¬ (c.toNat : Int) = 92) (hc : ¬ (c.toNat : Int) = q) : cb (c :: r) q i = cb r q (i + 1) := by
  rw [cb.eq_def]
  simp only []
  rw [if_neg (fun h => h1 h.2), if_neg (fun h => hc h.2), if_pos hq]

theorem cb_open (c : UInt8) (r : List UInt8) (i : Nat) (hc : (c.toNat : Int) = 39 ∨ (c.toNat : Int) = 34) : cb (c :: r) 0 i = cb r (c.toNat : Int) (i + 1) := by
  rw [cb.eq_def]
  simp only []
  rw [if_neg (fun h => h.1 rfl), if_neg (fun h => h.1 rfl), if_neg (fun h => h rfl), if_pos hc]

theorem cb_brace (c : UInt8) (r : List UInt8) (i : Nat) (hc : (c.toNat : Int) = 125) : cb (c :: r) 0 i = i := by
  rw [cb.eq_def]
  simp only []
  rw [if_neg (fun h => h.1 rfl), if_neg (fun h => h.1 rfl), if_neg (fun h => h rfl), if_neg (by omega), if_pos hc]

theorem cb_plain (c : UInt8) (r : List UInt8) (i : Nat) (h1 : ¬ (c.toNat : Int) = 39) (h2 : ¬ (c.toNat : Int) = 34) (h3 : ¬ (c.toNat : Int) = 125) : cb (c :: r) 0 i = cb r 0 (i + 1) := by
  rw [cb.eq_def]
  simp only []
  rw [if_neg (fun h => h.1 rfl), if_neg (fun h => h.1 rfl), if_neg (fun h => h rfl), if_neg (by omega), if_neg h3]

/-- The scan from place k of the bytes l. -/
def scan (l : List UInt8) (q : Int) (k : Nat) : Int := cb (l.drop k) q k

theorem drop_at (l : List UInt8) (k : Nat) (h : k < l.length) : l.drop k = l[k] :: l.drop (k + 1) := by
  rw [List.drop_eq_getElem_cons h]

theorem scan_end (l : List UInt8) (q : Int) (k : Nat) (h : l.length ≤ k) : scan l q k = -1 := by
  unfold scan; rw [List.drop_eq_nil_of_le h, cb_nil]

theorem scan_esc (l : List UInt8) (q : Int) (k : Nat) (h : k < l.length) (hq : ¬ q = 0) (hc : ((l[k]).toNat : Int) = 92) : scan l q k = scan l q (k + 2) := by
  unfold scan; rw [drop_at l k h, cb_esc _ _ _ _ hq hc, List.drop_drop]

theorem scan_close (l : List UInt8) (q : Int) (k : Nat) (h : k < l.length) (hq : ¬ q = 0) (h1 : ¬ ((l[k]).toNat : Int) = 92) (hc : ((l[k]).toNat : Int) = q) : scan l q k = scan l 0 (k + 1) := by
  unfold scan; rw [drop_at l k h, cb_close _ _ _ _ hq h1 hc]

theorem scan_inq (l : List UInt8) (q : Int) (k : Nat) (h : k < l.length) (hq : ¬ q = 0) (h1 : ¬ ((l[k]).toNat : Int) = 92) (hc : ¬ ((l[k]).toNat : Int) = q) : scan l q k = scan l q (k + 1) := by
  unfold scan; rw [drop_at l k h, cb_inq _ _ _ _ hq h1 hc]

theorem scan_open (l : List UInt8) (k : Nat) (h : k < l.length) (hc : ((l[k]).toNat : Int) = 39 ∨ ((l[k]).toNat : Int) = 34) : scan l 0 k = scan l ((l[k]).toNat : Int) (k + 1) := by
  unfold scan; rw [drop_at l k h, cb_open _ _ _ hc]

theorem scan_brace (l : List UInt8) (k : Nat) (h : k < l.length) (hc : ((l[k]).toNat : Int) = 125) : scan l 0 k = k := by
  unfold scan; rw [drop_at l k h, cb_brace _ _ _ hc]

theorem scan_plain (l : List UInt8) (k : Nat) (h : k < l.length) (h1 : ¬ ((l[k]).toNat : Int) = 39) (h2 : ¬ ((l[k]).toNat : Int) = 34) (h3 : ¬ ((l[k]).toNat : Int) = 125) : scan l 0 k = scan l 0 (k + 1) := by
  unfold scan; rw [drop_at l k h, cb_plain _ _ _ h1 h2 h3]

/-! ### What was built: text that the scan passes over. -/
/-- The scan, at quote q, passes over l and stands at quote q again. -/
def Passes (q : Int) (l : List UInt8) : Prop := ∀ r i, cb (l ++ r) q i = cb r q (i + l.length)

theorem passes_nil (q : Int) : Passes q [] := fun r i => by simp

theorem passes_append {q : Int} {l m : List UInt8} (hl : Passes q l) (hm : Passes q m) : Passes q (l ++ m) := fun r i => by
  rw [List.append_assoc, hl, hm, List.length_append, Nat.add_assoc]

theorem passes_plain (c : UInt8) (h1 : ¬ (c.toNat : Int) = 39) (h2 : ¬ (c.toNat : Int) = 34) (h3 : ¬ (c.toNat : Int) = 125) : Passes 0 [c] := fun r i => by
  simp only [List.singleton_append, List.length_cons, List.length_nil]
  exact cb_plain c r i h1 h2 h3

theorem passes_inq (q : Int) (c : UInt8) (hq : ¬ q = 0) (h1 : ¬ (c.toNat : Int) = 92) (h2 : ¬ (c.toNat : Int) = q) : Passes q [c] := fun r i => by
  simp only [List.singleton_append, List.length_cons, List.length_nil]
  exact cb_inq c r q i hq h1 h2

theorem passes_esc (q : Int) (c : UInt8) (hq : ¬ q = 0) : Passes q [92, c] := fun r i => by
  simp only [List.cons_append, List.nil_append, List.length_cons, List.length_nil]
  rw [cb_esc 92 (c :: r) q i hq (by decide)]
  simp

/-- A whole quoted piece is passed over. -/
theorem passes_quoted (q : UInt8) (m : List UInt8) (hq : (q.toNat : Int) = 39 ∨ (q.toNat : Int) = 34) (hm : Passes (q.toNat : Int) m) : Passes 0 (q :: (m ++ [q])) := fun r i => by
  simp only [List.cons_append, List.append_assoc, List.nil_append]
  rw [cb_open q _ i hq, hm, cb_close q r _ _ (by omega) (by omega) rfl]
  congr 1
  simp
  omega

/-- THE BRACE WRITTEN BEHIND THE PIECES IS THE ONE THAT IS FOUND. -/
theorem found (o : UInt8) (l t : List UInt8) (h : Passes 0 l) : scan (o :: (l ++ 125 :: t)) 0 1 = ((o :: l).length : Int) := by
  unfold scan
  rw [List.drop_one, List.tail_cons, h, cb_brace 125 t _ (by decide)]
  simp
  omega

/-! ### Templates: versions as lists of bytes. -/
abbrev Bs := List UInt8

/-- The first place, from i on, at which 'want' stands; -1: none. -/
def fi (want : Bs) : List Bs → Nat → Int
  | [], _ => -1
  | x :: r, i => if x = want then i else fi want r (i + 1)

/-- 'templateFor': 'f': the wildcard's place so far. -/
def tf (v : Bs) : List Bs → Int → Nat → Int
  | [], f, _ => f
  | x :: r, f, i => if x = v then i else if x = [42] ∧ f < 0 then tf v r i (i + 1) else tf v r f (i + 1)

theorem fi_ge (want : Bs) (l : List Bs) (i : Nat) : fi want l i = -1 ∨ (i : Int) ≤ fi want l i := by
  induction l generalizing i with
  | nil => exact .inl rfl
  | cons x r ih =>
    unfold fi
    split
    · exact .inr (Int.le_refl _)
    · rcases ih (i + 1) with h | h
      · exact .inl h
      · exact .inr (by omega)

theorem fi_shift (want : Bs) (l : List Bs) (i : Nat) : fi want l (i + 1) = if fi want l i < 0 then -1 else fi want l i + 1 := by
  induction l generalizing i with
  | nil => simp [fi]
  | cons x r ih =>
    unfold fi
    by_cases h : x = want
    · rw [if_pos h, if_pos h, if_neg (by omega)]; omega
    · rw [if_neg h, if_neg h]; exact ih (i + 1)

theorem tf_eq (v : Bs) (l : List Bs) (f : Int) (i : Nat) (hf : f = -1 ∨ 0 ≤ f) :
    tf v l f i = if 0 ≤ fi v l i then fi v l i else if 0 ≤ f then f else fi [42] l i := by
  induction l generalizing f i with
  | nil => unfold tf fi; rcases hf with rfl | h <;> simp; omega
  | cons x r ih =>
    unfold tf fi
    by_cases h : x = v
    · rw [if_pos h, if_pos h, if_pos (by omega)]
    · rw [if_neg h, if_neg h]
      by_cases h2 : x = [42]
      · by_cases h3 : f < 0
        · rw [if_pos ⟨h2, h3⟩, ih _ _ (.inr (by omega)), if_pos h2]
          by_cases h4 : 0 ≤ fi v r (i + 1)
          · rw [if_pos h4, if_pos h4]
          · rw [if_neg h4, if_neg h4, if_pos (by omega), if_neg (by omega)]
        · rw [if_neg (fun h => h3 h.2), ih _ _ hf]
          by_cases h4 : 0 ≤ fi v r (i + 1)
          · rw [if_pos h4, if_pos h4]
          · rw [if_neg h4, if_neg h4, if_pos (by omega), if_pos (by omega)]
      · rw [if_neg (fun h => h2 h.1), ih _ _ hf, if_neg h2]

/-- The model: the version's own place, else the wildcard's. -/
def tm (v : Bs) (l : List Bs) : Int := if 0 ≤ fi v l 0 then fi v l 0 else fi [42] l 0

theorem tf_tm (v : Bs) (l : List Bs) : tf v l (-1) 0 = tm v l := by
  rw [tf_eq v l (-1) 0 (.inl rfl)]; unfold tm
  by_cases h : 0 ≤ fi v l 0
  · rw [if_pos h, if_pos h]
  · rw [if_neg h, if_neg h, if_neg (by omega)]

theorem tm_bounds (v : Bs) (l : List Bs) : tm v l = -1 ∨ 0 ≤ tm v l := by
  unfold tm
  split
  · exact .inr (by assumption)
  · have := fi_ge [42] l 0; omega

theorem fi_other (want o : Bs) (l : List Bs) (h : ¬ o = want) : fi want (o :: l) 0 = if fi want l 0 < 0 then -1 else fi want l 0 + 1 := by
  show (if o = want then ((0 : Nat) : Int) else fi want l (0 + 1)) = _
  rw [if_neg h]; exact fi_shift want l 0

theorem tf_shift (v o : Bs) (l : List Bs) (h1 : ¬ o = v) (h2 : ¬ o = [42]) : tf v (o :: l) (-1) 0 = if tf v l (-1) 0 < 0 then -1 else tf v l (-1) 0 + 1 := by
  rw [tf_tm, tf_tm]
  unfold tm
  rw [fi_other v o l h1, fi_other [42] o l h2]
  have a := fi_ge v l 0
  have b := fi_ge [42] l 0
  by_cases c : 0 ≤ fi v l 0
  · have d : ¬ fi v l 0 < 0 := by omega
    have g : 0 ≤ fi v l 0 + 1 := by omega
    simp only [if_neg d, if_pos c, if_pos g]
  · have d : fi v l 0 < 0 := by omega
    have g : ¬ (0 : Int) ≤ -1 := by omega
    simp only [if_pos d, if_neg c, if_neg g]

/-! The steps of the two loops, by the place k. -/
def fiAt (want : Bs) (l : List Bs) (k : Nat) : Int := fi want (l.drop k) k
def tfAt (v : Bs) (l : List Bs) (f : Int) (k : Nat) : Int := tf v (l.drop k) f k

theorem fiAt_end (want : Bs) (l : List Bs) (k : Nat) (h : l.length ≤ k) : fiAt want l k = -1 := by
  unfold fiAt; rw [List.drop_eq_nil_of_le h]; rfl
theorem fiAt_hit (want : Bs) (l : List Bs) (k : Nat) (h : k < l.length) (he : l[k] = want) : fiAt want l k = k := by
  unfold fiAt; rw [List.drop_eq_getElem_cons h]; unfold fi; rw [if_pos he]
theorem fiAt_miss (want : Bs) (l : List Bs) (k : Nat) (h : k < l.length) (he : ¬ l[k] = want) : fiAt want l k = fiAt want l (k + 1) := by
  unfold fiAt; rw [List.drop_eq_getElem_cons h, fi, if_neg he]
theorem tfAt_end (v : Bs) (l : List Bs) (f : Int) (k : Nat) (h : l.length ≤ k) : tfAt v l f k = f := by
  unfold tfAt; rw [List.drop_eq_nil_of_le h]; rfl
theorem tfAt_hit (v : Bs) (l : List Bs) (f : Int) (k : Nat) (h : k < l.length) (he : l[k] = v) : tfAt v l f k = k := by
  unfold tfAt; rw [List.drop_eq_getElem_cons h]; unfold tf; rw [if_pos he]
theorem tfAt_star (v : Bs) (l : List Bs) (f : Int) (k : Nat) (h : k < l.length) (he : ¬ l[k] = v) (hs : l[k] = [42]) (hf : f < 0) : tfAt v l f k = tfAt v l k (k + 1) := by
  unfold tfAt; rw [List.drop_eq_getElem_cons h, tf, if_neg he, if_pos ⟨hs, hf⟩]
theorem tfAt_miss (v : Bs) (l : List Bs) (f : Int) (k : Nat) (h : k < l.length) (he : ¬ l[k] = v) (hs : ¬ (l[k] = [42] ∧ f < 0)) : tfAt v l f k = tfAt v l f (k + 1) := by
  unfold tfAt; rw [List.drop_eq_getElem_cons h, tf, if_neg he, if_neg hs]
theorem fiAt_zero (want : Bs) (l : List Bs) : fiAt want l 0 = fi want l 0 := rfl
theorem tfAt_zero (v : Bs) (l : List Bs) : tfAt v l (-1) 0 = tf v l (-1) 0 := rfl

end Go.Proofs.Qxb6600428aMods.Plain
