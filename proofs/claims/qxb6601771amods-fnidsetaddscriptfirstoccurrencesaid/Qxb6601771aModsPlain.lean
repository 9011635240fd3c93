/-
  THE PLAIN MATHEMATICS OF THE SEAT b6601771aM: no Go in sight.
-/
import GoSem.Op.String
namespace Go.Proofs.Qxb6601771aMods.Plain

abbrev Bs := List UInt8

/-- Byte by byte: -1, 0 or 1. -/
def cmp : Bs → Bs → Int
  | [], [] => 0
  | [], _ :: _ => -1
  | _ :: _, [] => 1
  | a :: x, b :: y => if (a.toNat : Int) = b.toNat then cmp x y else if (a.toNat : Int) < b.toNat then -1 else 1

theorem cmp_cases (x y : Bs) : cmp x y = -1 ∨ cmp x y = 0 ∨ cmp x y = 1 := by
  induction x generalizing y with
  | nil => cases y <;> simp [cmp]
  | cons a x ih =>
    cases y with
    | nil => simp [cmp]
    | cons b y =>
      unfold cmp
      split
      · exact ih y
      · split <;> simp

theorem cmp_zero (x y : Bs) : cmp x y = 0 ↔ x = y := by
  induction x generalizing y with
  | nil => cases y <;> simp [cmp]
  | cons a x ih =>
    cases y with
    | nil => simp [cmp]
    | cons b y =>
      unfold cmp
      by_cases h : (a.toNat : Int) = b.toNat
      · rw [if_pos h, ih]
        have : a = b := UInt8.toNat_inj.1 (by omega)
        simp [this]
      · rw [if_neg h]
        have : ¬ a = b := fun e => h (by rw [e])
        split <;> simp [this]

theorem cmp_self (x : Bs) : cmp x x = 0 := (cmp_zero x x).2 rfl

theorem cmp_swap (x y : Bs) : cmp y x = - cmp x y := by
  induction x generalizing y with
  | nil => cases y <;> simp [cmp]
  | cons a x ih =>
    cases y with
    | nil => simp [cmp]
    | cons b y =>
      unfold cmp
      by_cases h : (a.toNat : Int) = b.toNat
      · rw [if_pos h, if_pos h.symm, ih]
      · rw [if_neg h, if_neg (fun e => h e.symm)]
        by_cases h2 : (a.toNat : Int) < b.toNat
        · rw [if_pos h2, if_neg (by omega)]; rfl
        · rw [if_neg h2, if_pos (by omega)]

theorem less_cmp (x y : Bs) : Op.bytesLess x y = decide (cmp x y < 0) := by
  induction x generalizing y with
  | nil => cases y <;> simp [cmp, Op.bytesLess]
  | cons a x ih =>
    cases y with
    | nil => simp [cmp, Op.bytesLess]
    | cons b y =>
      unfold cmp Op.bytesLess
      by_cases h : (a.toNat : Int) = b.toNat
      · have e : a = b := UInt8.toNat_inj.1 (by omega)
        subst e
        rw [if_pos rfl, ih]
        have : ¬ a < a := by simp
        simp [this]
      · have e : (a == b) = false := by
          have : ¬ a = b := fun e => h (by rw [e])
          simpa using this
        rw [if_neg h, e]
        by_cases h2 : (a.toNat : Int) < b.toNat
        · have : a < b := UInt8.lt_iff_toNat_lt.2 (by omega)
          simp [this, h2]
        · have : ¬ a < b := fun h' => h2 (by have := UInt8.lt_iff_toNat_lt.1 h'; omega)
          simp [this, h2]

/-! The loop of the byte compare, by the place k: n is the lesser length. -/
def cmpAt (x y : Bs) (k : Nat) : Int := cmp (x.drop k) (y.drop k)

theorem cmpAt_zero (x y : Bs) : cmpAt x y 0 = cmp x y := rfl
theorem cmpAt_same (x y : Bs) (k : Nat) (hx : k < x.length) (hy : k < y.length) (h : (x[k].toNat : Int) = y[k].toNat) : cmpAt x y k = cmpAt x y (k + 1) := by
  unfold cmpAt
  rw [List.drop_eq_getElem_cons hx, List.drop_eq_getElem_cons hy, cmp, if_pos h]
theorem cmpAt_less (x y : Bs) (k : Nat) (hx : k < x.length) (hy : k < y.length) (h : (x[k].toNat : Int) < y[k].toNat) : cmpAt x y k = -1 := by
  unfold cmpAt
  rw [List.drop_eq_getElem_cons hx, List.drop_eq_getElem_cons hy, cmp, if_neg (by omega), if_pos h]
theorem cmpAt_more (x y : Bs) (k : Nat) (hx : k < x.length) (hy : k < y.length) (h : (y[k].toNat : Int) < x[k].toNat) : cmpAt x y k = 1 := by
  unfold cmpAt
  rw [List.drop_eq_getElem_cons hx, List.drop_eq_getElem_cons hy, cmp, if_neg (by omega), if_neg (by omega)]
theorem cmpAt_short (x y : Bs) (k : Nat) (hx : x.length ≤ k) (hxy : k < y.length) : cmpAt x y k = -1 := by
  unfold cmpAt
  rw [List.drop_eq_nil_of_le hx, List.drop_eq_getElem_cons hxy]; rfl
theorem cmpAt_long (x y : Bs) (k : Nat) (hy : y.length ≤ k) (hxy : k < x.length) : cmpAt x y k = 1 := by
  unfold cmpAt
  rw [List.drop_eq_nil_of_le hy, List.drop_eq_getElem_cons hxy]; rfl
theorem cmpAt_end (x y : Bs) (k : Nat) (hx : x.length ≤ k) (hy : y.length ≤ k) : cmpAt x y k = 0 := by
  unfold cmpAt
  rw [List.drop_eq_nil_of_le hx, List.drop_eq_nil_of_le hy]; rfl

/-! ### 'prevails' -/
/-- Of two sides as large. -/
def pvl : List Bs → List Bs → Bool
  | a :: x, b :: y => if a = b then pvl x y else Op.bytesLess a b
  | _, _ => false

def pv (x y : List Bs) : Bool := if x.length = y.length then pvl x y else decide (y.length < x.length)

/-- The scan from the back: the first place that differs. -/
def bc : List Bs → List Bs → Int
  | a :: x, b :: y => if cmp a b = 0 then bc x y else cmp a b
  | _, _ => 0

theorem pvl_bc (x y : List Bs) : pvl x y = decide (bc x y < 0) := by
  induction x generalizing y with
  | nil => cases y <;> simp [pvl, bc]
  | cons a x ih =>
    cases y with
    | nil => simp [pvl, bc]
    | cons b y =>
      unfold pvl bc
      by_cases h : a = b
      · rw [if_pos h, if_pos ((cmp_zero a b).2 h), ih]
      · rw [if_neg h, if_neg (fun e => h ((cmp_zero a b).1 e)), less_cmp]

theorem pvl_self (x : List Bs) : pvl x x = false := by
  induction x with
  | nil => rfl
  | cons a x ih => unfold pvl; rw [if_pos rfl, ih]

theorem pvl_total (x y : List Bs) (h : x.length = y.length) (hn : ¬ x = y) : pvl x y = !pvl y x := by
  induction x generalizing y with
  | nil => cases y with
    | nil => exact absurd rfl hn
    | cons b y => simp at h
  | cons a x ih =>
    cases y with
    | nil => simp at h
    | cons b y =>
      unfold pvl
      by_cases e : a = b
      · subst e
        rw [if_pos rfl, if_pos rfl]
        exact ih y (by simpa using h) (fun e => hn (by rw [e]))
      · rw [if_neg e, if_neg (fun h => e h.symm), less_cmp, less_cmp, cmp_swap a b]
        have h0 : ¬ cmp a b = 0 := fun h => e ((cmp_zero a b).1 h)
        rcases cmp_cases a b with h | h | h
        · rw [h]; decide
        · exact absurd h h0
        · rw [h]; decide

theorem pv_self (x : List Bs) : pv x x = false := by
  unfold pv; rw [if_pos rfl]; exact pvl_self x

theorem pv_total (x y : List Bs) (hn : ¬ x = y) : pv x y = !pv y x := by
  unfold pv
  by_cases h : x.length = y.length
  · rw [if_pos h, if_pos h.symm]; exact pvl_total x y h hn
  · rw [if_neg h, if_neg (fun e => h e.symm)]
    by_cases h2 : y.length < x.length
    · simp [h2]; omega
    · have : x.length < y.length := by omega
      simp [h2, this]

def pvAt (x y : List Bs) (k : Nat) : Bool := pvl (x.drop k) (y.drop k)
theorem pvAt_same (x y : List Bs) (k : Nat) (hx : k < x.length) (hy : k < y.length) (h : x[k] = y[k]) : pvAt x y k = pvAt x y (k + 1) := by
  unfold pvAt
  rw [List.drop_eq_getElem_cons hx, List.drop_eq_getElem_cons hy, pvl, if_pos h]
theorem pvAt_diff (x y : List Bs) (k : Nat) (hx : k < x.length) (hy : k < y.length) (h : ¬ x[k] = y[k]) : pvAt x y k = Op.bytesLess x[k] y[k] := by
  unfold pvAt
  rw [List.drop_eq_getElem_cons hx, List.drop_eq_getElem_cons hy, pvl, if_neg h]
theorem pvAt_end (x y : List Bs) (k : Nat) (hx : x.length ≤ k) : pvAt x y k = false := by
  unfold pvAt
  rw [List.drop_eq_nil_of_le hx]; rfl

def bcAt (x y : List Bs) (k : Nat) : Int := bc (x.drop k) (y.drop k)
theorem bcAt_same (x y : List Bs) (k : Nat) (hx : k < x.length) (hy : k < y.length) (h : cmp x[k] y[k] = 0) : bcAt x y k = bcAt x y (k + 1) := by
  unfold bcAt
  rw [List.drop_eq_getElem_cons hx, List.drop_eq_getElem_cons hy, bc, if_pos h]
theorem bcAt_diff (x y : List Bs) (k : Nat) (hx : k < x.length) (hy : k < y.length) (h : ¬ cmp x[k] y[k] = 0) : bcAt x y k = cmp x[k] y[k] := by
  unfold bcAt
  rw [List.drop_eq_getElem_cons hx, List.drop_eq_getElem_cons hy, bc, if_neg h]
theorem bcAt_end (x y : List Bs) (k : Nat) (hx : x.length ≤ k) : bcAt x y k = 0 := by
  unfold bcAt
  rw [List.drop_eq_nil_of_le hx]; rfl

end Go.Proofs.Qxb6601771aMods.Plain
