import Derived.Test.Qxb6601523aBase
import Derived.Test.Qxb6601523aBytes
namespace Go.Proofs.Qxb6601523a
open Go.RowKit

/-- The units that a reader meets from p on, each with the place behind it. -/
def IsU (ds : List UInt8) : Nat → List (UInt8 × Nat) → Prop
  | p, [] => ds.length ≤ p
  | p, (c, q) :: us => p < ds.length ∧ peekC ds p = c ∧ nextP ds p = q ∧ IsU ds q us

theorem nextP_gt {ds : List UInt8} {p : Nat} (h : p < ds.length) : p < nextP ds p := by
  unfold nextP
  split <;> first | omega | (rw [if_pos h]; omega)

theorem isU_ex (ds : List UInt8) : ∀ (n p : Nat), ds.length - p ≤ n → ∃ us, IsU ds p us
  | 0, p, h => ⟨[], by show ds.length ≤ p; omega⟩
  | n + 1, p, h => by
    by_cases hp : p < ds.length
    · have := nextP_gt hp
      obtain ⟨us, hu⟩ := isU_ex ds n (nextP ds p) (by omega)
      exact ⟨(peekC ds p, nextP ds p) :: us, hp, rfl, rfl, hu⟩
    · exact ⟨[], by show ds.length ≤ p; omega⟩

/-- What 'header' answers. -/
structure HR where
  ok : Bool
  name : List UInt8
  sub : List UInt8
  has : Bool
  pos : Nat

def HR.fail (p : Nat) : HR := ⟨false, [], [], false, p⟩

def keyDot (c : UInt8) : Bool := keyZ (c.toNat : Int) || decide (c = 46)
def isBl (c : UInt8) : Bool := decide (c = 32 ∨ c = 9)

def hdrSub (nm : List UInt8) : List (UInt8 × Nat) → List UInt8 → Nat → HR
  | [], _, p => .fail p
  | [(c, q)], _, p => if c = 10 then .fail p else .fail q
  | (c, q) :: (d, r) :: us, sub, p =>
    if c = 10 then .fail p
    else if c = 34 then (if d = 93 then ⟨true, nm, sub, true, r⟩ else .fail q)
    else if c = 92 then (if d = 10 then .fail q else hdrSub nm us (sub ++ [d]) r)
    else hdrSub nm ((d, r) :: us) (sub ++ [c]) q

def hdrBl (nm : List UInt8) : List (UInt8 × Nat) → Nat → HR
  | [], p => .fail p
  | (c, q) :: us, p => if isBl c then hdrBl nm us q else if c = 34 then hdrSub nm us [] q else .fail p

def hdrName : List (UInt8 × Nat) → List UInt8 → Nat → HR
  | [], _, p => .fail p
  | (c, q) :: us, nm, p => if keyDot c then hdrName us (nm ++ [lowB c]) q else if c = 93 then ⟨true, nm, [], false, q⟩ else if isBl c then hdrBl nm ((c, q) :: us) p else .fail p

def dropBl : List (UInt8 × Nat) → Nat → List (UInt8 × Nat) × Nat
  | [], p => ([], p)
  | (c, q) :: us, p => if isBl c then dropBl us q else ((c, q) :: us, p)

theorem dropBl_u {ds : List UInt8} : ∀ (us : List (UInt8 × Nat)) (p : Nat), IsU ds p us → IsU ds (dropBl us p).2 (dropBl us p).1
  | [], p, h => h
  | (c, q) :: us, p, h => by
    unfold dropBl
    by_cases hb : isBl c = true
    · rw [if_pos hb]; exact dropBl_u us q h.2.2.2
    · rw [if_neg hb]; exact h

theorem hdrBl_drop (nm : List UInt8) : ∀ (us : List (UInt8 × Nat)) (p : Nat), hdrBl nm us p = match dropBl us p with
    | ((c, q) :: us', p') => if c = 34 then hdrSub nm us' [] q else .fail p'
    | ([], p') => .fail p'
  | [], p => rfl
  | (c, q) :: us, p => by
    unfold hdrBl dropBl
    by_cases hb : isBl c = true
    · rw [if_pos hb, if_pos hb]; exact hdrBl_drop nm us q
    · rw [if_neg hb, if_neg hb]

theorem dropBl_head : ∀ (us : List (UInt8 × Nat)) (p : Nat) (c : UInt8) (q : Nat) (us' : List (UInt8 × Nat)), (dropBl us p).1 = (c, q) :: us' → isBl c = false
  | [], p, c, q, us', h => by simp [dropBl] at h
  | (c0, q0) :: us, p, c, q, us', h => by
    unfold dropBl at h
    by_cases hb : isBl c0 = true
    · rw [if_pos hb] at h; exact dropBl_head us q0 c q us' h
    · rw [if_neg hb] at h
      simp only [List.cons.injEq, Prod.mk.injEq] at h
      rw [← h.1.1]
      simpa using hb

theorem keyDot_f {c : UInt8} (h : keyDot c = false) : keyZ (c.toNat : Int) = false ∧ c ≠ 46 := by
  unfold keyDot at h
  simp only [Bool.or_eq_false_iff, decide_eq_false_iff_not] at h
  exact h

end Go.Proofs.Qxb6601523a
