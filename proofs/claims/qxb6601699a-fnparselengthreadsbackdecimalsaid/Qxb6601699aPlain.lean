import Derived.WalkKit
namespace Go.Proofs.Qxb6601699a

def dgZ (z : Int) : Bool := decide (48 ≤ z ∧ z ≤ 57)
def dg (c : UInt8) : Bool := dgZ (c.toNat : Int)
def dv (c : UInt8) : Int := (c.toNat : Int) - 48
def allD (l : List UInt8) : Bool := l.all dg
def fold : Int → List UInt8 → Int
  | n, [] => n
  | n, c :: r => fold (n * 10 + dv c) r
def p10 : Nat → Int
  | 0 => 1
  | k + 1 => p10 k * 10

theorem dg_t {c : UInt8} (h : 48 ≤ (c.toNat : Int) ∧ (c.toNat : Int) ≤ 57) : dg c = true := decide_eq_true h
theorem dg_f {c : UInt8} (h : ¬ (48 ≤ (c.toNat : Int) ∧ (c.toNat : Int) ≤ 57)) : dg c = false := decide_eq_false h
theorem dg_bd {c : UInt8} (h : dg c = true) : 0 ≤ dv c ∧ dv c ≤ 9 := by
  have := of_decide_eq_true h
  unfold dv
  omega

theorem fold_append : ∀ (l r : List UInt8) (n : Int), fold n (l ++ r) = fold (fold n l) r
  | [], _, _ => rfl
  | c :: l, r, n => fold_append l r (n * 10 + dv c)
theorem fold_lin : ∀ (l : List UInt8) (n : Int), fold n l = n * p10 l.length + fold 0 l
  | [], n => by simp [fold, p10]
  | c :: l, n => by
    simp only [fold, List.length_cons, p10]
    rw [fold_lin l (n * 10 + dv c), fold_lin l (0 * 10 + dv c)]
    rw [Int.zero_mul, Int.zero_add, Int.add_mul, Int.mul_assoc, Int.mul_comm 10, Int.add_assoc]
theorem fold_cons (c : UInt8) (l : List UInt8) : fold 0 (c :: l) = dv c * p10 l.length + fold 0 l := by
  show fold (0 * 10 + dv c) l = _
  rw [fold_lin, Int.zero_mul, Int.zero_add]
theorem p10_pos : ∀ k, 1 ≤ p10 k
  | 0 => by simp [p10]
  | k + 1 => by have := p10_pos k; simp only [p10]; omega
theorem p10_mono : ∀ {j k : Nat}, j ≤ k → p10 j ≤ p10 k
  | j, 0, h => by obtain rfl : j = 0 := by omega
                  exact Int.le_refl _
  | j, k + 1, h => by
    rcases Nat.lt_or_eq_of_le h with h1 | rfl
    · have h2 := p10_mono (j := j) (k := k) (by omega)
      have := p10_pos k
      show p10 j ≤ p10 k * 10
      omega
    · exact Int.le_refl _
theorem fold_bd : ∀ (l : List UInt8), allD l = true → 0 ≤ fold 0 l ∧ fold 0 l < p10 l.length
  | [], _ => by simp [fold, p10]
  | c :: l, h => by
    have h' : dg c = true ∧ allD l = true := by simpa [allD] using h
    obtain ⟨h1, h2⟩ := fold_bd l h'.2
    have h3 := dg_bd h'.1
    have hp := p10_pos l.length
    rw [fold_cons]
    simp only [List.length_cons, p10]
    have h4 : dv c * p10 l.length ≤ 9 * p10 l.length := Int.mul_le_mul_of_nonneg_right h3.2 (by omega)
    have h5 : 0 ≤ dv c * p10 l.length := Int.mul_nonneg h3.1 (by omega)
    omega
theorem p10_17 : p10 17 = 100000000000000000 := by decide
theorem p10_18 : p10 18 = 1000000000000000000 := by decide
theorem fold_lt {l : List UInt8} (h : allD l = true) {k : Nat} (hk : l.length ≤ k) : 0 ≤ fold 0 l ∧ fold 0 l < p10 k := by
  have h1 := fold_bd l h
  have h2 := p10_mono hk
  omega

/-- What parseLength answers behind the sign. -/
def parseR (neg : Bool) (r : List UInt8) : Int × Bool :=
  if 1 ≤ r.length ∧ r.length ≤ 18 ∧ allD r = true then ((if neg then - fold 0 r else fold 0 r), true) else (0, false)
def parse : List UInt8 → Int × Bool
  | [] => (0, false)
  | c :: r => if c = 45 then parseR true r else parseR false (c :: r)

theorem parseR_t {neg : Bool} {r : List UInt8} (h1 : 1 ≤ r.length) (h2 : r.length ≤ 18) (h3 : allD r = true) : parseR neg r = ((if neg then - fold 0 r else fold 0 r), true) := by
  unfold parseR; rw [if_pos ⟨h1, h2, h3⟩]
theorem parseR_f {neg : Bool} {r : List UInt8} (h : r.length < 1 ∨ 18 < r.length ∨ allD r = false) : parseR neg r = (0, false) := by
  unfold parseR; rw [if_neg]; rintro ⟨h1, h2, h3⟩; rcases h with h | h | h
  · omega
  · omega
  · rw [h] at h3; cases h3
theorem allD_snoc {l : List UInt8} {c : UInt8} (h1 : allD l = true) (h2 : dg c = true) : allD (l ++ [c]) = true := by
  unfold allD at *; rw [List.all_append, h1]; simp [h2]
theorem allD_mem {l : List UInt8} {k : Nat} (hk : k < l.length) (h : dg l[k] = false) : allD l = false := by
  unfold allD
  rw [List.all_eq_false]
  exact ⟨_, List.getElem_mem hk, by rw [h]; decide⟩

end Go.Proofs.Qxb6601699a
