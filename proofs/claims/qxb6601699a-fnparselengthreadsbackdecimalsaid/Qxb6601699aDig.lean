import Derived.Test.Qxb6601699aPlain
namespace Go.Proofs.Qxb6601699a

def dc (m : Nat) : UInt8 := UInt8.ofNat (48 + m % 10)
theorem dc_nat (m : Nat) : (dc m).toNat = 48 + m % 10 := by
  unfold dc
  rw [UInt8.toNat_ofNat']
  omega
theorem dc_dg (m : Nat) : dg (dc m) = true := dg_t (by rw [dc_nat]; omega)
theorem dc_dv (m : Nat) : dv (dc m) = ((m % 10 : Nat) : Int) := by unfold dv; rw [dc_nat]; omega

/-- The decimal digits of m, in front of l. -/
def digsF : Nat → Nat → List UInt8 → List UInt8
  | 0, _, l => l
  | f + 1, m, l => if m / 10 = 0 then dc m :: l else digsF f (m / 10) (dc m :: l)
def digs (m : Nat) : List UInt8 := digsF 18 m []

theorem digsF_spec : ∀ (f m : Nat) (l : List UInt8), m < 10 ^ (f + 1) → allD l = true →
    allD (digsF (f + 1) m l) = true ∧ fold 0 (digsF (f + 1) m l) = (m : Int) * p10 l.length + fold 0 l ∧ l.length + 1 ≤ (digsF (f + 1) m l).length ∧ (digsF (f + 1) m l).length ≤ l.length + (f + 1)
  | f, m, l, hm, ha => by
    have ha' : allD (dc m :: l) = true := by unfold allD at *; rw [List.all_cons, dc_dg, ha]; rfl
    unfold digsF
    by_cases h : m / 10 = 0
    · rw [if_pos h]
      refine ⟨ha', ?_, by simp, by simp⟩
      rw [fold_cons, dc_dv]
      congr 2
      omega
    · rw [if_neg h]
      cases f with
      | zero => simp at hm; omega
      | succ f =>
        have h1 : m / 10 < 10 ^ (f + 1) := by
          rw [Nat.pow_succ] at hm
          omega
        obtain ⟨s1, s2, s3, s4⟩ := digsF_spec f (m / 10) (dc m :: l) h1 ha'
        simp only [List.length_cons] at s2 s3 s4
        refine ⟨s1, ?_, by omega, by omega⟩
        rw [s2, fold_cons, dc_dv]
        simp only [p10]
        have e : (m : Int) = ((m / 10 : Nat) : Int) * 10 + ((m % 10 : Nat) : Int) := by omega
        generalize p10 l.length = P
        generalize ((m / 10 : Nat) : Int) = a at e
        generalize ((m % 10 : Nat) : Int) = b at e
        rw [e, Int.add_mul, Int.mul_assoc, Int.mul_comm P 10, Int.add_assoc]

theorem digs_spec {m : Nat} (hm : m < 1000000000000000000) : allD (digs m) = true ∧ fold 0 (digs m) = (m : Int) ∧ 1 ≤ (digs m).length ∧ (digs m).length ≤ 18 := by
  obtain ⟨s1, s2, s3, s4⟩ := digsF_spec 17 m [] (by simpa using hm) rfl
  refine ⟨s1, ?_, by simpa [digs] using s3, by simpa [digs] using s4⟩
  have : fold 0 (digs m) = (m : Int) * p10 0 + fold 0 [] := s2
  rw [this]
  simp [p10, fold]

theorem fold_zeros : ∀ (z : Nat) (l : List UInt8), fold 0 (List.replicate z 48 ++ l) = fold 0 l
  | 0, l => rfl
  | z + 1, l => by
    rw [List.replicate_succ]
    show fold (0 * 10 + dv 48) (List.replicate z 48 ++ l) = _
    rw [show (0 * 10 + dv 48 : Int) = 0 from by decide]
    exact fold_zeros z l
theorem allD_zeros (z : Nat) (l : List UInt8) (h : allD l = true) : allD (List.replicate z 48 ++ l) = true := by
  unfold allD at *
  rw [List.all_append, h, Bool.and_true, List.all_eq_true]
  intro x hx
  rw [List.eq_of_mem_replicate hx]
  decide

/-- What zzDecimal writes. -/
def text (neg : Bool) (z m : Nat) : List UInt8 := (if neg then [45] else []) ++ List.replicate z 48 ++ digs m

theorem head_ne {z : Nat} {l : List UInt8} (h : allD l = true) (hl : 1 ≤ l.length) : ∃ c r, List.replicate z 48 ++ l = c :: r ∧ c ≠ 45 := by
  have ha := allD_zeros z l h
  cases hq : List.replicate z (48 : UInt8) ++ l with
  | nil => have := congrArg List.length hq; simp at this; rw [this.2] at hl; simp at hl
  | cons c r =>
    refine ⟨c, r, rfl, ?_⟩
    rintro rfl
    rw [hq] at ha
    unfold allD at ha
    rw [List.all_cons] at ha
    have h2 : dg 45 = true := by revert ha; cases dg 45 <;> simp
    exact absurd h2 (by decide)

theorem parse_text {neg : Bool} {z m : Nat} (hm : m < 1000000000000000000) : parse (text neg z m) = parseR neg (List.replicate z 48 ++ digs m) := by
  obtain ⟨s1, s2, s3, s4⟩ := digs_spec hm
  cases neg with
  | true => simp [text, parse]
  | false =>
    obtain ⟨c, r, he, hc⟩ := head_ne (z := z) s1 s3
    show parse ([] ++ List.replicate z 48 ++ digs m) = _
    rw [List.nil_append, he]
    simp [parse, hc]
theorem parse_ok {neg : Bool} {z m : Nat} (hm : m < 1000000000000000000) (hz : z + (digs m).length ≤ 18) : parse (text neg z m) = ((if neg then - (m : Int) else (m : Int)), true) := by
  obtain ⟨s1, s2, s3, s4⟩ := digs_spec hm
  rw [parse_text hm, parseR_t (by simp; omega) (by simpa using hz) (allD_zeros z _ s1), fold_zeros, s2]
theorem parse_no {neg : Bool} {z m : Nat} (hm : m < 1000000000000000000) (hz : 18 < z + (digs m).length) : parse (text neg z m) = (0, false) := by
  rw [parse_text hm, parseR_f (.inr (.inl (by simpa using hz)))]

end Go.Proofs.Qxb6601699a
