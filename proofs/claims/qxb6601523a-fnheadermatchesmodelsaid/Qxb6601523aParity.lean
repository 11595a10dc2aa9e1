import Derived.Test.Qxb6601523aLex
namespace Go.Proofs.Qxb6601523a
open Go.RowKit

/-- How many backslashes stand right before place j. -/
def runF (t : List UInt8) : Nat → Nat
  | 0 => 0
  | j + 1 => if t[j]? = some 92 then runF t j + 1 else 0

/-- What is kept of the first j bytes: each backslash with an even number of them right before it is dropped. -/
def subF (t : List UInt8) : Nat → List UInt8
  | 0 => []
  | j + 1 => if t[j]? = some 92 ∧ runF t j % 2 = 0 then subF t j else subF t j ++ t[j]?.toList

theorem runF_le (t : List UInt8) : ∀ j, runF t j ≤ j
  | 0 => Nat.le_refl _
  | j + 1 => by unfold runF; have := runF_le t j; split <;> omega

/-- The state behind a backslash. -/
def scanE (nm : List UInt8) : List (UInt8 × Nat) → List UInt8 → Nat → HR
  | [], _, p => .fail p
  | (d, r) :: us, sub, p => if d = 10 then .fail p else hdrSub nm us (sub ++ [d]) r

theorem hdrSub_bs (nm : List UInt8) (us : List (UInt8 × Nat)) (sub : List UInt8) (p q : Nat) : hdrSub nm ((92, q) :: us) sub p = scanE nm us sub q := by
  cases us with
  | nil => simp [hdrSub, scanE]
  | cons d us => obtain ⟨d, r⟩ := d; simp [hdrSub, scanE]

theorem hdrSub_qu (nm : List UInt8) (us : List (UInt8 × Nat)) (sub : List UInt8) (p q : Nat) : hdrSub nm ((34, q) :: us) sub p = match us with | (d, r) :: _ => if d = 93 then ⟨true, nm, sub, true, r⟩ else .fail q | [] => .fail q := by
  cases us with
  | nil => simp [hdrSub]
  | cons d us => obtain ⟨d, r⟩ := d; simp [hdrSub]

theorem hdrSub_other {nm : List UInt8} {us : List (UInt8 × Nat)} {c : UInt8} {q : Nat} {sub : List UInt8} {p : Nat} (h10 : c ≠ 10) (h34 : c ≠ 34) (h92 : c ≠ 92) : hdrSub nm ((c, q) :: us) sub p = hdrSub nm us (sub ++ [c]) q := by
  cases us with
  | nil => simp [hdrSub, h10]
  | cons d us => obtain ⟨d, r⟩ := d; rw [hdrSub, if_neg h10, if_neg h34, if_neg h92]

theorem hdrSub_nl (nm : List UInt8) (us : List (UInt8 × Nat)) (sub : List UInt8) (p q : Nat) : hdrSub nm ((10, q) :: us) sub p = .fail p := by
  cases us with
  | nil => simp [hdrSub]
  | cons d us => obtain ⟨d, r⟩ := d; simp [hdrSub]

theorem drop_at {us : List (UInt8 × Nat)} {k : Nat} {c : UInt8} {q : Nat} (h : us[k]? = some (c, q)) : us.drop k = (c, q) :: us.drop (k + 1) := by
  obtain ⟨hk, e⟩ := List.getElem?_eq_some_iff.1 h
  rw [List.drop_eq_getElem_cons hk, e]

section
variable {us : List (UInt8 × Nat)} {p0 : Nat}

theorem fst_at {k : Nat} {c : UInt8} (h : (us.map (·.1))[k]? = some c) : ∃ q, us[k]? = some (c, q) ∧ posU p0 us (k + 1) = q := by
  rw [List.getElem?_map] at h
  obtain ⟨⟨c', q⟩, h1, h2⟩ := Option.map_eq_some_iff.1 h
  simp at h2
  subst h2
  exact ⟨q, h1, posU_succ h1⟩

/-- The name's span. -/
theorem span_name (n : Nat) (h : ∀ i, i < n → ∃ c, (us.map (·.1))[i]? = some c ∧ keyDot c = true) :
    hdrName us [] p0 = hdrName (us.drop n) (((us.map (·.1)).take n).map lowB) (posU p0 us n) := by
  induction n with
  | zero => simp [posU_zero]
  | succ n ih =>
    rw [ih fun i hi => h i (by omega)]
    obtain ⟨c, hc, hk⟩ := h n (by omega)
    obtain ⟨q, h1, h2⟩ := fst_at (p0 := p0) hc
    have hlt : n < (us.map (·.1)).length := (List.getElem?_eq_some_iff.1 hc).1
    rw [drop_at h1, hdrName, if_pos hk, h2]
    congr 1
    rw [List.take_succ_eq_append_getElem hlt, List.map_append]
    have : (us.map (·.1))[n] = c := (List.getElem?_eq_some_iff.1 hc).2
    rw [this]
    rfl

/-- The blanks' span. -/
theorem span_bl (nm : List UInt8) (n m : Nat) (h : ∀ i, i < m → ∃ c, (us.map (·.1))[n + i]? = some c ∧ isBl c = true) :
    hdrBl nm (us.drop n) (posU p0 us n) = hdrBl nm (us.drop (n + m)) (posU p0 us (n + m)) := by
  induction m with
  | zero => rfl
  | succ m ih =>
    rw [ih fun i hi => h i (by omega)]
    obtain ⟨c, hc, hk⟩ := h m (by omega)
    obtain ⟨q, h1, h2⟩ := fst_at (p0 := p0) hc
    rw [drop_at h1, hdrBl, if_pos hk, show n + (m + 1) = n + m + 1 from rfl, h2]

/-- The subsection's region, by the parity of the backslashes. -/
theorem span_sub (nm : List UInt8) (s0 : Nat) (t : List UInt8) (ht : t = (us.map (·.1)).drop s0) (j : Nat) (hj : s0 + j ≤ us.length)
    (h10 : ∀ i, i < j → t[i]? ≠ some 10) (h34 : ∀ i, i < j → ¬ (t[i]? = some 34 ∧ runF t i % 2 = 0)) :
    hdrSub nm (us.drop s0) [] (posU p0 us s0) =
      if runF t j % 2 = 0 then hdrSub nm (us.drop (s0 + j)) (subF t j) (posU p0 us (s0 + j)) else scanE nm (us.drop (s0 + j)) (subF t j) (posU p0 us (s0 + j)) := by
  induction j with
  | zero => simp [runF, subF]
  | succ j ih =>
    rw [ih (by omega) (fun i hi => h10 i (by omega)) (fun i hi => h34 i (by omega))]
    have hlt : s0 + j < us.length := by omega
    obtain ⟨⟨c, q⟩, hcq⟩ : ∃ u, us[s0 + j]? = some u := ⟨_, List.getElem?_eq_getElem hlt⟩
    have htj : t[j]? = some c := by rw [ht, List.getElem?_drop, List.getElem?_map, hcq]; rfl
    have hp : posU p0 us (s0 + (j + 1)) = q := posU_succ (k := s0 + j) hcq
    have h1 := h10 j (by omega)
    have h2 := h34 j (by omega)
    rw [htj] at h1 h2
    have c10 : c ≠ 10 := fun e => h1 (by rw [e])
    rw [drop_at hcq, hp, show s0 + (j + 1) = s0 + j + 1 from rfl]
    by_cases he : runF t j % 2 = 0
    · rw [if_pos he]
      have c34 : c ≠ 34 := fun e => h2 ⟨by rw [e], he⟩
      by_cases c92 : c = 92
      · subst c92
        rw [hdrSub_bs]
        have hr : runF t (j + 1) = runF t j + 1 := by rw [runF, if_pos htj]
        have hs : subF t (j + 1) = subF t j := by rw [subF, if_pos ⟨htj, he⟩]
        rw [hr, hs, if_neg (by omega)]
      · rw [hdrSub_other c10 c34 c92]
        have hr : runF t (j + 1) = 0 := by rw [runF, if_neg (by rw [htj]; intro e; exact c92 (Option.some.inj e))]
        have hs : subF t (j + 1) = subF t j ++ [c] := by rw [subF, if_neg (by rw [htj]; intro e; exact c92 (Option.some.inj e.1)), htj]; rfl
        rw [hr, hs, if_pos rfl]
    · rw [if_neg he, scanE, if_neg c10]
      have hs : subF t (j + 1) = subF t j ++ [c] := by rw [subF, if_neg (fun e => he e.2), htj]; rfl
      have hr : runF t (j + 1) % 2 = 0 := by
        rw [runF]
        split
        · omega
        · rfl
      rw [hs, if_pos hr]

/-- No closing quote in the region. -/
theorem sub_none (nm : List UInt8) (s0 w : Nat) (t : List UInt8) (ht : t = (us.map (·.1)).drop s0) (hw : s0 + w ≤ us.length) (hend : s0 + w = us.length ∨ t[w]? = some 10)
    (h10 : ∀ i, i < w → t[i]? ≠ some 10) (h34 : ∀ i, i < w → ¬ (t[i]? = some 34 ∧ runF t i % 2 = 0)) :
    hdrSub nm (us.drop s0) [] (posU p0 us s0) = .fail (posU p0 us (s0 + w)) := by
  rw [span_sub nm s0 t ht w hw h10 h34]
  rcases hend with he | he
  · rw [List.drop_eq_nil_of_le (by omega)]
    split <;> simp [hdrSub, scanE]
  · have h0 : (us.map (·.1))[s0 + w]? = some 10 := by rw [ht, List.getElem?_drop] at he; exact he
    obtain ⟨q, h1, _⟩ := fst_at (p0 := p0) h0
    rw [drop_at h1]
    split
    · rw [hdrSub_nl]
    · simp [scanE]

/-- The first closing quote. -/
theorem sub_quote (nm : List UInt8) (s0 j : Nat) (t : List UInt8) (ht : t = (us.map (·.1)).drop s0) (hq : t[j]? = some 34) (he : runF t j % 2 = 0)
    (h10 : ∀ i, i < j → t[i]? ≠ some 10) (h34 : ∀ i, i < j → ¬ (t[i]? = some 34 ∧ runF t i % 2 = 0)) :
    hdrSub nm (us.drop s0) [] (posU p0 us s0) = if (us.map (·.1))[s0 + j + 1]? = some 93 then ⟨true, nm, subF t j, true, posU p0 us (s0 + j + 2)⟩ else .fail (posU p0 us (s0 + j + 1)) := by
  have h0 : (us.map (·.1))[s0 + j]? = some 34 := by rw [ht, List.getElem?_drop] at hq; exact hq
  obtain ⟨q, h1, h2⟩ := fst_at (p0 := p0) h0
  have hlt : s0 + j < us.length := (List.getElem?_eq_some_iff.1 h1).1
  rw [span_sub nm s0 t ht j (by omega) h10 h34, if_pos he, drop_at h1, hdrSub_qu, h2]
  by_cases hn : s0 + j + 1 < us.length
  · obtain ⟨⟨d, r⟩, hd⟩ : ∃ u, us[s0 + j + 1]? = some u := ⟨_, List.getElem?_eq_getElem hn⟩
    rw [drop_at hd]
    have e1 : (us.map (·.1))[s0 + j + 1]? = some d := by rw [List.getElem?_map, hd]; rfl
    have e2 : posU p0 us (s0 + j + 2) = r := posU_succ (k := s0 + j + 1) hd
    rw [e1, e2]
    by_cases h93 : d = 93
    · subst h93; simp
    · simp [h93]
  · rw [List.drop_eq_nil_of_le (by omega), List.getElem?_eq_none (by simp; omega)]
    simp
end

end Go.Proofs.Qxb6601523a
