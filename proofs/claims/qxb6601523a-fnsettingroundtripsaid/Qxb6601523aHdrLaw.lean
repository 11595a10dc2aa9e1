import Derived.Test.Qxb6601523aUnits
import Derived.Test.Qxb6601523aPlain
import Derived.Test.Qxb6601523aLower
namespace Go.Proofs.Qxb6601523a
open Go.RowKit

theorem u_plain {ds : List UInt8} {p : Nat} {us : List (UInt8 × Nat)} {c : UInt8} {r : List UInt8} (hu : IsU ds p us) (h : ds.drop p = c :: r) (hc : c ≠ 13 ∨ r.head? ≠ some 10) :
    ∃ us', us = (c, p + 1) :: us' ∧ IsU ds (p + 1) us' ∧ ds.drop (p + 1) = r := by
  obtain ⟨h1, h2, h3, h4⟩ := at_plain h hc
  cases us with
  | nil => exact absurd h3 (Nat.not_lt.2 hu)
  | cons cq us =>
    obtain ⟨c', q⟩ := cq
    obtain ⟨_, e1, e2, hu'⟩ := hu
    rw [h1] at e1
    rw [h2] at e2
    subst e1 e2
    exact ⟨us, rfl, hu', h4⟩

theorem keyDot_ne {c d : UInt8} (h : keyDot c = true) (hd : keyDot d = false) : c ≠ d := by
  intro e
  rw [e, hd] at h
  cases h

theorem name_rt {ds : List UInt8} (r : List UInt8) : ∀ (name : List UInt8) (p : Nat) (us : List (UInt8 × Nat)) (nm : List UInt8), (∀ c ∈ name, keyDot c = true) → IsU ds p us → ds.drop p = name ++ r →
    ∃ us', IsU ds (p + name.length) us' ∧ ds.drop (p + name.length) = r ∧ hdrName us nm p = hdrName us' (nm ++ name.map lowB) (p + name.length)
  | [], p, us, nm, _, hu, hd => ⟨us, hu, hd, by simp⟩
  | c :: name, p, us, nm, hk, hu, hd => by
    have hc := hk c (by simp)
    obtain ⟨us', rfl, hu', hd'⟩ := u_plain hu hd (.inl (keyDot_ne hc (by decide)))
    obtain ⟨us2, h1, h2, h3⟩ := name_rt r name (p + 1) us' (nm ++ [lowB c]) (fun c hc => hk c (by simp [hc])) hu' hd'
    have e : p + (c :: name).length = p + 1 + name.length := by simp only [List.length_cons]; omega
    rw [e]
    refine ⟨us2, h1, h2, ?_⟩
    rw [hdrName, if_pos hc, h3]
    simp

theorem QS_head (s r : List UInt8) (h : ∀ c ∈ s, c ≠ 10) : (QS s ++ 34 :: r).head? ≠ some 10 := by
  cases s with
  | nil => simp [QS]
  | cons x s =>
    have hx := h x (by simp)
    simp only [QS, List.flatMap_cons, qs]
    split <;> simp [hx]

theorem QS_cons (x : UInt8) (s : List UInt8) : QS (x :: s) = qs x ++ QS s := by simp [QS]

theorem sub_rt {ds : List UInt8} (nm r : List UInt8) : ∀ (sub : List UInt8) (p : Nat) (us : List (UInt8 × Nat)) (acc : List UInt8), (∀ c ∈ sub, c ≠ 10) → IsU ds p us → ds.drop p = QS sub ++ 34 :: 93 :: r →
    hdrSub nm us acc p = ⟨true, nm, acc ++ sub, true, p + (QS sub).length + 2⟩
  | [], p, us, acc, _, hu, hd => by
    obtain ⟨us1, rfl, hu1, hd1⟩ := u_plain hu (show ds.drop p = 34 :: 93 :: r from hd) (.inl (by decide))
    obtain ⟨us2, rfl, hu2, hd2⟩ := u_plain hu1 hd1 (.inl (by decide))
    simp [hdrSub, QS]
  | x :: sub, p, us, acc, hx, hu, hd => by
    have h10 := hx x (by simp)
    rw [QS_cons, List.append_assoc] at hd
    by_cases hq : x = 34 ∨ x = 92
    · have hd' : ds.drop p = 92 :: x :: (QS sub ++ 34 :: 93 :: r) := by rw [hd, qs, if_pos hq]; rfl
      obtain ⟨us1, rfl, hu1, hd1⟩ := u_plain hu hd' (.inl (by decide))
      obtain ⟨us2, rfl, hu2, hd2⟩ := u_plain hu1 hd1 (.inl (by rcases hq with rfl | rfl <;> decide))
      rw [hdrSub, if_neg (by decide), if_neg (by decide), if_pos rfl, if_neg h10, sub_rt nm r sub _ us2 (acc ++ [x]) (fun c hc => hx c (by simp [hc])) hu2 hd2]
      rw [QS_cons, qs, if_pos hq]
      simp
      omega
    · have hd' : ds.drop p = x :: (QS sub ++ 34 :: 93 :: r) := by rw [hd, qs, if_neg hq]; rfl
      obtain ⟨us1, rfl, hu1, hd1⟩ := u_plain hu hd' (.inr (QS_head _ _ (fun c hc => hx c (by simp [hc]))))
      have h34 : x ≠ 34 := fun e => hq (.inl e)
      have h92 : x ≠ 92 := fun e => hq (.inr e)
      have hne : us1 ≠ [] := by
        rintro rfl
        have h1 : ds.length ≤ p + 1 := hu1
        rw [List.drop_eq_nil_of_le h1] at hd1
        simp at hd1
      obtain ⟨⟨d, q⟩, us2, rfl⟩ := List.exists_cons_of_ne_nil hne
      rw [hdrSub, if_neg h10, if_neg h34, if_neg h92, sub_rt nm r sub _ _ (acc ++ [x]) (fun c hc => hx c (by simp [hc])) hu1 hd1]
      rw [QS_cons, qs, if_neg hq]
      simp
      omega

/-- A header with a subsection, read back. -/
theorem hdr_sub {ds name sub tail : List UInt8} (hk : ∀ c ∈ name, keyDot c = true) (hs : ∀ c ∈ sub, c ≠ 10) (hd : ds = name ++ (32 :: 34 :: (QS sub ++ 34 :: 93 :: tail))) {us : List (UInt8 × Nat)} (hu : IsU ds 0 us) :
    hdrName us [] 0 = ⟨true, name.map lowB, sub, true, name.length + 2 + (QS sub).length + 2⟩ := by
  obtain ⟨us1, h1, h2, h3⟩ := name_rt _ name 0 us [] hk hu (by rw [List.drop_zero]; exact hd)
  rw [h3]
  obtain ⟨us2, rfl, hu2, hd2⟩ := u_plain h1 h2 (.inl (by decide))
  obtain ⟨us3, rfl, hu3, hd3⟩ := u_plain hu2 hd2 (.inl (by decide))
  have e0 : keyDot 32 = false := by decide
  have e1 : isBl 32 = true := by decide
  have e2 : isBl 34 = false := by decide
  rw [hdrName, if_neg (by rw [e0]; decide), if_neg (by decide), if_pos e1, hdrBl, if_pos e1, hdrBl, if_neg (by rw [e2]; decide), if_pos rfl, sub_rt _ tail sub _ us3 [] hs hu3 hd3]
  simp

/-- .. and one without. -/
theorem hdr_bare {ds name tail : List UInt8} (hk : ∀ c ∈ name, keyDot c = true) (hd : ds = name ++ (93 :: tail)) {us : List (UInt8 × Nat)} (hu : IsU ds 0 us) :
    hdrName us [] 0 = ⟨true, name.map lowB, [], false, name.length + 1⟩ := by
  obtain ⟨us1, h1, h2, h3⟩ := name_rt _ name 0 us [] hk hu (by rw [List.drop_zero]; exact hd)
  rw [h3]
  obtain ⟨us2, rfl, hu2, hd2⟩ := u_plain h1 h2 (.inl (by decide))
  have e0 : keyDot 93 = false := by decide
  rw [hdrName, if_neg (by rw [e0]; decide), if_pos rfl]
  simp

end Go.Proofs.Qxb6601523a
