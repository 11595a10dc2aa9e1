import Derived.WalkKit
namespace Go.Proofs.Qxb6601633a

/-! The plain functions, on bytes; no Go in sight. -/
def hexDZ (z : Int) : Bool := decide ((48 ≤ z ∧ z ≤ 57) ∨ (97 ≤ z ∧ z ≤ 102) ∨ (65 ≤ z ∧ z ≤ 70))
def upHZ (z : Int) : Bool := decide ((48 ≤ z ∧ z ≤ 57) ∨ (65 ≤ z ∧ z ≤ 70))
def unrZ (z : Int) : Bool := decide ((97 ≤ z ∧ z ≤ 122) ∨ (65 ≤ z ∧ z ≤ 90) ∨ (48 ≤ z ∧ z ≤ 57) ∨ z = 45 ∨ z = 46 ∨ z = 95 ∨ z = 126)
def hexVZ (z : Int) : Int := if 48 ≤ z ∧ z ≤ 57 then z - 48 else if 97 ≤ z ∧ z ≤ 102 then z - 87 else if 65 ≤ z ∧ z ≤ 70 then z - 55 else 0

def Z (c : UInt8) : Int := (c.toNat : Int)
theorem Z_def (c : UInt8) : Z c = (c.toNat : Int) := rfl
theorem Z_le (c : UInt8) : 0 ≤ Z c ∧ Z c ≤ 255 := by have := c.toNat_lt; unfold Z; omega
theorem Z_inj {a b : UInt8} (h : Z a = Z b) : a = b := UInt8.toNat_inj.1 (by unfold Z at h; omega)
def ofZ (z : Int) : UInt8 := UInt8.ofNat z.toNat
theorem Z_ofZ {z : Int} (h0 : 0 ≤ z) (h1 : z ≤ 255) : Z (ofZ z) = z := by
  unfold Z ofZ
  rw [UInt8.toNat_ofNat']
  omega

theorem hexVZ_le {z : Int} : 0 ≤ hexVZ z ∧ hexVZ z ≤ 15 := by unfold hexVZ; split <;> (try split) <;> (try split) <;> omega

/-- The byte that a triplet encodes. -/
def val (a b : UInt8) : UInt8 := ofZ (hexVZ (Z a) * 16 + hexVZ (Z b))
theorem Z_val (a b : UInt8) : Z (val a b) = hexVZ (Z a) * 16 + hexVZ (Z b) := by
  have h1 := hexVZ_le (z := Z a)
  have h2 := hexVZ_le (z := Z b)
  exact Z_ofZ (by omega) (by omega)

/-- An upper-case hexadecimal digit. -/
def HEXZ (n : Int) : Int := if n < 10 then 48 + n else 55 + n
def HEX (n : Int) : UInt8 := ofZ (HEXZ n)
theorem Z_HEX {n : Int} (h0 : 0 ≤ n) (h1 : n ≤ 15) : Z (HEX n) = HEXZ n := Z_ofZ (by unfold HEXZ; split <;> omega) (by unfold HEXZ; split <;> omega)

def pct (v : UInt8) : List UInt8 := [37, HEX (Z v / 16), HEX (Z v % 16)]
def escZ (z : Int) : Bool := decide (z ≤ 32 ∨ 127 ≤ z ∨ z = 37)
def one (c : UInt8) : List UInt8 := if escZ (Z c) then pct c else [c]
def emit (v : UInt8) : List UInt8 := if unrZ (Z v) then [v] else pct v

def norm : List UInt8 → List UInt8
  | [] => []
  | [c] => one c
  | [c, a] => one c ++ norm [a]
  | c :: a :: b :: r => if c = 37 ∧ hexDZ (Z a) = true ∧ hexDZ (Z b) = true then emit (val a b) ++ norm r else one c ++ norm (a :: b :: r)

def canon : List UInt8 → Bool
  | [] => true
  | [c] => !escZ (Z c)
  | [c, a] => !escZ (Z c) && canon [a]
  | c :: a :: b :: r => if c = 37 then upHZ (Z a) && upHZ (Z b) && !unrZ (Z (val a b)) && canon r else !escZ (Z c) && canon (a :: b :: r)

def dec : List UInt8 → List UInt8
  | [] => []
  | [c] => [c]
  | [c, a] => c :: dec [a]
  | c :: a :: b :: r => if c = 37 ∧ hexDZ (Z a) = true ∧ hexDZ (Z b) = true then val a b :: dec r else c :: dec (a :: b :: r)

/-- A byte that opens no triplet. -/
def NoTri (c : UInt8) (r : List UInt8) : Prop := c ≠ 37 ∨ ∀ a b r', r = a :: b :: r' → ¬ (hexDZ (Z a) = true ∧ hexDZ (Z b) = true)

theorem norm_one {c : UInt8} {r : List UInt8} (h : NoTri c r) : norm (c :: r) = one c ++ norm r := by
  match r, h with
  | [], _ => simp [norm]
  | [a], _ => simp [norm]
  | a :: b :: r', h =>
    rw [norm, if_neg]
    rintro ⟨h1, h2⟩
    rcases h with h | h
    · exact h h1
    · exact h a b r' rfl h2
theorem norm_tri {a b : UInt8} {r : List UInt8} (ha : hexDZ (Z a) = true) (hb : hexDZ (Z b) = true) : norm (37 :: a :: b :: r) = emit (val a b) ++ norm r := by
  rw [norm, if_pos ⟨rfl, ha, hb⟩]
theorem dec_one {c : UInt8} {r : List UInt8} (h : NoTri c r) : dec (c :: r) = c :: dec r := by
  match r, h with
  | [], _ => simp [dec]
  | [a], _ => simp [dec]
  | a :: b :: r', h =>
    rw [dec, if_neg]
    rintro ⟨h1, h2⟩
    rcases h with h | h
    · exact h h1
    · exact h a b r' rfl h2
theorem dec_tri {a b : UInt8} {r : List UInt8} (ha : hexDZ (Z a) = true) (hb : hexDZ (Z b) = true) : dec (37 :: a :: b :: r) = val a b :: dec r := by
  rw [dec, if_pos ⟨rfl, ha, hb⟩]
theorem canon_one {c : UInt8} {r : List UInt8} (h : c ≠ 37) : canon (c :: r) = (!escZ (Z c) && canon r) := by
  match r with
  | [] => simp [canon]
  | [a] => simp [canon]
  | a :: b :: r' => rw [canon, if_neg h]
theorem canon_tri {a b : UInt8} {r : List UInt8} : canon (37 :: a :: b :: r) = (upHZ (Z a) && upHZ (Z b) && !unrZ (Z (val a b)) && canon r) := by
  rw [canon, if_pos rfl]
theorem canon_short {r : List UInt8} (h : r.length < 2) : canon (37 :: r) = false := by
  match r, h with
  | [], _ => decide
  | [a], _ =>
    rw [canon]
    have : escZ (Z 37) = true := by decide
    rw [this]; rfl

theorem HEX_up {n : Int} (h0 : 0 ≤ n) (h1 : n ≤ 15) : upHZ (Z (HEX n)) = true := by
  rw [Z_HEX h0 h1]
  unfold upHZ HEXZ
  apply decide_eq_true
  split <;> omega
theorem up_hex {z : Int} (h : upHZ z = true) : hexDZ z = true := by
  unfold upHZ at h
  unfold hexDZ
  have := of_decide_eq_true h
  apply decide_eq_true
  omega
theorem hexV_HEX {n : Int} (h0 : 0 ≤ n) (h1 : n ≤ 15) : hexVZ (Z (HEX n)) = n := by
  rw [Z_HEX h0 h1]
  unfold HEXZ hexVZ
  split
  · rw [if_pos (by omega)]; omega
  · rw [if_neg (by omega), if_neg (by omega), if_pos (by omega)]; omega
theorem HEX_hexV {c : UInt8} (h : upHZ (Z c) = true) : HEX (hexVZ (Z c)) = c := by
  have h1 := of_decide_eq_true h
  have h2 := hexVZ_le (z := Z c)
  apply Z_inj
  rw [Z_HEX h2.1 h2.2]
  unfold HEXZ hexVZ
  rcases h1 with h1 | h1
  · rw [if_pos h1]; rw [if_pos (by omega)]; omega
  · rw [if_neg (by omega), if_neg (by omega), if_pos h1, if_neg (by omega)]; omega
theorem div_le (v : UInt8) : 0 ≤ Z v / 16 ∧ Z v / 16 ≤ 15 := by have := Z_le v; omega
theorem mod_le (v : UInt8) : 0 ≤ Z v % 16 ∧ Z v % 16 ≤ 15 := by omega
theorem val_pct (v : UInt8) : val (HEX (Z v / 16)) (HEX (Z v % 16)) = v := by
  apply Z_inj
  rw [Z_val, hexV_HEX (div_le v).1 (div_le v).2, hexV_HEX (mod_le v).1 (mod_le v).2]
  omega
theorem unr_esc {z : Int} (h : unrZ z = true) : escZ z = false := by
  have h1 := of_decide_eq_true h
  apply decide_eq_false
  omega
theorem esc_unr {z : Int} (h : escZ z = true) : unrZ z = false := by
  have h1 := of_decide_eq_true h
  apply decide_eq_false
  omega
theorem ne37 {c : UInt8} (h : escZ (Z c) = false) : c ≠ 37 := by
  rintro rfl
  revert h
  decide

theorem canon_pct (v : UInt8) (r : List UInt8) (h : unrZ (Z v) = false) : canon (pct v ++ r) = canon r := by
  show canon (37 :: HEX (Z v / 16) :: HEX (Z v % 16) :: r) = _
  rw [canon_tri, HEX_up (div_le v).1 (div_le v).2, HEX_up (mod_le v).1 (mod_le v).2, val_pct, h]
  rfl
theorem dec_pct (v : UInt8) (r : List UInt8) : dec (pct v ++ r) = v :: dec r := by
  show dec (37 :: HEX (Z v / 16) :: HEX (Z v % 16) :: r) = _
  rw [dec_tri (up_hex (HEX_up (div_le v).1 (div_le v).2)) (up_hex (HEX_up (mod_le v).1 (mod_le v).2)), val_pct]
theorem canon_one' (c : UInt8) (r : List UInt8) : canon (one c ++ r) = canon r := by
  unfold one
  cases h : escZ (Z c) with
  | true => rw [if_pos rfl]; exact canon_pct c r (esc_unr h)
  | false =>
    rw [if_neg (by decide)]
    show canon (c :: r) = _
    rw [canon_one (ne37 h), h]
    rfl
theorem dec_one' (c : UInt8) (r : List UInt8) : dec (one c ++ r) = c :: dec r := by
  unfold one
  cases h : escZ (Z c) with
  | true => rw [if_pos rfl]; exact dec_pct c r
  | false =>
    rw [if_neg (by decide)]
    exact dec_one (.inl (ne37 h))
theorem canon_emit (v : UInt8) (r : List UInt8) : canon (emit v ++ r) = canon r := by
  unfold emit
  cases h : unrZ (Z v) with
  | true =>
    rw [if_pos rfl]
    show canon (v :: r) = _
    rw [canon_one (ne37 (unr_esc h)), unr_esc h]
    rfl
  | false => rw [if_neg (by decide)]; exact canon_pct v r h
theorem dec_emit (v : UInt8) (r : List UInt8) : dec (emit v ++ r) = v :: dec r := by
  unfold emit
  cases h : unrZ (Z v) with
  | true => rw [if_pos rfl]; exact dec_one (.inl (ne37 (unr_esc h)))
  | false => rw [if_neg (by decide)]; exact dec_pct v r

/-- Each list opens with a triplet, or with a byte that opens none. -/
theorem tri_or (c : UInt8) (r : List UInt8) : (∃ a b r', c = 37 ∧ r = a :: b :: r' ∧ hexDZ (Z a) = true ∧ hexDZ (Z b) = true) ∨ NoTri c r := by
  by_cases hc : c = 37
  · by_cases h : ∃ a b r', r = a :: b :: r' ∧ hexDZ (Z a) = true ∧ hexDZ (Z b) = true
    · obtain ⟨a, b, r', h1, h2, h3⟩ := h
      exact .inl ⟨a, b, r', hc, h1, h2, h3⟩
    · exact .inr (.inr fun a b r' h1 h2 => h ⟨a, b, r', h1, h2⟩)
  · exact .inr (.inl hc)

theorem canon_norm : ∀ (n : Nat) (s : List UInt8), s.length ≤ n → canon (norm s) = true
  | _, [], _ => rfl
  | n + 1, c :: r, h => by
    simp only [List.length_cons] at h
    rcases tri_or c r with ⟨a, b, r', rfl, rfl, ha, hb⟩ | hn
    · rw [norm_tri ha hb, canon_emit]
      simp only [List.length_cons] at h
      exact canon_norm n r' (by omega)
    · rw [norm_one hn, canon_one']
      exact canon_norm n r (by omega)
  | 0, c :: r, h => by simp at h

theorem dec_norm : ∀ (n : Nat) (s : List UInt8), s.length ≤ n → dec (norm s) = dec s
  | _, [], _ => rfl
  | n + 1, c :: r, h => by
    simp only [List.length_cons] at h
    rcases tri_or c r with ⟨a, b, r', rfl, rfl, ha, hb⟩ | hn
    · rw [norm_tri ha hb, dec_emit, dec_tri ha hb]
      simp only [List.length_cons] at h
      rw [dec_norm n r' (by omega)]
    · rw [norm_one hn, dec_one', dec_one hn, dec_norm n r (by omega)]
  | 0, c :: r, h => by simp at h

theorem one_len (c : UInt8) : (one c).length ≤ 3 := by unfold one; split <;> simp [pct]
theorem emit_len (c : UInt8) : (emit c).length ≤ 3 := by unfold emit; split <;> simp [pct]
theorem norm_len : ∀ (n : Nat) (s : List UInt8), s.length ≤ n → (norm s).length ≤ 3 * s.length
  | _, [], _ => by simp [norm]
  | n + 1, c :: r, h => by
    simp only [List.length_cons] at h
    rcases tri_or c r with ⟨a, b, r', rfl, rfl, ha, hb⟩ | hn
    · rw [norm_tri ha hb, List.length_append]
      simp only [List.length_cons] at h ⊢
      have h1 := emit_len (val a b)
      have h2 := norm_len n r' (by omega)
      omega
    · rw [norm_one hn, List.length_append]
      have h1 := one_len c
      have h2 := norm_len n r (by omega)
      simp only [List.length_cons]
      omega
  | 0, c :: r, h => by simp at h

theorem norm_canon : ∀ (n : Nat) (s : List UInt8), s.length ≤ n → canon s = true → norm s = s
  | _, [], _, _ => rfl
  | n + 1, c :: r, h, hc => by
    simp only [List.length_cons] at h
    by_cases h37 : c = 37
    · subst h37
      match r, h, hc with
      | [], _, hc => rw [canon_short (by simp)] at hc; cases hc
      | [a], _, hc => rw [canon_short (by simp)] at hc; cases hc
      | a :: b :: r', h, hc =>
        rw [canon_tri] at hc
        simp only [Bool.and_eq_true, Bool.not_eq_true'] at hc
        obtain ⟨⟨⟨ha, hb⟩, hu⟩, hr⟩ := hc
        simp only [List.length_cons] at h
        rw [norm_tri (up_hex ha) (up_hex hb), norm_canon n r' (by omega) hr]
        unfold emit
        rw [hu, if_neg (by decide)]
        unfold pct
        have h1 := hexVZ_le (z := Z a)
        have h2 := hexVZ_le (z := Z b)
        rw [Z_val, show (hexVZ (Z a) * 16 + hexVZ (Z b)) / 16 = hexVZ (Z a) from by omega, show (hexVZ (Z a) * 16 + hexVZ (Z b)) % 16 = hexVZ (Z b) from by omega, HEX_hexV ha, HEX_hexV hb]
        rfl
    · rw [canon_one h37] at hc
      simp only [Bool.and_eq_true, Bool.not_eq_true'] at hc
      rw [norm_one (.inl h37), norm_canon n r (by omega) hc.2]
      unfold one
      rw [hc.1, if_neg (by decide)]
      rfl
  | 0, c :: r, h, _ => by simp at h

/-- The two laws. -/
theorem norm_fix (s : List UInt8) : norm s = s ↔ canon s = true :=
  ⟨fun h => h ▸ canon_norm _ s (Nat.le_refl _), norm_canon _ s (Nat.le_refl _)⟩
theorem norm_idem (s : List UInt8) : norm (norm s) = norm s := norm_canon _ _ (Nat.le_refl _) (canon_norm _ s (Nat.le_refl _))

end Go.Proofs.Qxb6601633a
