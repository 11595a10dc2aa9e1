import Derived.Test.Qxb6601523aProg
import Derived.WalkKit
import Derived.WalkSpells
import Derived.WalkLawsBesides
namespace Go.Proofs.Qxb6601523a
open Go.RowKit

def alphaZ (z : Int) : Bool := decide ((97 ≤ z ∧ z ≤ 122) ∨ (65 ≤ z ∧ z ≤ 90))
def keyZ (z : Int) : Bool := decide ((97 ≤ z ∧ z ≤ 122) ∨ (65 ≤ z ∧ z ≤ 90) ∨ (48 ≤ z ∧ z ≤ 57) ∨ z = 45)
def lowZ (z : Int) : Int := if 65 ≤ z ∧ z ≤ 90 then z + 32 else z

theorem ret_bool {a b : Bool} (h : a = b) : Ending.returned (.bool a) = .returned (.bool b) := by rw [h]
theorem ret_int {k : IntKind} {a b : Int} (h : a = b) : Ending.returned (.int k a) = .returned (.int k b) := by rw [h]

theorem alphaZ_t {z : Int} (h : (97 ≤ z ∧ z ≤ 122) ∨ (65 ≤ z ∧ z ≤ 90)) : alphaZ z = true := decide_eq_true h
theorem alphaZ_f {z : Int} (h : ¬ ((97 ≤ z ∧ z ≤ 122) ∨ (65 ≤ z ∧ z ≤ 90))) : alphaZ z = false := decide_eq_false h
theorem keyZ_t {z : Int} (h : (97 ≤ z ∧ z ≤ 122) ∨ (65 ≤ z ∧ z ≤ 90) ∨ (48 ≤ z ∧ z ≤ 57) ∨ z = 45) : keyZ z = true := decide_eq_true h
theorem keyZ_f {z : Int} (h : ¬ ((97 ≤ z ∧ z ≤ 122) ∨ (65 ≤ z ∧ z ≤ 90) ∨ (48 ≤ z ∧ z ≤ 57) ∨ z = 45)) : keyZ z = false := decide_eq_false h

theorem isAlpha_any (z : Int) (w : World) : Calls Try.prog 34 #[.int .u8 z] w fun e w' => e = .returned (.bool (alphaZ z)) ∧ w' = w := by
  rcases (show z < 65 ∨ (65 ≤ z ∧ z ≤ 90) ∨ (90 < z ∧ z < 97) ∨ (97 ≤ z ∧ z ≤ 122) ∨ 122 < z from by omega) with h | h | h | h | h
  all_goals
    go_enter Try.func34, Try.ntmps34
    go_wp2
    go_ret
    exact ⟨ret_bool (by first | (rw [alphaZ_t (by omega)]; try (simp; omega)) | (rw [alphaZ_f (by omega)]; try (simp; omega))), rfl⟩

theorem isKey_any (z : Int) (w : World) : Calls Try.prog 31 #[.int .u8 z] w fun e w' => e = .returned (.bool (keyZ z)) ∧ w' = w := by
  by_cases ha : (97 ≤ z ∧ z ≤ 122) ∨ (65 ≤ z ∧ z ≤ 90)
  · have e1 := alphaZ_t ha
    have e2 : keyZ z = true := keyZ_t (by omega)
    rw [e2]
    have HA : Hid (∀ w, Calls Try.prog 34 #[.int .u8 z] w fun e w' => e = .returned (.bool true) ∧ w' = w) := fun w => by have := isAlpha_any z w; rw [e1] at this; exact this
    clear e1 e2 ha
    go_enter Try.func31, Try.ntmps31
    go_wp2_with (go_at_call 34; refine (HA.out _).mono ?_; rintro e w' ⟨rfl, rfl⟩)
    go_ret
    exact ⟨rfl, rfl⟩
  · have e1 := alphaZ_f ha
    have HA : Hid (∀ w, Calls Try.prog 34 #[.int .u8 z] w fun e w' => e = .returned (.bool false) ∧ w' = w) := fun w => by have := isAlpha_any z w; rw [e1] at this; exact this
    have HK : Hid (¬ ((97 ≤ z ∧ z ≤ 122) ∨ (65 ≤ z ∧ z ≤ 90))) := ha
    clear e1 ha
    rcases (show z < 45 ∨ (z < 46 ∧ 44 < z) ∨ (45 < z ∧ z < 48) ∨ (48 ≤ z ∧ z ≤ 57) ∨ 57 < z from by omega) with h | h | h | h | h
    all_goals
      go_enter Try.func31, Try.ntmps31
      go_wp2_with (go_at_call 34; refine (HA.out _).mono ?_; rintro e w' ⟨rfl, rfl⟩)
      go_ret
      have hk := HK.out
      exact ⟨ret_bool (by first | (rw [keyZ_t (by omega)]; try (simp; omega)) | (rw [keyZ_f (by omega)]; try (simp; omega))), rfl⟩

theorem lowZ_t {z : Int} (h : 65 ≤ z ∧ z ≤ 90) : lowZ z = z + 32 := if_pos h
theorem lowZ_f {z : Int} (h : ¬ (65 ≤ z ∧ z ≤ 90)) : lowZ z = z := if_neg h

theorem toLower_any (z : Int) (w : World) (hz : 0 ≤ z ∧ z ≤ 255) : Calls Try.prog 32 #[.int .u8 z] w fun e w' => e = .returned (.int .u8 (lowZ z)) ∧ w' = w := by
  rcases (show z < 65 ∨ (65 ≤ z ∧ z ≤ 90) ∨ 90 < z from by omega) with h | h | h
  all_goals
    go_enter Try.func32, Try.ntmps32
    go_wp2
    go_ret
    exact ⟨ret_int (by first | (rw [lowZ_t (by omega)]; omega) | (rw [lowZ_f (by omega)])), rfl⟩

theorem lowerByte_any (z : Int) (w : World) (hz : 0 ≤ z ∧ z ≤ 255) : Calls Try.prog 23 #[.int .u8 z] w fun e w' => e = .returned (.int .u8 (lowZ z)) ∧ w' = w := by
  rcases (show z < 65 ∨ (65 ≤ z ∧ z ≤ 90) ∨ 90 < z from by omega) with h | h | h
  all_goals
    go_enter Try.func23, Try.ntmps23
    go_wp2
    go_ret
    exact ⟨ret_int (by first | (rw [lowZ_t (by omega)]) | (rw [lowZ_f (by omega)])), rfl⟩

theorem keyByte_any (z : Int) (w : World) : Calls Try.prog 17 #[.int .u8 z] w fun e w' => e = .returned (.bool (keyZ z)) ∧ w' = w := by
  rcases (show z < 45 ∨ (z < 46 ∧ 44 < z) ∨ (45 < z ∧ z < 48) ∨ (48 ≤ z ∧ z ≤ 57) ∨ (57 < z ∧ z < 65) ∨ (65 ≤ z ∧ z ≤ 90) ∨ (90 < z ∧ z < 97) ∨ (97 ≤ z ∧ z ≤ 122) ∨ 122 < z from by omega) with h | h | h | h | h | h | h | h | h
  all_goals
    go_enter Try.func17, Try.ntmps17
    go_wp2
    go_ret
    exact ⟨ret_bool (by first | (rw [keyZ_t (by omega)]; try (simp; omega)) | (rw [keyZ_f (by omega)]; try (simp; omega))), rfl⟩

/-- The same of a byte. -/
def lowB (c : UInt8) : UInt8 := if 65 ≤ c.toNat ∧ c.toNat ≤ 90 then UInt8.ofNat (c.toNat + 32) else c
theorem lowB_z (c : UInt8) : (lowB c).toNat = lowZ (c.toNat : Int) := by
  unfold lowB lowZ
  by_cases h : 65 ≤ c.toNat ∧ c.toNat ≤ 90
  · rw [if_pos h, if_pos (by omega), UInt8.toNat_ofNat']
    omega
  · rw [if_neg h, if_neg (by omega)]

end Go.Proofs.Qxb6601523a
