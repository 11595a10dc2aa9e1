import Derived.Test.Qxb6601633aProg
import Derived.Test.Qxb6601633aPlain
import Derived.WalkSpells
import Derived.WalkLawsBesides
namespace Go.Proofs.Qxb6601633a
open Go.RowKit

theorem ret_bool {a b : Bool} (h : a = b) : Ending.returned (.bool a) = .returned (.bool b) := by rw [h]
theorem ret_int {k : IntKind} {a b : Int} (h : a = b) : Ending.returned (.int k a) = .returned (.int k b) := by rw [h]
theorem hexDZ_t {z : Int} (h : (48 ≤ z ∧ z ≤ 57) ∨ (97 ≤ z ∧ z ≤ 102) ∨ (65 ≤ z ∧ z ≤ 70)) : hexDZ z = true := decide_eq_true h
theorem hexDZ_f {z : Int} (h : ¬ ((48 ≤ z ∧ z ≤ 57) ∨ (97 ≤ z ∧ z ≤ 102) ∨ (65 ≤ z ∧ z ≤ 70))) : hexDZ z = false := decide_eq_false h
theorem upHZ_t {z : Int} (h : (48 ≤ z ∧ z ≤ 57) ∨ (65 ≤ z ∧ z ≤ 70)) : upHZ z = true := decide_eq_true h
theorem upHZ_f {z : Int} (h : ¬ ((48 ≤ z ∧ z ≤ 57) ∨ (65 ≤ z ∧ z ≤ 70))) : upHZ z = false := decide_eq_false h
theorem unrZ_t {z : Int} (h : (97 ≤ z ∧ z ≤ 122) ∨ (65 ≤ z ∧ z ≤ 90) ∨ (48 ≤ z ∧ z ≤ 57) ∨ z = 45 ∨ z = 46 ∨ z = 95 ∨ z = 126) : unrZ z = true := decide_eq_true h
theorem unrZ_f {z : Int} (h : ¬ ((97 ≤ z ∧ z ≤ 122) ∨ (65 ≤ z ∧ z ≤ 90) ∨ (48 ≤ z ∧ z ≤ 57) ∨ z = 45 ∨ z = 46 ∨ z = 95 ∨ z = 126)) : unrZ z = false := decide_eq_false h

theorem isHex_any (z : Int) (w : World) : Calls Try.prog 31 #[.int .u8 z] w fun e w' => e = .returned (.bool (hexDZ z)) ∧ w = w' := by
  rcases (show z < 48 ∨ (48 ≤ z ∧ z ≤ 57) ∨ (57 < z ∧ z < 65) ∨ (65 ≤ z ∧ z ≤ 70) ∨ (70 < z ∧ z < 97) ∨ (97 ≤ z ∧ z ≤ 102) ∨ 102 < z from by omega) with h | h | h | h | h | h | h
  all_goals
    go_enter Try.func31, Try.ntmps31
    go_wp2
    go_ret
    exact ⟨ret_bool (by first | (rw [hexDZ_t (by omega)]; try (simp; omega)) | (rw [hexDZ_f (by omega)]; try (simp; omega))), rfl⟩

theorem b1Hex_any (z : Int) (w : World) : Calls Try.prog 24 #[.int .u8 z] w fun e w' => e = .returned (.bool (hexDZ z)) ∧ w = w' := by
  rcases (show z < 48 ∨ (48 ≤ z ∧ z ≤ 57) ∨ (57 < z ∧ z < 65) ∨ (65 ≤ z ∧ z ≤ 70) ∨ (70 < z ∧ z < 97) ∨ (97 ≤ z ∧ z ≤ 102) ∨ 102 < z from by omega) with h | h | h | h | h | h | h
  all_goals
    go_enter Try.func24, Try.ntmps24
    go_wp2
    go_ret
    exact ⟨ret_bool (by first | (rw [hexDZ_t (by omega)]; try (simp; omega)) | (rw [hexDZ_f (by omega)]; try (simp; omega))), rfl⟩

theorem upHex_any (z : Int) (w : World) : Calls Try.prog 21 #[.int .u8 z] w fun e w' => e = .returned (.bool (upHZ z)) ∧ w = w' := by
  rcases (show z < 48 ∨ (48 ≤ z ∧ z ≤ 57) ∨ (57 < z ∧ z < 65) ∨ (65 ≤ z ∧ z ≤ 70) ∨ 70 < z from by omega) with h | h | h | h | h
  all_goals
    go_enter Try.func21, Try.ntmps21
    go_wp2
    go_ret
    exact ⟨ret_bool (by first | (rw [upHZ_t (by omega)]; try (simp; omega)) | (rw [upHZ_f (by omega)]; try (simp; omega))), rfl⟩

theorem hexVal_any (z : Int) (w : World) (hz : 0 ≤ z ∧ z ≤ 255) : Calls Try.prog 22 #[.int .u8 z] w fun e w' => e = .returned (.int .u8 (hexVZ z)) ∧ w = w' := by
  rcases (show z < 48 ∨ (48 ≤ z ∧ z ≤ 57) ∨ (57 < z ∧ z < 65) ∨ (65 ≤ z ∧ z ≤ 70) ∨ (70 < z ∧ z < 97) ∨ (97 ≤ z ∧ z ≤ 102) ∨ 102 < z from by omega) with h | h | h | h | h | h | h
  all_goals
    go_enter Try.func22, Try.ntmps22
    go_wp2
    go_ret
    exact ⟨ret_int (by unfold hexVZ; first | (rw [if_pos (by omega)]; done) | (rw [if_neg (by omega), if_pos (by omega)]; omega) | (rw [if_neg (by omega), if_neg (by omega), if_pos (by omega)]; omega) | (rw [if_neg (by omega), if_neg (by omega), if_neg (by omega)])), rfl⟩

theorem hexValue_any (z : Int) (w : World) (hz : hexDZ z = true) : Calls Try.prog 32 #[.int .u8 z] w fun e w' => e = .returned (.int .u8 (hexVZ z)) ∧ w = w' := by
  have h1 := of_decide_eq_true hz
  clear hz
  rcases h1 with h | h | h
  all_goals
    go_enter Try.func32, Try.ntmps32
    go_wp2
    go_ret
    exact ⟨ret_int (by unfold hexVZ; first | (rw [if_pos (by omega)]; done) | (rw [if_neg (by omega), if_pos (by omega)]; omega) | (rw [if_neg (by omega), if_neg (by omega), if_pos (by omega)]; omega)), rfl⟩

set_option maxHeartbeats 1600000 in
theorem isUnr_any (z : Int) (w : World) : Calls Try.prog 33 #[.int .u8 z] w fun e w' => e = .returned (.bool (unrZ z)) ∧ w = w' := by
  rcases (show z < 45 ∨ (z < 46 ∧ 44 < z) ∨ (z < 47 ∧ 45 < z) ∨ (46 < z ∧ z < 48) ∨ (48 ≤ z ∧ z ≤ 57) ∨ (57 < z ∧ z < 65) ∨ (65 ≤ z ∧ z ≤ 90) ∨ (90 < z ∧ z < 95) ∨ (94 < z ∧ z < 96) ∨ (95 < z ∧ z < 97) ∨ (97 ≤ z ∧ z ≤ 122) ∨ (122 < z ∧ z < 126) ∨ (125 < z ∧ z < 127) ∨ 126 < z from by omega) with h | h | h | h | h | h | h | h | h | h | h | h | h | h
  all_goals
    go_enter Try.func33, Try.ntmps33
    go_wp2
    go_ret
    exact ⟨ret_bool (by first | (rw [unrZ_t (by omega)]; try (simp; omega)) | (rw [unrZ_f (by omega)]; try (simp; omega))), rfl⟩

set_option maxHeartbeats 1600000 in
theorem b1Unr_any (z : Int) (w : World) : Calls Try.prog 23 #[.int .u8 z] w fun e w' => e = .returned (.bool (unrZ z)) ∧ w = w' := by
  rcases (show z < 45 ∨ (z < 46 ∧ 44 < z) ∨ (z < 47 ∧ 45 < z) ∨ (46 < z ∧ z < 48) ∨ (48 ≤ z ∧ z ≤ 57) ∨ (57 < z ∧ z < 65) ∨ (65 ≤ z ∧ z ≤ 90) ∨ (90 < z ∧ z < 95) ∨ (94 < z ∧ z < 96) ∨ (95 < z ∧ z < 97) ∨ (97 ≤ z ∧ z ≤ 122) ∨ (122 < z ∧ z < 126) ∨ (125 < z ∧ z < 127) ∨ 126 < z from by omega) with h | h | h | h | h | h | h | h | h | h | h | h | h | h
  all_goals
    go_enter Try.func23, Try.ntmps23
    go_wp2
    go_ret
    exact ⟨ret_bool (by first | (rw [unrZ_t (by omega)]; try (simp; omega)) | (rw [unrZ_f (by omega)]; try (simp; omega))), rfl⟩

end Go.Proofs.Qxb6601633a
