import Derived.Test.Qxb6601523aPeek
namespace Go.Proofs.Qxb6601523a
open Go.RowKit

set_option maxHeartbeats 400000 in
theorem next_end (rb : Nat) (w : World)
    (hpk : Hid (∀ w1 : World, (∃ m, w1 = w.drewN m) → Calls Try.prog 29 #[.pointer (some ⟨rb, 0, none⟩)] w1 fun e w' => e = .returned (.tuple #[.int .u8 0, .bool false]) ∧ ∃ m, w' = w1.drewN m)) :
    Calls Try.prog 30 #[.pointer (some ⟨rb, 0, none⟩)] w fun e w' => e = .returned (.tuple #[.int .u8 0, .bool false]) ∧ ∃ m, w' = w.drewN m := by
  go_enter Try.func30, Try.ntmps30
  go_wp2_with fail
  refine (hpk.out _ ⟨0, rfl⟩).mono ?_
  rintro e w' ⟨rfl, m, rfl⟩
  go_wp2
  go_quiet (fail)
  go_wp2
  go_ret2
  exact ⟨rfl, drews2 _ _ _⟩

set_option maxHeartbeats 400000 in
theorem next_plain (rb : Nat) (p n : Nat) (c : Int) (w : World) (h1 : w.cell? ⟨rb, 1, none⟩ = some (.int .i64 p)) (hf : w.frozen? ⟨rb, 1, none⟩ = false) (hp : p < n) (hn : n ≤ 4294967296)
    (h10 : (c == 10) = false)
    (hpk : Hid (∀ w1 : World, (∃ m, w1 = w.drewN m) → Calls Try.prog 29 #[.pointer (some ⟨rb, 0, none⟩)] w1 fun e w' => e = .returned (.tuple #[.int .u8 c, .bool true]) ∧ ∃ m, w' = w1.drewN m)) :
    Calls Try.prog 30 #[.pointer (some ⟨rb, 0, none⟩)] w fun e w' => e = .returned (.tuple #[.int .u8 c, .bool true]) ∧ ∃ m, w' = (w.setCell ⟨rb, 1, none⟩ (.int .i64 ((p : Int) + 1))).drewN m := by
  go_enter Try.func30, Try.ntmps30
  go_wp2_with fail
  refine (hpk.out _ ⟨0, rfl⟩).mono ?_
  rintro e w' ⟨rfl, m, rfl⟩
  go_wp2
  go_quiet (fail)
  go_wp2
  go_ret2
  exact ⟨rfl, _, rfl⟩

set_option maxHeartbeats 400000 in
theorem next_lf (rb g n cap : Nat) (p : Nat) (c d : Int) (w : World) (h0 : w.cell? ⟨rb, 0, none⟩ = some (.slice (some ⟨g, 0, none⟩) n cap)) (h1 : w.cell? ⟨rb, 1, none⟩ = some (.int .i64 p)) (hf : w.frozen? ⟨rb, 1, none⟩ = false) (hp : p < n) (hn : n ≤ 4294967296)
    (h10 : (c == 10) = true) (hd : w.cell? ⟨g, p, none⟩ = some (.int .u8 d)) (h13 : (d == 13) = false)
    (hpk : Hid (∀ w1 : World, (∃ m, w1 = w.drewN m) → Calls Try.prog 29 #[.pointer (some ⟨rb, 0, none⟩)] w1 fun e w' => e = .returned (.tuple #[.int .u8 c, .bool true]) ∧ ∃ m, w' = w1.drewN m)) :
    Calls Try.prog 30 #[.pointer (some ⟨rb, 0, none⟩)] w fun e w' => e = .returned (.tuple #[.int .u8 c, .bool true]) ∧ ∃ m, w' = (w.setCell ⟨rb, 1, none⟩ (.int .i64 ((p : Int) + 1))).drewN m := by
  have hi : (p : Int) < (n : Int) := by omega
  go_enter Try.func30, Try.ntmps30
  go_wp2_with fail
  refine (hpk.out _ ⟨0, rfl⟩).mono ?_
  rintro e w' ⟨rfl, m, rfl⟩
  go_wp2
  go_quiet (fail)
  go_wp2
  go_ret2
  exact ⟨rfl, _, rfl⟩

set_option maxHeartbeats 400000 in
theorem next_crlf (rb g n cap : Nat) (p : Nat) (c d : Int) (w : World) (h0 : w.cell? ⟨rb, 0, none⟩ = some (.slice (some ⟨g, 0, none⟩) n cap)) (h1 : w.cell? ⟨rb, 1, none⟩ = some (.int .i64 p)) (hf : w.frozen? ⟨rb, 1, none⟩ = false) (hp : p < n) (hn : n ≤ 4294967296)
    (h10 : (c == 10) = true) (hd : w.cell? ⟨g, p, none⟩ = some (.int .u8 d)) (h13 : (d == 13) = true)
    (hpk : Hid (∀ w1 : World, (∃ m, w1 = w.drewN m) → Calls Try.prog 29 #[.pointer (some ⟨rb, 0, none⟩)] w1 fun e w' => e = .returned (.tuple #[.int .u8 c, .bool true]) ∧ ∃ m, w' = w1.drewN m)) :
    Calls Try.prog 30 #[.pointer (some ⟨rb, 0, none⟩)] w fun e w' => e = .returned (.tuple #[.int .u8 c, .bool true]) ∧ ∃ m, w' = ((w.setCell ⟨rb, 1, none⟩ (.int .i64 ((p : Int) + 1))).setCell ⟨rb, 1, none⟩ (.int .i64 ((p : Int) + 1 + 1))).drewN m := by
  have hi : (p : Int) < (n : Int) := by omega
  go_enter Try.func30, Try.ntmps30
  go_wp2_with fail
  refine (hpk.out _ ⟨0, rfl⟩).mono ?_
  rintro e w' ⟨rfl, m, rfl⟩
  go_wp2
  go_quiet (fail)
  go_wp2
  go_outline
  go_ret2
  exact ⟨rfl, _, rfl⟩

end Go.Proofs.Qxb6601523a
