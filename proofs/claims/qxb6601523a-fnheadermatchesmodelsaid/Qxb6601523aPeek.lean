import Derived.Test.Qxb6601523aProg
import Derived.WalkKit
import Derived.WalkSpells
import Derived.WalkLawsBesides
import Derived.BigQuiet
namespace Go.Proofs.Qxb6601523a
open Go.RowKit

theorem drews (w : World) (a : Nat) : ∃ m, w.drewN a = w.drewN m := ⟨a, rfl⟩
theorem drews2 (w : World) (a b : Nat) : ∃ m, (w.drewN a).drewN b = w.drewN m := ⟨a + b, by rw [World.drewN_drewN]⟩
theorem drews3 (w : World) (a b c : Nat) : ∃ m, ((w.drewN a).drewN b).drewN c = w.drewN m := ⟨a + (b + c), by rw [World.drewN_drewN, World.drewN_drewN]⟩

set_option maxHeartbeats 400000 in
theorem peek_end (rb : Nat) (ao : Option Addr) (n cap : Nat) (p : Nat) (w : World)
    (h0 : w.cell? ⟨rb, 0, none⟩ = some (.slice ao n cap)) (h1 : w.cell? ⟨rb, 1, none⟩ = some (.int .i64 p)) (hp : n ≤ p) :
    Calls Try.prog 29 #[.pointer (some ⟨rb, 0, none⟩)] w fun e w' => e = .returned (.tuple #[.int .u8 0, .bool false]) ∧ ∃ m, w' = w.drewN m := by
  have hd : decide ((n : Int) ≤ (p : Int)) = true := by simpa using hp
  go_enter Try.func29, Try.ntmps29
  go_wp2
  go_quiet (fail)
  go_wp2
  go_ret2
  exact ⟨rfl, drews _ _⟩

set_option maxHeartbeats 400000 in
theorem peek_plain (rb g : Nat) (n cap : Nat) (p : Nat) (c : Int) (w : World)
    (h0 : w.cell? ⟨rb, 0, none⟩ = some (.slice (some ⟨g, 0, none⟩) n cap)) (h1 : w.cell? ⟨rb, 1, none⟩ = some (.int .i64 p)) (hp : p < n)
    (hc : w.cell? ⟨g, p, none⟩ = some (.int .u8 c)) (h13 : (c == 13) = false) :
    Calls Try.prog 29 #[.pointer (some ⟨rb, 0, none⟩)] w fun e w' => e = .returned (.tuple #[.int .u8 c, .bool true]) ∧ ∃ m, w' = w.drewN m := by
  have hd : decide ((n : Int) ≤ (p : Int)) = false := by simpa using hp
  have hi : (p : Int) < (n : Int) := by omega
  go_enter Try.func29, Try.ntmps29
  go_wp2
  go_quiet (fail)
  go_wp2
  go_quiet (fail)
  go_wp2
  go_quiet (fail)
  go_wp2
  go_ret2
  exact ⟨rfl, drews3 _ _ _ _⟩

set_option maxHeartbeats 400000 in
theorem peek_last (rb g : Nat) (n cap : Nat) (p : Nat) (c : Int) (w : World)
    (h0 : w.cell? ⟨rb, 0, none⟩ = some (.slice (some ⟨g, 0, none⟩) n cap)) (h1 : w.cell? ⟨rb, 1, none⟩ = some (.int .i64 p)) (hp : p + 1 = n) (hn : n ≤ 4294967296)
    (hc : w.cell? ⟨g, p, none⟩ = some (.int .u8 c)) (h13 : (c == 13) = true) :
    Calls Try.prog 29 #[.pointer (some ⟨rb, 0, none⟩)] w fun e w' => e = .returned (.tuple #[.int .u8 c, .bool true]) ∧ ∃ m, w' = w.drewN m := by
  have hd : decide ((n : Int) ≤ (p : Int)) = false := by simp; omega
  have hd2 : decide ((p : Int) + 1 < (n : Int)) = false := by simp; omega
  have hi : (p : Int) < (n : Int) := by omega
  have hi2 : (n : Int) ≤ 4294967296 := by omega
  clear hp hn
  go_enter Try.func29, Try.ntmps29
  go_wp2
  go_quiet (fail)
  go_wp2
  go_quiet (fail)
  go_wp2
  go_quiet (fail)
  go_wp2
  go_ret2
  exact ⟨rfl, drews3 _ _ _ _⟩

set_option maxHeartbeats 400000 in
theorem peek_cr (rb g : Nat) (n cap : Nat) (p : Nat) (c d : Int) (w : World)
    (h0 : w.cell? ⟨rb, 0, none⟩ = some (.slice (some ⟨g, 0, none⟩) n cap)) (h1 : w.cell? ⟨rb, 1, none⟩ = some (.int .i64 p)) (hp : p + 1 < n) (hn : n ≤ 4294967296)
    (hc : w.cell? ⟨g, p, none⟩ = some (.int .u8 c)) (h13 : (c == 13) = true) (hd' : w.cell? ⟨g, p + 1, none⟩ = some (.int .u8 d)) (h10 : (d == 10) = false) :
    Calls Try.prog 29 #[.pointer (some ⟨rb, 0, none⟩)] w fun e w' => e = .returned (.tuple #[.int .u8 c, .bool true]) ∧ ∃ m, w' = w.drewN m := by
  have hd : decide ((n : Int) ≤ (p : Int)) = false := by simp; omega
  have hd2 : decide ((p : Int) + 1 < (n : Int)) = true := by simp; omega
  have hi : (p : Int) < (n : Int) := by omega
  have hi3 : (p : Int) + 1 < (n : Int) := by omega
  have hi2 : (n : Int) ≤ 4294967296 := by omega
  clear hp hn
  go_enter Try.func29, Try.ntmps29
  go_wp2
  go_quiet (fail)
  go_wp2
  go_quiet (fail)
  go_wp2
  go_quiet (fail)
  go_wp2
  go_ret2
  exact ⟨rfl, drews3 _ _ _ _⟩

set_option maxHeartbeats 400000 in
theorem peek_crlf (rb g : Nat) (n cap : Nat) (p : Nat) (c d : Int) (w : World)
    (h0 : w.cell? ⟨rb, 0, none⟩ = some (.slice (some ⟨g, 0, none⟩) n cap)) (h1 : w.cell? ⟨rb, 1, none⟩ = some (.int .i64 p)) (hp : p + 1 < n) (hn : n ≤ 4294967296)
    (hc : w.cell? ⟨g, p, none⟩ = some (.int .u8 c)) (h13 : (c == 13) = true) (hd' : w.cell? ⟨g, p + 1, none⟩ = some (.int .u8 d)) (h10 : (d == 10) = true) :
    Calls Try.prog 29 #[.pointer (some ⟨rb, 0, none⟩)] w fun e w' => e = .returned (.tuple #[.int .u8 10, .bool true]) ∧ ∃ m, w' = w.drewN m := by
  have hd : decide ((n : Int) ≤ (p : Int)) = false := by simp; omega
  have hd2 : decide ((p : Int) + 1 < (n : Int)) = true := by simp; omega
  have hi : (p : Int) < (n : Int) := by omega
  have hi3 : (p : Int) + 1 < (n : Int) := by omega
  have hi2 : (n : Int) ≤ 4294967296 := by omega
  clear hp hn
  go_enter Try.func29, Try.ntmps29
  go_wp2
  go_quiet (fail)
  go_wp2
  go_quiet (fail)
  go_wp2
  go_ret2
  exact ⟨rfl, drews2 _ _ _⟩


end Go.Proofs.Qxb6601523a
