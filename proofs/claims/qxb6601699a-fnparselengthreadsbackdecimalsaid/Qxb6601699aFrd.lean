import Derived.Test.Qxb6601699aDec
namespace Go.Proofs.Qxb6601699a
open Go.RowKit

theorem parse_call {w : World} {B : Nat} {v : Value} {l : List UInt8} {x : Int} {b : Bool} (h : OwnB w B v l) (hl : l.length ≤ 4294967296) (hp : parse l = (x, b)) :
    Calls Try.prog 11 #[v] w fun e w' => e = .returned (.tuple #[.int .i64 x, .bool b]) ∧ w = w' := by
  have := zzparse_any h hl
  rw [hp] at this
  exact this

set_option maxRecDepth 20000 in
set_option maxHeartbeats 2000000 in
theorem frd_core (n : Int) (T : Nat → List UInt8) (L s : Nat) (hs : (n < 0 ∧ s = 1) ∨ (0 ≤ n ∧ s = 0)) (hn1 : -999999999999999999 ≤ n) (hn2 : n ≤ 999999999999999999) (hT : ∀ z, (T z).length = z + L + s) (hL1 : 1 ≤ L) (hL2 : L ≤ 18)
    (HD : ∀ (z : Nat) (w : World), z ≤ 20 → Calls Try.prog 12 #[.int .i64 n, .int .i64 (z : Int)] w fun e w' => ∃ v, e = .returned v ∧ OwnB w' w.heap.size v (T z) ∧ Below w.heap.size w w')
    (p0 : parse (T 0) = (n, true)) (p1 : parse (T (18 - L)) = (n, true)) (p2 : parse (T (19 - L)) = (0, false)) (w : World) :
    Calls Try.prog 4 #[.int .i64 n] w fun e w' => e = .returned (.bool true) ∧ Below w.heap.size w w' := by
  have D0 : Hid (∀ w : World, Calls Try.prog 12 #[.int .i64 n, .int .i64 0] w fun e w' => ∃ v, e = .returned v ∧ OwnB w' w.heap.size v (T 0) ∧ Below w.heap.size w w') := fun w => HD 0 w (by omega)
  have D1 : Hid (∀ w : World, Calls Try.prog 12 #[.int .i64 n, .int .i64 (18 - (L : Int))] w fun e w' => ∃ v, e = .returned v ∧ OwnB w' w.heap.size v (T (18 - L)) ∧ Below w.heap.size w w') := fun w => by
    have e : (18 - (L : Int)) = ((18 - L : Nat) : Int) := by omega
    rw [e]
    exact HD _ w (by omega)
  have D2 : Hid (∀ w : World, Calls Try.prog 12 #[.int .i64 n, .int .i64 (19 - (L : Int))] w fun e w' => ∃ v, e = .returned v ∧ OwnB w' w.heap.size v (T (19 - L)) ∧ Below w.heap.size w w') := fun w => by
    have e : (19 - (L : Int)) = ((19 - L : Nat) : Int) := by omega
    rw [e]
    exact HD _ w (by omega)
  have P0 : Hid (∀ (w : World) (B : Nat) (v : Value), OwnB w B v (T 0) → Calls Try.prog 11 #[v] w fun e w' => e = .returned (.tuple #[.int .i64 n, .bool true]) ∧ w = w') := fun w B v h => parse_call h (by rw [hT]; omega) p0
  have P1 : Hid (∀ (w : World) (B : Nat) (v : Value), OwnB w B v (T (18 - L)) → Calls Try.prog 11 #[v] w fun e w' => e = .returned (.tuple #[.int .i64 n, .bool true]) ∧ w = w') := fun w B v h => parse_call h (by rw [hT]; omega) p1
  have P2 : Hid (∀ (w : World) (B : Nat) (v : Value), OwnB w B v (T (19 - L)) → Calls Try.prog 11 #[v] w fun e w' => e = .returned (.tuple #[.int .i64 0, .bool false]) ∧ w = w') := fun w B v h => parse_call h (by rw [hT]; omega) p2
  have HL0 : Hid ((T 0).length = L + s) := by show _ = _; rw [hT]; omega
  clear p0 p1 p2 HD hT
  rcases hs with ⟨hneg, rfl⟩ | ⟨hpos, rfl⟩
  all_goals
    go_enter Try.func4, Try.ntmps4
    go_wp2_with fail
    refine (D0.out _).mono ?_
    rintro e w1 ⟨v1, rfl, hO1, hb1⟩
    obtain ⟨ao, cap, hv1, _⟩ := hO1.slice
    rw [HL0.out] at hv1
    have Q0 := P0.out _ _ _ hO1
    subst hv1
    clear hO1 D0 P0 HL0
    go_wp2_with fail
    refine Q0.mono ?_
    rintro e w2 ⟨rfl, rfl⟩
    clear Q0
    go_wp2_with fail
    refine (D1.out _).mono ?_
    rintro e w2 ⟨v2, rfl, hO2, hb2⟩
    go_wp2_with fail
    refine (P1.out _ _ _ hO2).mono ?_
    rintro e w3 ⟨rfl, rfl⟩
    clear hO2 D1 P1
    go_wp2_with fail
    refine (D2.out _).mono ?_
    rintro e w3 ⟨v3, rfl, hO3, hb3⟩
    go_wp2_with fail
    refine (P2.out _ _ _ hO3).mono ?_
    rintro e w4 ⟨rfl, rfl⟩
    clear hO3 D2 P2
    go_wp2
    go_ret
    have s1 := hb1.size
    have s2 := hb2.size
    exact ⟨rfl, (hb1.trans (bLower hb2 s1)).trans (bLower hb3 (by omega))⟩

theorem frd_out (n : Int) (h : n < -999999999999999999 ∨ (-999999999999999999 ≤ n ∧ 999999999999999999 < n)) (w : World) :
    Calls Try.prog 4 #[.int .i64 n] w fun e w' => e = .returned (.bool true) ∧ Below w.heap.size w w' := by
  rcases h with h | ⟨h, h'⟩
  all_goals
    go_enter Try.func4, Try.ntmps4
    go_wp2
    go_ret
    exact ⟨rfl, Below.refl _ _⟩

theorem frd_walk (n : Int) (w : World) : Calls Try.prog 4 #[.int .i64 n] w fun e w' => e = .returned (.bool true) ∧ Below w.heap.size w w' := by
  by_cases h1 : n < -999999999999999999
  · exact frd_out n (.inl h1) w
  · by_cases h2 : 999999999999999999 < n
    · exact frd_out n (.inr ⟨by omega, h2⟩) w
    · by_cases h3 : n < 0
      · obtain ⟨m, hm⟩ : ∃ m : Nat, n = - (m : Int) := ⟨(-n).toNat, by omega⟩
        have hmb : m < 1000000000000000000 := by omega
        obtain ⟨s1, s2, s3, s4⟩ := digs_spec hmb
        refine frd_core n (fun z => text true z m) (digs m).length 1 (.inl ⟨h3, rfl⟩) (by omega) (by omega) (fun z => by simp [text]) s3 s4 (fun z w hz => ?_) ?_ ?_ ?_ w
        · rw [hm]; exact dec_neg m z w hmb hz (by omega)
        · rw [parse_ok hmb (by omega), hm]; rfl
        · rw [parse_ok hmb (by omega), hm]; rfl
        · exact parse_no hmb (by omega)
      · obtain ⟨m, hm⟩ : ∃ m : Nat, n = (m : Int) := ⟨n.toNat, by omega⟩
        have hmb : m < 1000000000000000000 := by omega
        obtain ⟨s1, s2, s3, s4⟩ := digs_spec hmb
        refine frd_core n (fun z => text false z m) (digs m).length 0 (.inr ⟨by omega, rfl⟩) (by omega) (by omega) (fun z => by simp [text]) s3 s4 (fun z w hz => ?_) ?_ ?_ ?_ w
        · rw [hm]; exact dec_pos m z w hmb hz
        · rw [parse_ok hmb (by omega), hm]; rfl
        · rw [parse_ok hmb (by omega), hm]; rfl
        · exact parse_no hmb (by omega)

end Go.Proofs.Qxb6601699a
