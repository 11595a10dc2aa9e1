import Derived.Test.Qxb6601523aUnits
import Derived.Test.Qxb6601523aValue
namespace Go.Proofs.Qxb6601523a
open Go.RowKit

/-- Two calls at the end of the data. -/
theorem peek_no {w : World} {rb : Nat} {dv : Value} {ds : List UInt8} {p : Nat} (h : Rd w rb dv ds p) (hn : ds.length ≤ 4294967296) (hp : ds.length ≤ p) :
    Calls Try.prog 29 #[.pointer (some ⟨rb, 0, none⟩)] w fun e w' => e = .returned (.tuple #[.int .u8 0, .bool false]) ∧ w.grownBy w' (some rb) ∧ Rd w' rb dv ds p := by
  have := peek_rd h hn
  have hC : peekC ds p = 0 := by unfold peekC; rw [List.getElem?_eq_none (by omega : ds.length ≤ p)]; simp
  rw [decide_eq_false (by omega), hC] at this
  exact this.mono fun _ _ ⟨a, b, c, _⟩ => ⟨a, b, c⟩

theorem isBl_t {c : UInt8} (h : isBl c = true) : c = 32 ∨ c = 9 := by simpa [isBl] using h
theorem isBl_f {c : UInt8} (h : isBl c = false) : c ≠ 32 ∧ c ≠ 9 := by simpa [isBl] using h

set_option maxRecDepth 20000 in
set_option maxHeartbeats 2000000 in
theorem skip_any {w : World} {rb : Nat} {dv : Value} {ds : List UInt8} {p : Nat} (h : Rd w rb dv ds p) (hn : ds.length ≤ 4294967296) (us : List (UInt8 × Nat)) (hu : IsU ds p us) :
    Calls Try.prog 33 #[.pointer (some ⟨rb, 0, none⟩)] w fun e w' => e = .returned (.tuple #[]) ∧ w.grownBy w' (some rb) ∧ Rd w' rb dv ds (dropBl us p).2 := by
  obtain ⟨R, hR⟩ : ∃ R, (dropBl us p).2 = R := ⟨_, rfl⟩
  rw [hR]
  have HP : Hid (∃ us, IsU ds p us ∧ (dropBl us p).2 = R) := ⟨us, hu, hR⟩
  clear hu hR us
  have HPK : Hid (∀ w1, Rd w1 rb dv ds p → Calls Try.prog 29 #[.pointer (some ⟨rb, 0, none⟩)] w1 fun e w' => e = .returned (.tuple #[.int .u8 ((peekC ds p).toNat : Int), .bool (decide (p < ds.length))]) ∧ w1.grownBy w' (some rb) ∧ Rd w' rb dv ds p) := fun w1 h1 => (peek_rd h1 hn).mono fun _ _ ⟨a, b, c, _⟩ => ⟨a, b, c⟩
  have V := VI.start h
  go_enter Try.func33, Try.ntmps33
  go_wp2_with fail
  refine (HPK.out _ h).mono ?_
  rintro e w1 ⟨rfl, hg1, hr1⟩
  have V1 := V.moved hg1 hr1
  clear hg1 hr1 V HPK
  go_wp2
  go_loopw [2] (fun c wr => ∃ p, c = .int .u8 ((peekC ds p).toNat : Int) ∧ VI w wr rb dv ds p (.slice none 0 0) [] ∧ ∃ us, IsU ds p us ∧ (dropBl us p).2 = R) (fun _ wr => ds.length - posOf wr rb)
  case atStart => exact ⟨p, rfl, V1, HP⟩
  case round =>
    clear V1 HP
    obtain ⟨p, rfl, V, us, hu, hR⟩ := hrel
    have HM : Hid (ds.length - posOf wr rb = ds.length - p) := by show _ = _; rw [V.rd.pos]
    cases us with
    | nil =>
      have hC : peekC ds p = 0 := by unfold peekC; rw [List.getElem?_eq_none (by have : ds.length ≤ p := hu; omega : ds.length ≤ p)]; simp
      rw [hC]
      have HR : Hid (p = R) := hR
      clear hC hR hu
      go_wp2
      go_end0
      exact ⟨rfl, V.gr, HR.out ▸ V.rd⟩
    | cons cq us =>
      obtain ⟨c, q⟩ := cq
      obtain ⟨hlt, hC, hN, hu'⟩ := hu
      rw [hC]
      by_cases hb : isBl c = true
      · unfold dropBl at hR
        rw [if_pos hb] at hR
        have HP : Hid (∃ us, IsU ds q us ∧ (dropBl us q).2 = R) := ⟨us, hu', hR⟩
        have HC : Hid (peekC ds p = c) := hC
        have HN : Hid (nextP ds p = q) := hN
        have HQ : Hid (p < q) := by show p < q; rw [← hN]; exact nextP_gt hlt
        have HPK : Hid (∀ w1, Rd w1 rb dv ds q → Calls Try.prog 29 #[.pointer (some ⟨rb, 0, none⟩)] w1 fun e w' => e = .returned (.tuple #[.int .u8 ((peekC ds q).toNat : Int), .bool (decide (q < ds.length))]) ∧ w1.grownBy w' (some rb) ∧ Rd w' rb dv ds q) := fun w1 h1 => (peek_rd h1 hn).mono fun _ _ ⟨a, b, c, _⟩ => ⟨a, b, c⟩
        clear hR hu' hC hN
        rcases isBl_t hb with rfl | rfl
        all_goals
          clear hb
          go_wp2_with fail
          refine (next_at V.rd hn _ (by rw [HC.out]) hlt _ HN.out).mono ?_
          rintro e w3 ⟨rfl, hg3, hr3⟩
          have V3 := V.moved hg3 hr3
          clear hg3 hr3 V
          go_wp2_with fail
          refine (HPK.out _ V3.rd).mono ?_
          rintro e w4 ⟨rfl, hg4, hr4⟩
          have V4 := V3.moved hg4 hr4
          clear hg4 hr4 V3 HPK
          go_wp2
          go_roundw
          case rel => exact ⟨q, rfl, V4, HP.out⟩
          case measure =>
            have h1 := HM.out
            have h2 := HQ.out
            rw [V4.rd.pos, h1]; omega
      · have hb' : isBl c = false := by simpa using hb
        have t32 : ((c.toNat : Int) == 32) = false := u8_ne' (isBl_f hb').1 rfl
        have t9 : ((c.toNat : Int) == 9) = false := u8_ne' (isBl_f hb').2 rfl
        unfold dropBl at hR
        rw [if_neg hb] at hR
        have HR : Hid (p = R) := hR
        clear hb hb' hR hu' hC hN
        go_wp2
        go_end0
        exact ⟨rfl, V.gr, HR.out ▸ V.rd⟩

end Go.Proofs.Qxb6601523a
