import Derived.Test.Qxb6601523aNext
import Derived.Test.Qxb6601523aBase
namespace Go.Proofs.Qxb6601523a
open Go.RowKit

theorem u8_ne {b : UInt8} {k : UInt8} (h : b ≠ k) : ((b.toNat : Int) == (k.toNat : Int)) = false := by
  simp only [beq_eq_false_iff_ne, ne_eq, Int.natCast_inj]
  intro e
  exact h (UInt8.toNat_inj.1 e)

theorem peek_any {w : World} {rb : Nat} {dv : Value} {ds : List UInt8} {p : Nat} (h : Rd w rb dv ds p) (hn : ds.length ≤ 4294967296) :
    Calls Try.prog 29 #[.pointer (some ⟨rb, 0, none⟩)] w fun e w' => e = .returned (.tuple #[.int .u8 ((peekC ds p).toNat : Int), .bool (decide (p < ds.length))]) ∧ ∃ m, w' = w.drewN m := by
  by_cases hp : p < ds.length
  · rcases h.shape with ⟨_, rfl⟩ | ⟨g, cap, rfl⟩
    · simp at hp
    · have e1 : ds[p]? = some ds[p] := List.getElem?_eq_getElem hp
      have hc := h.cellAt p _ e1
      rw [decide_eq_true hp]
      by_cases h13 : ds[p] = 13
      · by_cases hp1 : p + 1 < ds.length
        · have e2 : ds[p + 1]? = some ds[p + 1] := List.getElem?_eq_getElem hp1
          have hd := h.cellAt (p + 1) _ e2
          by_cases h10 : ds[p + 1] = 10
          · have hpk : peekC ds p = 10 := by unfold peekC; rw [if_pos ⟨by rw [e1, h13], by rw [e2, h10]⟩]
            rw [hpk]
            exact peek_crlf rb g ds.length cap p _ _ w h.cell0 h.cell1 hp1 hn hc (by rw [h13]; rfl) hd (by rw [h10]; rfl)
          · have hpk : peekC ds p = ds[p] := by unfold peekC; rw [if_neg (by rw [e2]; intro hh; exact h10 (Option.some.inj hh.2)), e1]; rfl
            rw [hpk]
            exact peek_cr rb g ds.length cap p _ _ w h.cell0 h.cell1 hp1 hn hc (by rw [h13]; rfl) hd (u8_ne h10)
        · have hpk : peekC ds p = ds[p] := by unfold peekC; rw [if_neg (by rw [List.getElem?_eq_none (by omega : ds.length ≤ p + 1)]; simp), e1]; rfl
          rw [hpk]
          exact peek_last rb g ds.length cap p _ w h.cell0 h.cell1 (by omega) hn hc (by rw [h13]; rfl)
      · have hpk : peekC ds p = ds[p] := by unfold peekC; rw [if_neg (by rw [e1]; intro hh; exact h13 (Option.some.inj hh.1)), e1]; rfl
        rw [hpk]
        exact peek_plain rb g ds.length cap p _ w h.cell0 h.cell1 hp hc (u8_ne h13)
  · have hpk : peekC ds p = 0 := by unfold peekC; rw [List.getElem?_eq_none (by omega : ds.length ≤ p)]; simp
    rw [decide_eq_false hp, hpk]
    rcases h.shape with ⟨rfl, rfl⟩ | ⟨g, cap, rfl⟩
    · exact peek_end rb none 0 0 p w h.cell0 h.cell1 (Nat.zero_le _)
    · exact peek_end rb _ _ cap p w h.cell0 h.cell1 (by omega)

/-- 'peek' by what its caller wants: the reader stands where it stood. -/
theorem peek_rd {w : World} {rb : Nat} {dv : Value} {ds : List UInt8} {p : Nat} (h : Rd w rb dv ds p) (hn : ds.length ≤ 4294967296) :
    Calls Try.prog 29 #[.pointer (some ⟨rb, 0, none⟩)] w fun e w' => e = .returned (.tuple #[.int .u8 ((peekC ds p).toNat : Int), .bool (decide (p < ds.length))]) ∧ w.grownBy w' (some rb) ∧ Rd w' rb dv ds p ∧ w'.heap.size = w.heap.size :=
  (peek_any h hn).mono fun _ _ ⟨he, m, hm⟩ => by subst hm; exact ⟨he, grown_drewN _ _ _, h.drewN m, rfl⟩

theorem next_rd {w : World} {rb : Nat} {dv : Value} {ds : List UInt8} {p : Nat} (h : Rd w rb dv ds p) (hn : ds.length ≤ 4294967296) :
    Calls Try.prog 30 #[.pointer (some ⟨rb, 0, none⟩)] w fun e w' => e = .returned (.tuple #[.int .u8 ((peekC ds p).toNat : Int), .bool (decide (p < ds.length))]) ∧ w.grownBy w' (some rb) ∧ Rd w' rb dv ds (nextP ds p) ∧ w'.heap.size = w.heap.size := by
  have hpk : ∀ w1 : World, (∃ m, w1 = w.drewN m) → Calls Try.prog 29 #[.pointer (some ⟨rb, 0, none⟩)] w1 fun e w' => e = .returned (.tuple #[.int .u8 ((peekC ds p).toNat : Int), .bool (decide (p < ds.length))]) ∧ ∃ m, w' = w1.drewN m := by
    rintro w1 ⟨m, rfl⟩
    exact peek_any (h.drewN m) hn
  by_cases hp : p < ds.length
  · rcases h.shape with ⟨_, rfl⟩ | ⟨g, cap, rfl⟩
    · simp at hp
    · have e1 : ds[p]? = some ds[p] := List.getElem?_eq_getElem hp
      have hc := h.cellAt p _ e1
      rw [decide_eq_true hp] at hpk ⊢
      by_cases hcr : ds[p]? = some 13 ∧ ds[p + 1]? = some 10
      · have hC : peekC ds p = 10 := by unfold peekC; rw [if_pos hcr]
        have hN : nextP ds p = p + 2 := by unfold nextP; rw [if_pos hcr]
        have h13 : ds[p] = 13 := by have := hcr.1; rw [e1] at this; exact Option.some.inj this
        rw [hN]
        refine (next_crlf rb g ds.length cap p ((peekC ds p).toNat : Int) _ w h.cell0 h.cell1 h.free1 hp hn (by rw [hC]; rfl) hc (by rw [h13]; rfl) hpk).mono ?_
        rintro e w' ⟨he, m, rfl⟩
        refine ⟨he, ?_, ?_, by simp [World.drewN, World.setCell]⟩
        · exact grown_trans (grown_trans (grown_setCell w rb 1 _) (grown_setCell _ rb 1 _) (fun k hk => .inl hk)) (grown_drewN _ m (some rb)) (fun k hk => .inl hk)
        · have h2 := ((h.step (p + 1)).step (p + 2)).drewN m
          have ea : ((p + 1 : Nat) : Int) = (p : Int) + 1 := by omega
          have eb : ((p + 2 : Nat) : Int) = (p : Int) + 1 + 1 := by omega
          rw [ea, eb] at h2
          exact h2
      · have hN : nextP ds p = p + 1 := by unfold nextP; rw [if_neg hcr, if_pos hp]
        have hC : peekC ds p = ds[p] := by unfold peekC; rw [if_neg hcr, e1]; rfl
        rw [hN]
        have fin : ∀ (e : Ending) (w' : World), (e = .returned (.tuple #[.int .u8 ((peekC ds p).toNat : Int), .bool true]) ∧ ∃ m, w' = (w.setCell ⟨rb, 1, none⟩ (.int .i64 ((p : Int) + 1))).drewN m) →
            e = .returned (.tuple #[.int .u8 ((peekC ds p).toNat : Int), .bool true]) ∧ w.grownBy w' (some rb) ∧ Rd w' rb (.slice (some ⟨g, 0, none⟩) ds.length cap) ds (p + 1) ∧ w'.heap.size = w.heap.size := by
          rintro e w' ⟨he, m, rfl⟩
          refine ⟨he, ?_, ?_, by simp [World.drewN, World.setCell]⟩
          · exact grown_trans (grown_setCell w rb 1 _) (grown_drewN _ m (some rb)) (fun k hk => .inl hk)
          · have h2 := (h.step (p + 1)).drewN m
            have ea : ((p + 1 : Nat) : Int) = (p : Int) + 1 := by omega
            rw [ea] at h2
            exact h2
        by_cases h10 : ds[p] = 10
        · exact (next_lf rb g ds.length cap p ((peekC ds p).toNat : Int) _ w h.cell0 h.cell1 h.free1 hp hn (by rw [hC, h10]; rfl) hc (by rw [h10]; rfl) hpk).mono fin
        · exact (next_plain rb p ds.length ((peekC ds p).toNat : Int) w h.cell1 h.free1 hp hn (by rw [hC]; exact u8_ne h10) hpk).mono fin
  · have hC : peekC ds p = 0 := by unfold peekC; rw [List.getElem?_eq_none (by omega : ds.length ≤ p)]; simp
    have hN : nextP ds p = p := by unfold nextP; rw [List.getElem?_eq_none (by omega : ds.length ≤ p), if_neg (by simp), if_neg hp]
    rw [decide_eq_false hp, hC] at hpk ⊢
    rw [hN]
    exact (next_end rb w hpk).mono fun _ _ ⟨he, m, hm⟩ => by subst hm; exact ⟨he, grown_drewN _ _ _, h.drewN m, rfl⟩

end Go.Proofs.Qxb6601523a
