import Derived.Test.Qxb6601633aNorm
import Derived.Test.Qxb6601633aCanon
import Derived.Laws.Strings
import Derived.WideShapes
namespace Go.Proofs.Qxb6601633a
open Go.RowKit

theorem zz_any (s : ByteArray) (w : World) (hs : s.size ≤ 4194304) :
    Calls Try.prog 13 #[.string s] w fun e w' => e = .returned (.string ⟨(norm s.data.toList).toArray⟩) ∧ Below w.heap.size w w' := by
  go_enter Try.func13, Try.ntmps13
  go_wp2_with fail
  refine (norm_any s _ hs).mono ?_
  rintro e w1 ⟨rfl, hb⟩
  go_wp2
  go_ret
  exact ⟨rfl, hb⟩

theorem zzb17 (s : ByteArray) (w : World) (hs : s.size ≤ maxLen) :
    Calls Try.prog 17 #[.string s] w fun e w' => (∃ r, e = .returned (.bool r)) ∧ w = w' := by
  unfold maxLen at hs
  go_enter Try.func17, Try.ntmps17
  go_wp2
  all_goals go_ret
  all_goals exact ⟨⟨_, rfl⟩, rfl⟩

def N (s : ByteArray) : ByteArray := ⟨(norm s.data.toList).toArray⟩
theorem N_list (s : ByteArray) : (N s).data.toList = norm s.data.toList := by unfold N; simp
theorem N_idem (s : ByteArray) : N (N s) = N s := by show (⟨(norm (N s).data.toList).toArray⟩ : ByteArray) = _; rw [N_list, norm_idem]; rfl
theorem N_fix (s : ByteArray) : N s = s ↔ canon s.data.toList = true := by
  rw [← norm_fix]
  constructor
  · intro h; have := N_list s; rw [h] at this; exact this.symm
  · intro h; show (⟨(norm s.data.toList).toArray⟩ : ByteArray) = s; rw [h]
theorem N_size (s : ByteArray) : (N s).size ≤ 3 * s.size := by
  have h := norm_len _ s.data.toList (Nat.le_refl _)
  rw [size_list] at h
  have h2 := size_list (N s)
  rw [N_list] at h2
  omega
theorem zz_N (s : ByteArray) (w : World) (hs : s.size ≤ 4194304) : Calls Try.prog 13 #[.string s] w fun e w' => e = .returned (.string (N s)) ∧ Below w.heap.size w w' := zz_any s w hs
theorem bLower {B C : Nat} {a b : World} (h : Below B a b) (hc : C ≤ B) : Below C a b := ⟨h.os, h.tape, h.output, h.size, fun k hk => h.block k (by omega)⟩

set_option maxHeartbeats 1000000 in
theorem fix_walk (s : ByteArray) (w0 : s.size ≤ maxLen) (w : World) :
    Calls Try.prog 6 #[.string s] w fun e w' => e = .returned (.bool true) ∧ Below w.heap.size w w' := by
  by_cases hl : s.size ≤ 1048576
  · obtain ⟨o, ho⟩ : ∃ o, o = N s := ⟨_, rfl⟩
    have HZ : Hid (∀ w, Calls Try.prog 13 #[.string s] w fun e w' => e = .returned (.string o) ∧ Below w.heap.size w w') := fun w => by rw [ho]; exact zz_N s w (by omega)
    have HZ2 : Hid (∀ w, Calls Try.prog 13 #[.string o] w fun e w' => e = .returned (.string o) ∧ Below w.heap.size w w') := fun w => by
      have h := zz_N o w (by have := N_size s; rw [ho]; omega)
      have e : N o = o := by rw [ho, N_idem]
      rw [e] at h
      exact h
    cases hc : canon s.data.toList with
    | true =>
      have HC : Hid (∀ w, Calls Try.prog 14 #[.string s] w fun e w' => e = .returned (.bool true) ∧ Below w.heap.size w w') := fun w => by have h := Can.canon_any s w (by omega); rw [hc] at h; exact h
      have he : o = s := by rw [ho]; exact (N_fix s).2 hc
      clear ho hc
      subst he
      go_enter Try.func6, Try.ntmps6
      go_wp2_with fail
      refine (zzb17 _ _ w0).mono ?_
      rintro e w1 ⟨⟨r, rfl⟩, rfl⟩
      cases r with
      | false =>
        go_wp2
        go_ret
        exact ⟨rfl, Below.refl _ _⟩
      | true =>
        go_wp2_with fail
        refine (HZ.out _).mono ?_
        rintro e w1 ⟨rfl, hb1⟩
        go_wp2_with fail
        refine (HC.out _).mono ?_
        rintro e w2 ⟨rfl, hb2⟩
        go_wp2_with fail
        refine (HZ2.out _).mono ?_
        rintro e w3 ⟨rfl, hb3⟩
        go_wp2
        go_ret
        exact ⟨rfl, (hb1.trans (bLower hb2 hb1.size)).trans (bLower hb3 (Nat.le_trans hb1.size hb2.size))⟩
    | false =>
      have HC : Hid (∀ w, Calls Try.prog 14 #[.string s] w fun e w' => e = .returned (.bool false) ∧ Below w.heap.size w w') := fun w => by have h := Can.canon_any s w (by omega); rw [hc] at h; exact h
      have he : ¬ (o = s) := by
        rw [ho]; intro h
        have := (N_fix s).1 h
        rw [hc] at this; cases this
      have he2 : (o.toList == s.toList) = false := by
        rw [ByteArray.toList_eq, ByteArray.toList_eq, beq_eq_false_iff_ne]
        exact fun h => he (WideShapes.bytes_inj h)
      clear ho hc
      go_enter Try.func6, Try.ntmps6
      go_wp2_with fail
      refine (zzb17 _ _ w0).mono ?_
      rintro e w1 ⟨⟨r, rfl⟩, rfl⟩
      cases r with
      | false =>
        go_wp2
        go_ret
        exact ⟨rfl, Below.refl _ _⟩
      | true =>
        go_wp2_with fail
        refine (HZ.out _).mono ?_
        rintro e w1 ⟨rfl, hb1⟩
        go_wp2_with fail
        refine (HC.out _).mono ?_
        rintro e w2 ⟨rfl, hb2⟩
        go_wp2_with fail
        refine (HZ2.out _).mono ?_
        rintro e w3 ⟨rfl, hb3⟩
        go_wp2
        go_ret
        exact ⟨rfl, (hb1.trans (bLower hb2 hb1.size)).trans (bLower hb3 (Nat.le_trans hb1.size hb2.size))⟩
  · go_enter Try.func6, Try.ntmps6
    go_wp2_with fail
    refine (zzb17 _ _ w0).mono ?_
    rintro e w1 ⟨⟨r, rfl⟩, rfl⟩
    unfold maxLen at w0
    cases r with
    | false =>
      go_wp2
      go_ret
      exact ⟨rfl, Below.refl _ _⟩
    | true =>
      go_wp2
      go_ret
      exact ⟨rfl, Below.refl _ _⟩

end Go.Proofs.Qxb6601633a
