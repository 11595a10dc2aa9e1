import Derived.Test.Qxb6601633aFix
import Derived.Test.Qxb6601633aDec
import Derived.Test.Qxb6601633aBeq
namespace Go.Proofs.Qxb6601633a
open Go.RowKit

theorem zzb12 (s : ByteArray) (w : World) (hs : s.size ≤ maxLen) :
    Calls Try.prog 12 #[.string s] w fun e w' => (∃ r, e = .returned (.bool r)) ∧ w = w' := by
  unfold maxLen at hs
  go_enter Try.func12, Try.ntmps12
  go_wp2
  all_goals go_ret
  all_goals exact ⟨⟨_, rfl⟩, rfl⟩

theorem dec_len : ∀ (n : Nat) (s : List UInt8), s.length ≤ n → (dec s).length ≤ s.length
  | 0, s, h => by
    obtain rfl : s = [] := List.eq_nil_of_length_eq_zero (by omega)
    simp [dec]
  | n + 1, [], _ => by simp [dec]
  | n + 1, c :: r, h => by
    simp only [List.length_cons] at h
    rcases tri_or c r with ⟨a, b, r', rfl, rfl, ha, hb⟩ | hn
    · rw [dec_tri ha hb]
      simp only [List.length_cons] at h ⊢
      have := dec_len n r' (by omega)
      omega
    · rw [dec_one hn]
      simp only [List.length_cons]
      have := dec_len n r (by omega)
      omega

set_option maxHeartbeats 1000000 in
theorem kept_walk (s : ByteArray) (w0 : s.size ≤ maxLen) (w : World) :
    Calls Try.prog 5 #[.string s] w fun e w' => e = .returned (.bool true) ∧ Below w.heap.size w w' := by
  by_cases hl : s.size ≤ 1048576
  · obtain ⟨o, ho⟩ : ∃ o, o = N s := ⟨_, rfl⟩
    have hol : o.size ≤ 3 * s.size := by rw [ho]; exact N_size s
    obtain ⟨d, hd⟩ : ∃ d, d = dec s.data.toList := ⟨_, rfl⟩
    have hdl : d.length ≤ 4294967296 := by
      have h1 := dec_len _ s.data.toList (Nat.le_refl _)
      rw [size_list] at h1
      rw [hd]; omega
    have HZ : Hid (∀ w, Calls Try.prog 13 #[.string s] w fun e w' => e = .returned (.string o) ∧ Below w.heap.size w w') := fun w => by rw [ho]; exact zz_N s w (by omega)
    have HC : Hid (∀ w, Calls Try.prog 14 #[.string o] w fun e w' => e = .returned (.bool true) ∧ Below w.heap.size w w') := fun w => by
      have h := Can.canon_any o w (by omega)
      have e : canon o.data.toList = true := by rw [ho, N_list]; exact canon_norm _ _ (Nat.le_refl _)
      rw [e] at h
      exact h
    have HD1 : Hid (∀ w, Calls Try.prog 16 #[.string o] w fun e w' => ∃ v, e = .returned v ∧ BI w w' v d) := fun w => by
      have h := Dec.dec_any o w (by omega)
      have e : dec o.data.toList = d := by rw [ho, N_list, hd]; exact dec_norm _ _ (Nat.le_refl _)
      rw [e] at h
      exact h
    have HD2 : Hid (∀ w, Calls Try.prog 16 #[.string s] w fun e w' => ∃ v, e = .returned v ∧ BI w w' v d) := fun w => by
      rw [hd]; exact Dec.dec_any s w (by omega)
    have hoi : (o.size : Int) ≤ 3 * (s.size : Int) := by omega
    clear ho hd
    go_enter Try.func5, Try.ntmps5
    go_wp2_with fail
    refine (zzb12 _ _ w0).mono ?_
    rintro e w1 ⟨⟨r, rfl⟩, rfl⟩
    cases r with
    | false =>
      go_wp2
      go_ret
      exact ⟨rfl, Below.refl _ _⟩
    | true =>
      go_wp2_with fail
      refine (HZ.out _).mono ?_
      rintro e w1 ⟨rfl, hb1⟩
      go_wp2_with fail
      refine (HC.out _).mono ?_
      rintro e w2 ⟨rfl, hb2⟩
      go_wp2_with fail
      refine (HD1.out _).mono ?_
      rintro e w3 ⟨v1, rfl, B1⟩
      go_wp2_with fail
      refine (HD2.out _).mono ?_
      rintro e w4 ⟨v2, rfl, B2⟩
      go_wp2_with fail
      refine (beq_any (B1.own.below B2.bel) B2.own hdl).mono ?_
      rintro e w5 ⟨rfl, hb5⟩
      go_wp2
      go_ret
      have s1 := hb1.size
      have s2 := hb2.size
      have s3 := B1.bel.size
      have s4 := B2.bel.size
      exact ⟨rfl, (((hb1.trans (bLower hb2 s1)).trans (bLower B1.bel (by omega))).trans (bLower B2.bel (by omega))).trans (bLower hb5 (by omega))⟩
  · go_enter Try.func5, Try.ntmps5
    go_wp2_with fail
    refine (zzb12 _ _ w0).mono ?_
    rintro e w1 ⟨⟨r, rfl⟩, rfl⟩
    unfold maxLen at w0
    cases r with
    | false =>
      go_wp2
      go_ret
      exact ⟨rfl, Below.refl _ _⟩
    | true =>
      go_wp2
      go_ret
      exact ⟨rfl, Below.refl _ _⟩

end Go.Proofs.Qxb6601633a
