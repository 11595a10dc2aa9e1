import Derived.Test.Qxb6601523aLaws
namespace Go.Proofs.Qxb6601523a
open Go.RowKit

/-- One byte of a value, as git writes it between quotes. -/
def qb (c : UInt8) : List UInt8 :=
  if c = 34 then [92, 34] else if c = 92 then [92, 92] else if c = 10 then [92, 110] else if c = 9 then [92, 116] else if c = 8 then [92, 98] else [c]
def Q (s : List UInt8) : List UInt8 := s.flatMap qb
theorem qb_len (c : UInt8) : (qb c).length ≤ 2 := by unfold qb; repeat (split <;> try simp)
theorem Q_len (s : List UInt8) : (Q s).length ≤ 2 * s.length := by
  induction s with
  | nil => simp [Q]
  | cons c s ih => have := qb_len c; simp only [Q, List.flatMap_cons, List.length_append, List.length_cons] at ih ⊢; omega
theorem Q_snoc (s : List UInt8) (c : UInt8) : Q (s ++ [c]) = Q s ++ qb c := by simp [Q]
theorem take_snoc (s : ByteArray) (k : Nat) (h : k < s.size) : s.data.toList.take (k + 1) = s.data.toList.take k ++ [s[k]] := by
  rw [List.take_succ_eq_append_getElem (by simpa using h)]; rfl

theorem u8_ne' {b k : UInt8} {n : Int} (h : b ≠ k) (e : (k.toNat : Int) = n) : ((b.toNat : Int) == n) = false := by
  subst e
  simp only [beq_eq_false_iff_ne, ne_eq, Int.natCast_inj]
  intro e
  exact h (UInt8.toNat_inj.1 e)

set_option maxHeartbeats 2000000 in
theorem quote_any (base : Nat) (v : Value) (xs : List UInt8) (s : ByteArray) (w : World) (hs : s.size ≤ 1048576) (hx : xs.length ≤ 1048576)
    (hown : OwnB w base v xs) (hb : base ≤ w.heap.size) :
    Calls Try.prog 10 #[v, .string s] w fun e w' => ∃ v', e = .returned v' ∧ OwnB w' base v' (xs ++ Q s.data.toList) ∧ Below base w w' ∧ base ≤ w'.heap.size := by
  obtain ⟨i0, hi, hz0, hz1, hz2⟩ := info_parts info5
  go_enter Try.func10, Try.ntmps10
  go_wp2
  go_loopw [0, 5] (fun v i wr => ∃ k : Nat, k ≤ s.size ∧ i = .int .i64 k ∧ OwnB wr base v (xs ++ Q (s.data.toList.take k)) ∧ Below base w wr ∧ base ≤ wr.heap.size) (fun _ i _ => s.size - (intOf i).toNat)
  case atStart => exact ⟨0, Nat.zero_le _, rfl, by simpa [Q] using hown, Below.refl _ _, hb⟩
  case round =>
    obtain ⟨k, hk, rfl, hown, hbl, hbs⟩ := hrel
    by_cases hlt : k < s.size
    · have HT : Hid (s.data.toList.take (k + 1) = s.data.toList.take k ++ [s[k]]) := take_snoc s k hlt
      have HL : Hid ((xs ++ Q (s.data.toList.take (k + 1))).length ≤ 1099511627776) := by
        have h1 := Q_len (s.data.toList.take (k + 1))
        have h2 : (s.data.toList.take (k + 1)).length ≤ k + 1 := List.length_take_le _ _
        show (xs ++ Q (s.data.toList.take (k + 1))).length ≤ 1099511627776
        rw [List.length_append]; omega
      by_cases c34 : s[k] = 34
      · have t34 : ((s[k].toNat : Int) == 34) = true := by rw [c34]; rfl
        have HQ : Hid (xs ++ Q (s.data.toList.take (k + 1)) = xs ++ Q (s.data.toList.take k) ++ [92, 34]) := by show _ = _; rw [HT.out, Q_snoc, ← List.append_assoc]; rw [show qb s[k] = [92, 34] from by unfold qb; rw [if_pos c34]]
        go_wp2_with (at_builtin; refine wpList_append_b rfl _ _ rfl base _ _ rfl (hown.alloc _) [92, 34] (src2 92 34 rfl rfl) _ HQ.out HL.out ?q1a ?q1b)
        case q1a => simp; omega
        intro v' w1 hown' hg _
        have hbl' := below_grown (hbl.alloc hbs _) (hown.alloc _) hg (by simp; omega)
        have hbs' : base ≤ w1.heap.size := by have := hg.size; simp at this; omega
        clear hg hown hbl
        go_wp2
        go_roundw
        case rel => exact ⟨k + 1, by omega, by go_num, hown', hbl', hbs'⟩
        case measure => simp [intOf]; omega
      · by_cases c92 : s[k] = 92
        · have t34 : ((s[k].toNat : Int) == 34) = false := u8_ne' c34 rfl
          have t92 : ((s[k].toNat : Int) == 92) = true := by rw [c92]; rfl
          have HQ : Hid (xs ++ Q (s.data.toList.take (k + 1)) = xs ++ Q (s.data.toList.take k) ++ [92, 92]) := by show _ = _; rw [HT.out, Q_snoc, ← List.append_assoc]; rw [show qb s[k] = [92, 92] from by unfold qb; rw [if_neg c34]; rw [if_pos c92]]
          go_wp2_with (at_builtin; refine wpList_append_b rfl _ _ rfl base _ _ rfl (hown.alloc _) [92, 92] (src2 92 92 rfl rfl) _ HQ.out HL.out ?q2a ?q2b)
          case q2a => simp; omega
          intro v' w1 hown' hg _
          have hbl' := below_grown (hbl.alloc hbs _) (hown.alloc _) hg (by simp; omega)
          have hbs' : base ≤ w1.heap.size := by have := hg.size; simp at this; omega
          clear hg hown hbl
          go_wp2
          go_roundw
          case rel => exact ⟨k + 1, by omega, by go_num, hown', hbl', hbs'⟩
          case measure => simp [intOf]; omega
        · by_cases c10 : s[k] = 10
          · have t34 : ((s[k].toNat : Int) == 34) = false := u8_ne' c34 rfl
            have t92 : ((s[k].toNat : Int) == 92) = false := u8_ne' c92 rfl
            have t10 : ((s[k].toNat : Int) == 10) = true := by rw [c10]; rfl
            have HQ : Hid (xs ++ Q (s.data.toList.take (k + 1)) = xs ++ Q (s.data.toList.take k) ++ [92, 110]) := by show _ = _; rw [HT.out, Q_snoc, ← List.append_assoc]; rw [show qb s[k] = [92, 110] from by unfold qb; rw [if_neg c34]; rw [if_neg c92]; rw [if_pos c10]]
            go_wp2_with (at_builtin; refine wpList_append_b rfl _ _ rfl base _ _ rfl (hown.alloc _) [92, 110] (src2 92 110 rfl rfl) _ HQ.out HL.out ?q3a ?q3b)
            case q3a => simp; omega
            intro v' w1 hown' hg _
            have hbl' := below_grown (hbl.alloc hbs _) (hown.alloc _) hg (by simp; omega)
            have hbs' : base ≤ w1.heap.size := by have := hg.size; simp at this; omega
            clear hg hown hbl
            go_wp2
            go_roundw
            case rel => exact ⟨k + 1, by omega, by go_num, hown', hbl', hbs'⟩
            case measure => simp [intOf]; omega
          · by_cases c9 : s[k] = 9
            · have t34 : ((s[k].toNat : Int) == 34) = false := u8_ne' c34 rfl
              have t92 : ((s[k].toNat : Int) == 92) = false := u8_ne' c92 rfl
              have t10 : ((s[k].toNat : Int) == 10) = false := u8_ne' c10 rfl
              have t9 : ((s[k].toNat : Int) == 9) = true := by rw [c9]; rfl
              have HQ : Hid (xs ++ Q (s.data.toList.take (k + 1)) = xs ++ Q (s.data.toList.take k) ++ [92, 116]) := by show _ = _; rw [HT.out, Q_snoc, ← List.append_assoc]; rw [show qb s[k] = [92, 116] from by unfold qb; rw [if_neg c34]; rw [if_neg c92]; rw [if_neg c10]; rw [if_pos c9]]
              go_wp2_with (at_builtin; refine wpList_append_b rfl _ _ rfl base _ _ rfl (hown.alloc _) [92, 116] (src2 92 116 rfl rfl) _ HQ.out HL.out ?q4a ?q4b)
              case q4a => simp; omega
              intro v' w1 hown' hg _
              have hbl' := below_grown (hbl.alloc hbs _) (hown.alloc _) hg (by simp; omega)
              have hbs' : base ≤ w1.heap.size := by have := hg.size; simp at this; omega
              clear hg hown hbl
              go_wp2
              go_roundw
              case rel => exact ⟨k + 1, by omega, by go_num, hown', hbl', hbs'⟩
              case measure => simp [intOf]; omega
            · by_cases c8 : s[k] = 8
              · have t34 : ((s[k].toNat : Int) == 34) = false := u8_ne' c34 rfl
                have t92 : ((s[k].toNat : Int) == 92) = false := u8_ne' c92 rfl
                have t10 : ((s[k].toNat : Int) == 10) = false := u8_ne' c10 rfl
                have t9 : ((s[k].toNat : Int) == 9) = false := u8_ne' c9 rfl
                have t8 : ((s[k].toNat : Int) == 8) = true := by rw [c8]; rfl
                have HQ : Hid (xs ++ Q (s.data.toList.take (k + 1)) = xs ++ Q (s.data.toList.take k) ++ [92, 98]) := by show _ = _; rw [HT.out, Q_snoc, ← List.append_assoc]; rw [show qb s[k] = [92, 98] from by unfold qb; rw [if_neg c34]; rw [if_neg c92]; rw [if_neg c10]; rw [if_neg c9]; rw [if_pos c8]]
                go_wp2_with (at_builtin; refine wpList_append_b rfl _ _ rfl base _ _ rfl (hown.alloc _) [92, 98] (src2 92 98 rfl rfl) _ HQ.out HL.out ?q5a ?q5b)
                case q5a => simp; omega
                intro v' w1 hown' hg _
                have hbl' := below_grown (hbl.alloc hbs _) (hown.alloc _) hg (by simp; omega)
                have hbs' : base ≤ w1.heap.size := by have := hg.size; simp at this; omega
                clear hg hown hbl
                go_wp2
                go_roundw
                case rel => exact ⟨k + 1, by omega, by go_num, hown', hbl', hbs'⟩
                case measure => simp [intOf]; omega
              · have t34 : ((s[k].toNat : Int) == 34) = false := u8_ne' c34 rfl
                have t92 : ((s[k].toNat : Int) == 92) = false := u8_ne' c92 rfl
                have t10 : ((s[k].toNat : Int) == 10) = false := u8_ne' c10 rfl
                have t9 : ((s[k].toNat : Int) == 9) = false := u8_ne' c9 rfl
                have t8 : ((s[k].toNat : Int) == 8) = false := u8_ne' c8 rfl
                have HQ : Hid (xs ++ Q (s.data.toList.take (k + 1)) = xs ++ Q (s.data.toList.take k) ++ [s[k]]) := by show _ = _; rw [HT.out, Q_snoc, ← List.append_assoc]; rw [show qb s[k] = [s[k]] from by unfold qb; rw [if_neg c34]; rw [if_neg c92]; rw [if_neg c10]; rw [if_neg c9]; rw [if_neg c8]]
                go_wp2_with (at_builtin; refine wpList_append_b rfl _ _ rfl base _ _ rfl (hown.alloc _) [s[k]] (src1 s[k] rfl rfl) _ HQ.out HL.out ?q6a ?q6b)
                case q6a => simp; omega
                intro v' w1 hown' hg _
                have hbl' := below_grown (hbl.alloc hbs _) (hown.alloc _) hg (by simp; omega)
                have hbs' : base ≤ w1.heap.size := by have := hg.size; simp at this; omega
                clear hg hown hbl
                go_wp2
                go_roundw
                case rel => exact ⟨k + 1, by omega, by go_num, hown', hbl', hbs'⟩
                case measure => simp [intOf]; omega
    · go_wp2
      go_ret
      have e : s.data.toList.take k = s.data.toList := List.take_of_length_le (by simp; omega)
      rw [e] at hown
      exact ⟨_, rfl, hown, hbl, hbs⟩

end Go.Proofs.Qxb6601523a
