import Derived.Test.Qxb6601633aPlain
import Derived.Test.Qxb6601633aBytes
import Derived.Test.Qxb6601633aWrite
import Derived.Deep.RegionWith
namespace Go.Proofs.Qxb6601633a.Can
open Go.RowKit

theorem u8_ne' {b k : UInt8} {n : Int} (h : b ≠ k) (e : (k.toNat : Int) = n) : ((b.toNat : Int) == n) = false := by
  subst e
  simp only [beq_eq_false_iff_ne, ne_eq, Int.natCast_inj]
  intro e
  exact h (UInt8.toNat_inj.1 e)
theorem size_list (s : ByteArray) : s.data.toList.length = s.size := by rw [Array.length_toList]; rfl
theorem drop_at (s : ByteArray) (k : Nat) (h : k < s.size) : s.data.toList.drop k = s[k] :: s.data.toList.drop (k + 1) := by
  rw [List.drop_eq_getElem_cons (by rw [size_list]; exact h)]
  rfl
theorem up_at {z : Int} {b : Bool} (h : upHZ z = b) (w : World) : Calls Try.prog 21 #[.int .u8 z] w fun e w' => e = .returned (.bool b) ∧ w = w' := h ▸ upHex_any z w
theorem unr_at {z : Int} {b : Bool} (h : unrZ z = b) (w : World) : Calls Try.prog 23 #[.int .u8 z] w fun e w' => e = .returned (.bool b) ∧ w = w' := h ▸ b1Unr_any z w
theorem val_q (c : UInt8) (w : World) : Calls Try.prog 22 #[.int .u8 (c.toNat : Int)] w fun e w' => e = .returned (.int .u8 (hexVZ (Z c))) ∧ w = w' := hexVal_any _ w (Z_le c)
theorem wrap8 {x y : Int} (hx : 0 ≤ x ∧ x ≤ 15) (hy : 0 ≤ y ∧ y ≤ 15) : IntKind.u8.wrap (x * 16 + y) = x * 16 + y := by
  simp [IntKind.wrap, IntKind.bits, IntKind.signed]; omega

set_option maxRecDepth 20000 in
set_option maxHeartbeats 4000000 in
theorem canon_any (s : ByteArray) (w : World) (hs : s.size ≤ 4194304) :
    Calls Try.prog 14 #[.string s] w fun e w' => e = .returned (.bool (canon s.data.toList)) ∧ Below w.heap.size w w' := by
  go_enter Try.func14, Try.ntmps14
  go_wp2
  go_loopw [3] (fun i wr => ∃ (k : Nat), k ≤ s.size ∧ i = .int .i64 (k : Int) ∧ Below w.heap.size w wr ∧ canon s.data.toList = canon (s.data.toList.drop k)) (fun i _ => s.size - (intOf i).toNat)
  case atStart => exact ⟨0, Nat.zero_le _, rfl, Below.refl _ _, rfl⟩
  case round =>
    obtain ⟨k, hk, rfl, hl, hn⟩ := hrel
    have HN : Hid (canon s.data.toList = canon (s.data.toList.drop k)) := hn
    clear hn
    have hsz := size_list s
    by_cases hlt : k < s.size
    · have HDK : Hid (s.data.toList.drop k = s[k] :: s.data.toList.drop (k + 1)) := drop_at s k hlt
      by_cases h37 : s[k] = 37
      · have t37 : ((s[k].toNat : Int) == 37) = true := by rw [h37]; rfl
        by_cases hk2 : k + 2 < s.size
        · have HDK1 : Hid (s.data.toList.drop (k + 1) = s[k + 1] :: s.data.toList.drop (k + 2)) := drop_at s (k + 1) (by omega)
          have HDK2 : Hid (s.data.toList.drop (k + 2) = s[k + 2] :: s.data.toList.drop (k + 3)) := drop_at s (k + 2) hk2
          have hki : (k : Int) + 2 < (s.size : Int) := by omega
          have HC : Hid (canon s.data.toList = (upHZ (Z s[k + 1]) && upHZ (Z s[k + 2]) && !unrZ (Z (val s[k + 1] s[k + 2])) && canon (s.data.toList.drop (k + 3)))) := by show _ = _; rw [HN.out, HDK.out, HDK1.out, HDK2.out, h37, canon_tri]
          clear HN HDK HDK1 HDK2 h37
          cases hxa : upHZ (Z s[k + 1]) with
          | false =>
            have HF : Hid (canon s.data.toList = false) := by show _ = _; rw [HC.out, hxa]; rfl
            clear HC
            have HXA : Hid (∀ w, Calls Try.prog 21 #[.int .u8 (s[k + 1].toNat : Int)] w fun e w' => e = .returned (.bool false) ∧ w = w') := fun w => up_at hxa w
            clear hxa
            go_wp2_with fail
            refine (HXA.out _).mono ?_
            rintro e w' ⟨rfl, rfl⟩
            clear HXA
            go_wp2
            go_ret
            exact ⟨ret_bool HF.out.symm, hl⟩
          | true =>
            have HXA : Hid (∀ w, Calls Try.prog 21 #[.int .u8 (s[k + 1].toNat : Int)] w fun e w' => e = .returned (.bool true) ∧ w = w') := fun w => up_at hxa w
            cases hxb : upHZ (Z s[k + 2]) with
            | false =>
              have HF : Hid (canon s.data.toList = false) := by show _ = _; rw [HC.out, hxa, hxb]; rfl
              clear HC
              have HXB : Hid (∀ w, Calls Try.prog 21 #[.int .u8 (s[k + 2].toNat : Int)] w fun e w' => e = .returned (.bool false) ∧ w = w') := fun w => up_at hxb w
              clear hxa hxb
              go_wp2_with fail
              refine (HXA.out _).mono ?_
              rintro e w' ⟨rfl, rfl⟩
              go_wp2_with fail
              refine (HXB.out _).mono ?_
              rintro e w' ⟨rfl, rfl⟩
              clear HXA HXB
              go_wp2
              go_ret
              exact ⟨ret_bool HF.out.symm, hl⟩
            | true =>
              have HC2 : Hid (canon s.data.toList = (!unrZ (Z (val s[k + 1] s[k + 2])) && canon (s.data.toList.drop (k + 3)))) := by show _ = _; rw [HC.out, hxa, hxb]; rfl
              clear HC
              have HXB : Hid (∀ w, Calls Try.prog 21 #[.int .u8 (s[k + 2].toNat : Int)] w fun e w' => e = .returned (.bool true) ∧ w = w') := fun w => up_at hxb w
              clear hxa hxb
              have ba := hexVZ_le (z := Z s[k + 1])
              have bb := hexVZ_le (z := Z s[k + 2])
              have HV : Hid (Z (val s[k + 1] s[k + 2]) = hexVZ (Z s[k + 1]) * 16 + hexVZ (Z s[k + 2])) := Z_val _ _
              go_wp2_with fail
              refine (HXA.out _).mono ?_
              rintro e w' ⟨rfl, rfl⟩
              go_wp2_with fail
              refine (HXB.out _).mono ?_
              rintro e w' ⟨rfl, rfl⟩
              clear HXA HXB
              have q01 : (0 : Int) ≤ (k : Int) + 1 := by omega
              have q11 : (k : Int) + 1 < (s.size : Int) := by omega
              have q02 : (0 : Int) ≤ (k : Int) + 2 := by omega
              have q12 : (k : Int) + 2 < (s.size : Int) := by omega
              have ew1 : IntKind.i64.wrap ((k : Int) + 1) = (k : Int) + 1 := IntWalk.i64_in _ ⟨by omega, by omega⟩
              have ew2 : IntKind.i64.wrap ((k : Int) + 2) = (k : Int) + 2 := IntWalk.i64_in _ ⟨by omega, by omega⟩
              have q21 : ((k : Int) + 1).toNat = k + 1 := by omega
              have q22 : ((k : Int) + 2).toNat = k + 2 := by omega
              go_wp2
              go_region_with (go_at_call 22; refine (val_q _ _).mono ?_; rintro e w' ⟨rfl, rfl⟩)
              all_goals go_wp2_with fail
              all_goals
                have hld := hl.drew
                obtain ⟨wd, hwd⟩ : ∃ wd, wd = wr.drew := ⟨_, rfl⟩
                rw [← hwd] at hld ⊢
                clear hwd hl
                have HB : Hid (hexVZ (Z s[k + 1]) * 16 + hexVZ (Z s[k + 2]) = ((val s[k + 1] s[k + 2]).toNat : Int)) := by show _ = _; rw [← HV.out]; rfl
                obtain ⟨v, hv⟩ : ∃ v, v = val s[k + 1] s[k + 2] := ⟨_, rfl⟩
                rw [← hv] at HC2 HB
                rw [HB.out]
                clear hv HB HV ba bb
                cases hu : unrZ (Z v) with
                | true =>
                  have HF : Hid (canon s.data.toList = false) := by show _ = _; rw [HC2.out, hu]; rfl
                  clear HC2
                  refine (unr_at hu _).mono ?_
                  clear hu
                  rintro e w' ⟨rfl, rfl⟩
                  go_wp2
                  go_ret
                  exact ⟨ret_bool HF.out.symm, hld⟩
                | false =>
                  have HF : Hid (canon s.data.toList = canon (s.data.toList.drop (k + 3))) := by show _ = _; rw [HC2.out, hu]; rfl
                  clear HC2
                  refine (unr_at hu _).mono ?_
                  clear hu
                  rintro e w' ⟨rfl, rfl⟩
                  go_wp2
                  go_roundw
                  case rel => exact ⟨k + 3, by omega, by go_num, hld, HF.out⟩
                  case measure => simp [intOf]; omega
        · have HF : Hid (canon s.data.toList = false) := by
            show _ = _
            rw [HN.out, HDK.out, h37]
            exact canon_short (by simp only [List.length_drop]; omega)
          have hki : ¬ ((k : Int) + 2 < (s.size : Int)) := by omega
          clear HN HDK h37
          go_wp2
          go_ret
          exact ⟨ret_bool HF.out.symm, hl⟩
      · have t37 : ((s[k].toNat : Int) == 37) = false := u8_ne' h37 rfl
        have HC : Hid (canon s.data.toList = (!escZ (Z s[k]) && canon (s.data.toList.drop (k + 1)))) := by show _ = _; rw [HN.out, HDK.out, canon_one h37]
        clear HN HDK
        rcases (show (s[k].toNat : Int) ≤ 32 ∨ (32 < (s[k].toNat : Int) ∧ 127 ≤ (s[k].toNat : Int)) ∨ (32 < (s[k].toNat : Int) ∧ (s[k].toNat : Int) < 127) from by omega) with hz | hz | hz
        · have HF : Hid (canon s.data.toList = false) := by
            show _ = _
            rw [HC.out, show escZ (Z s[k]) = true from decide_eq_true (.inl hz)]; rfl
          clear HC h37
          go_wp2
          go_ret
          exact ⟨ret_bool HF.out.symm, hl⟩
        · have HF : Hid (canon s.data.toList = false) := by
            show _ = _
            rw [HC.out, show escZ (Z s[k]) = true from decide_eq_true (.inr (.inl hz.2))]; rfl
          clear HC h37
          go_wp2
          go_ret
          exact ⟨ret_bool HF.out.symm, hl⟩
        · have HF : Hid (canon s.data.toList = canon (s.data.toList.drop (k + 1))) := by
            show _ = _
            rw [HC.out, show escZ (Z s[k]) = false from by
              apply decide_eq_false
              intro h
              have h3 : Z s[k] ≠ 37 := fun e => h37 (Z_inj (by rw [e]; rfl))
              rw [Z_def] at h h3
              omega]
            rfl
          clear HC h37
          go_wp2
          go_roundw
          case rel => exact ⟨k + 1, by omega, by go_num, hl, HF.out⟩
          case measure => simp [intOf]; omega
    · have HF : Hid (canon s.data.toList = true) := by
        show _ = _
        rw [HN.out, List.drop_eq_nil_of_le (by omega)]; rfl
      clear HN
      go_wp2
      go_ret
      exact ⟨ret_bool HF.out.symm, hl⟩

end Go.Proofs.Qxb6601633a.Can
