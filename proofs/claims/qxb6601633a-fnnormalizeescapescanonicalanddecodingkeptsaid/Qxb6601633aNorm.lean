import Derived.Test.Qxb6601633aWrite
import Derived.Test.Qxb6601633aBytes
import Derived.Deep.RegionWith
import Derived.Laws.BitsAllLaws
namespace Go.Proofs.Qxb6601633a
open Go.RowKit

theorem u8_ne' {b k : UInt8} {n : Int} (h : b ≠ k) (e : (k.toNat : Int) = n) : ((b.toNat : Int) == n) = false := by
  subst e
  simp only [beq_eq_false_iff_ne, ne_eq, Int.natCast_inj]
  intro e
  exact h (UInt8.toNat_inj.1 e)
theorem size_list (s : ByteArray) : s.data.toList.length = s.size := by rw [Array.length_toList]; rfl
theorem drop_at (s : ByteArray) (k : Nat) (h : k < s.size) : s.data.toList.drop k = s[k] :: s.data.toList.drop (k + 1) := by
  rw [List.drop_eq_getElem_cons (by rw [size_list]; exact h)]
  rfl
theorem Bd.drewN {B b : Nat} {acc : List UInt8} {w : World} (h : Bd B b acc w) (n : Nat) : Bd B b acc (w.drewN n) := ⟨h.at', h.le⟩

theorem hd_all : ∀ n : Fin 16, (({ data := #[48, 49, 50, 51, 52, 53, 54, 55, 56, 57, 65, 66, 67, 68, 69, 70] } : ByteArray)[n.val]'(Nat.lt_of_lt_of_eq n.isLt rfl)) = HEX (n.val : Int) := by decide
theorem hd_get (n : Nat) (h : n < ({ data := #[48, 49, 50, 51, 52, 53, 54, 55, 56, 57, 65, 66, 67, 68, 69, 70] } : ByteArray).size) : ({ data := #[48, 49, 50, 51, 52, 53, 54, 55, 56, 57, 65, 66, 67, 68, 69, 70] } : ByteArray)[n] = HEX (n : Int) :=
  hd_all ⟨n, h⟩
theorem hd_div (c : UInt8) (h : c.toNat / 16 < ({ data := #[48, 49, 50, 51, 52, 53, 54, 55, 56, 57, 65, 66, 67, 68, 69, 70] } : ByteArray).size) : ({ data := #[48, 49, 50, 51, 52, 53, 54, 55, 56, 57, 65, 66, 67, 68, 69, 70] } : ByteArray)[c.toNat / 16] = HEX (Z c / 16) := by
  rw [hd_get]; rfl
theorem hd_mod (c : UInt8) (h : c.toNat % 16 < ({ data := #[48, 49, 50, 51, 52, 53, 54, 55, 56, 57, 65, 66, 67, 68, 69, 70] } : ByteArray).size) : ({ data := #[48, 49, 50, 51, 52, 53, 54, 55, 56, 57, 65, 66, 67, 68, 69, 70] } : ByteArray)[c.toNat % 16] = HEX (Z c % 16) := by
  rw [hd_get]; rfl

/-- Three bytes written. -/
theorem Bd.cast {B b : Nat} {acc acc' : List UInt8} {w : World} (h : Bd B b acc w) (e : acc = acc') : Bd B b acc' w := e ▸ h
theorem one_t {c : UInt8} (h : escZ (Z c) = true) : one c = pct c := by unfold one; rw [if_pos h]
theorem one_f {c : UInt8} (h : escZ (Z c) = false) : one c = [c] := by unfold one; rw [h, if_neg (by decide)]
theorem emit_t {c : UInt8} (h : unrZ (Z c) = true) : emit c = [c] := by unfold emit; rw [if_pos h]
theorem emit_f {c : UInt8} (h : unrZ (Z c) = false) : emit c = pct c := by unfold emit; rw [h, if_neg (by decide)]
theorem hexValue_q (c : UInt8) (w : World) (h : hexDZ (Z c) = true) : Calls Try.prog 32 #[.int .u8 (c.toNat : Int)] w fun e w' => e = .returned (.int .u8 (hexVZ (Z c))) ∧ w = w' := hexValue_any _ w h
theorem or_all : ∀ a b : Fin 16, ((a.val * 16) ||| b.val) = a.val * 16 + b.val := by decide
theorem or_val {x y : Int} (hx : 0 ≤ x ∧ x ≤ 15) (hy : 0 ≤ y ∧ y ≤ 15) : bits .or .u8 (x * 16) y = x * 16 + y := by
  obtain ⟨a, rfl⟩ := Int.eq_ofNat_of_zero_le hx.1
  obtain ⟨b, rfl⟩ := Int.eq_ofNat_of_zero_le hy.1
  have h := or_all ⟨a, by omega⟩ ⟨b, by omega⟩
  have h2 := u8_or_nat (a * 16) b (by omega) (by omega)
  rw [h] at h2
  simpa using h2
theorem Bd.drew {B b : Nat} {acc : List UInt8} {w : World} (h : Bd B b acc w) : Bd B b acc w.drew := ⟨h.at', h.le⟩
theorem pct_len (c : UInt8) : (pct c).length = 3 := rfl

theorem isHex_at {z : Int} {b : Bool} (h : hexDZ z = b) (w : World) : Calls Try.prog 31 #[.int .u8 z] w fun e w' => e = .returned (.bool b) ∧ w = w' := h ▸ isHex_any z w
theorem isUnr_at {z : Int} {b : Bool} (h : unrZ z = b) (w : World) : Calls Try.prog 33 #[.int .u8 z] w fun e w' => e = .returned (.bool b) ∧ w = w' := h ▸ isUnr_any z w

set_option maxRecDepth 20000 in
set_option maxHeartbeats 4000000 in
theorem norm_any (s : ByteArray) (w : World) (hs : s.size ≤ 4194304) :
    Calls Try.prog 20 #[.string s] w fun e w' => e = .returned (.string ⟨(norm s.data.toList).toArray⟩) ∧ Below w.heap.size w w' := by
  obtain ⟨W, hW⟩ : ∃ W, W = w.alloc (.cells #[.pointer none, .slice none 0 0] 39) := ⟨_, rfl⟩
  have HG : Hid (Calls Try.prog 30 #[.pointer (some ⟨w.heap.size, 0, none⟩), .int .i64 (s.size : Int)] W fun e w' => e = .returned (.tuple #[]) ∧ Bd w.heap.size w.heap.size [] w' ∧ Below w.heap.size w w') := by
    have h0 : Below w.heap.size w W := by rw [hW]; exact (Below.refl _ w).alloc (Nat.le_refl _) _
    refine (Try.Builder_Grow_fresh w.heap.size w.heap.size s.size W (Nat.le_refl _) (by rw [hW]; show (w.heap.push _)[w.heap.size]? = _; simp) h0.size (by omega)).mono ?_
    rintro e w' ⟨he, hb, hbl⟩
    have h1 := h0.trans hbl
    exact ⟨he, ⟨hb, h1.size⟩, h1⟩
  go_enter Try.func20, Try.ntmps20
  go_wp2_with fail
  rw [← hW]
  clear hW
  refine HG.out.mono ?_
  rintro e w1 ⟨rfl, hb1, hl1⟩
  clear HG
  go_wp2
  go_loopw [4] (fun i wr => ∃ (k : Nat) (acc : List UInt8), k ≤ s.size ∧ i = .int .i64 (k : Int) ∧ Bd w.heap.size w.heap.size acc wr ∧ Below w.heap.size w wr ∧ acc.length ≤ 3 * k ∧ norm s.data.toList = acc ++ norm (s.data.toList.drop k)) (fun i _ => s.size - (intOf i).toNat)
  case atStart => exact ⟨0, [], Nat.zero_le _, rfl, hb1, hl1, Nat.zero_le _, by simp⟩
  case round =>
    clear hb1 hl1
    obtain ⟨k, acc, hk, rfl, hb, hl, hal, hn⟩ := hrel
    have HN : Hid (norm s.data.toList = acc ++ norm (s.data.toList.drop k)) := hn
    clear hn
    have hsz := size_list s
    by_cases hlt : k < s.size
    · have HDK : Hid (s.data.toList.drop k = s[k] :: s.data.toList.drop (k + 1)) := drop_at s k hlt
      by_cases h37 : s[k] = 37
      · have t37 : ((s[k].toNat : Int) == 37) = true := by rw [h37]; rfl
        have hE : escZ (Z s[k]) = true := by rw [h37]; decide
        have z37 : (s[k].toNat : Int) = 37 := by rw [h37]; rfl
        have z1 : ¬ ((s[k].toNat : Int) ≤ 32) := by omega
        have z2 : (s[k].toNat : Int) < 127 := by omega
        by_cases hk2 : k + 2 < s.size
        · have HDK1 : Hid (s.data.toList.drop (k + 1) = s[k + 1] :: s.data.toList.drop (k + 2)) := drop_at s (k + 1) (by omega)
          have HDK2 : Hid (s.data.toList.drop (k + 2) = s[k + 2] :: s.data.toList.drop (k + 3)) := drop_at s (k + 2) hk2
          have hki : (k : Int) + 2 < (s.size : Int) := by omega
          cases hxa : hexDZ (Z s[k + 1]) with
          | false =>
            have hNT : NoTri s[k] (s.data.toList.drop (k + 1)) := .inr (fun a b r' h h2 => by
              rw [HDK1.out] at h
              simp only [List.cons.injEq] at h
              rw [← h.1, hxa] at h2
              exact absurd h2.1 (by decide))
            have HF : Hid (norm s.data.toList = (acc ++ pct s[k]) ++ norm (s.data.toList.drop (k + 1))) := by show _ = _; rw [HN.out, HDK.out, norm_one hNT, one_t hE, List.append_assoc]
            have HXA : Hid (∀ w, Calls Try.prog 31 #[.int .u8 (s[k + 1].toNat : Int)] w fun e w' => e = .returned (.bool false) ∧ w = w') := fun w => isHex_at hxa w
            clear hNT hxa h37 z37 hE
            go_wp2_with fail
            refine (HXA.out _).mono ?_
            rintro e w' ⟨rfl, rfl⟩
            go_wp2_with fail
            refine (writeByte_used hb 37 (by omega)).mono ?_
            rintro e w2 ⟨rfl, hb2, hl2⟩
            go_wp2_with fail
            rw [hd_div s[k]]
            refine (writeByte_used hb2 (HEX (Z s[k] / 16)) (by simp; omega)).mono ?_
            rintro e w3 ⟨rfl, hb3, hl3⟩
            go_wp2_with fail
            rw [hd_mod s[k]]
            refine (writeByte_used hb3 (HEX (Z s[k] % 16)) (by simp; omega)).mono ?_
            rintro e w4 ⟨rfl, hb4, hl4⟩
            have hbN := hb4.cast (acc' := acc ++ pct s[k]) (by unfold pct; simp)
            have hlN := ((hl.trans hl2).trans hl3).trans hl4
            clear hb hb2 hb3 hb4 hl2 hl3 hl4
            go_wp2
            go_roundw
            case rel => exact ⟨k + 1, acc ++ pct s[k], by omega, by go_num, hbN, hlN, by rw [List.length_append]; rw [pct_len]; omega, HF.out⟩
            case measure => simp [intOf]; omega
          | true =>
            cases hxb : hexDZ (Z s[k + 2]) with
            | false =>
              have hNT : NoTri s[k] (s.data.toList.drop (k + 1)) := .inr (fun a b r' h h2 => by
                rw [HDK1.out, HDK2.out] at h
                simp only [List.cons.injEq] at h
                rw [← h.2.1, hxb] at h2
                exact absurd h2.2 (by decide))
              have HF : Hid (norm s.data.toList = (acc ++ pct s[k]) ++ norm (s.data.toList.drop (k + 1))) := by show _ = _; rw [HN.out, HDK.out, norm_one hNT, one_t hE, List.append_assoc]
              have HXA : Hid (∀ w, Calls Try.prog 31 #[.int .u8 (s[k + 1].toNat : Int)] w fun e w' => e = .returned (.bool true) ∧ w = w') := fun w => isHex_at hxa w
              have HXB : Hid (∀ w, Calls Try.prog 31 #[.int .u8 (s[k + 2].toNat : Int)] w fun e w' => e = .returned (.bool false) ∧ w = w') := fun w => isHex_at hxb w
              clear hNT hxa hxb h37 z37 hE
              go_wp2_with fail
              refine (HXA.out _).mono ?_
              rintro e w' ⟨rfl, rfl⟩
              go_wp2_with fail
              refine (HXB.out _).mono ?_
              rintro e w' ⟨rfl, rfl⟩
              go_wp2_with fail
              refine (writeByte_used hb 37 (by omega)).mono ?_
              rintro e w2 ⟨rfl, hb2, hl2⟩
              go_wp2_with fail
              rw [hd_div s[k]]
              refine (writeByte_used hb2 (HEX (Z s[k] / 16)) (by simp; omega)).mono ?_
              rintro e w3 ⟨rfl, hb3, hl3⟩
              go_wp2_with fail
              rw [hd_mod s[k]]
              refine (writeByte_used hb3 (HEX (Z s[k] % 16)) (by simp; omega)).mono ?_
              rintro e w4 ⟨rfl, hb4, hl4⟩
              have hbN := hb4.cast (acc' := acc ++ pct s[k]) (by unfold pct; simp)
              have hlN := ((hl.trans hl2).trans hl3).trans hl4
              clear hb hb2 hb3 hb4 hl2 hl3 hl4
              go_wp2
              go_roundw
              case rel => exact ⟨k + 1, acc ++ pct s[k], by omega, by go_num, hbN, hlN, by rw [List.length_append]; rw [pct_len]; omega, HF.out⟩
              case measure => simp [intOf]; omega
            | true =>
              have HF0 : Hid (norm s.data.toList = (acc ++ emit (val s[k + 1] s[k + 2])) ++ norm (s.data.toList.drop (k + 3))) := by show _ = _; rw [HN.out, HDK.out, HDK1.out, HDK2.out, h37, norm_tri hxa hxb, List.append_assoc]
              have HXA : Hid (∀ w, Calls Try.prog 31 #[.int .u8 (s[k + 1].toNat : Int)] w fun e w' => e = .returned (.bool true) ∧ w = w') := fun w => isHex_at hxa w
              have HXB : Hid (∀ w, Calls Try.prog 31 #[.int .u8 (s[k + 2].toNat : Int)] w fun e w' => e = .returned (.bool true) ∧ w = w') := fun w => isHex_at hxb w
              have ba := hexVZ_le (z := Z s[k + 1])
              have bb := hexVZ_le (z := Z s[k + 2])
              have HXa : Hid (hexDZ (Z s[k + 1]) = true) := hxa
              have HXb : Hid (hexDZ (Z s[k + 2]) = true) := hxb
              have HV : Hid (Z (val s[k + 1] s[k + 2]) = hexVZ (Z s[k + 1]) * 16 + hexVZ (Z s[k + 2])) := Z_val _ _
              clear hxa hxb h37 z37 hE HN HDK HDK1 HDK2
              go_wp2_with fail
              refine (HXA.out _).mono ?_
              rintro e w' ⟨rfl, rfl⟩
              go_wp2_with fail
              refine (HXB.out _).mono ?_
              rintro e w' ⟨rfl, rfl⟩
              clear HXA HXB
              have q01 : (0 : Int) ≤ (k : Int) + 1 := by omega
              have q11 : (k : Int) + 1 < (s.size : Int) := by omega
              have q02 : (0 : Int) ≤ (k : Int) + 2 := by omega
              have q12 : (k : Int) + 2 < (s.size : Int) := by omega
              have ew1 : IntKind.i64.wrap ((k : Int) + 1) = (k : Int) + 1 := IntWalk.i64_in _ ⟨by omega, by omega⟩
              have ew2 : IntKind.i64.wrap ((k : Int) + 2) = (k : Int) + 2 := IntWalk.i64_in _ ⟨by omega, by omega⟩
              have q21 : ((k : Int) + 1).toNat = k + 1 := by omega
              have q22 : ((k : Int) + 2).toNat = k + 2 := by omega
              go_wp2
              go_region_with (go_at_call 32; refine (hexValue_q _ _ (by first | exact HXa.out | exact HXb.out)).mono ?_; rintro e w' ⟨rfl, rfl⟩)
              all_goals go_wp2_with fail
              all_goals
                have hbd := hb.drew
                have hld := hl.drew
                obtain ⟨wd, hwd⟩ : ∃ wd, wd = wr.drew := ⟨_, rfl⟩
                rw [← hwd] at hbd hld ⊢
                clear hwd hb hl
                have HB : Hid (bits .or .u8 (hexVZ (Z s[k + 1]) * 16) (hexVZ (Z s[k + 2])) = ((val s[k + 1] s[k + 2]).toNat : Int)) := by show _ = _; rw [or_val ba bb, ← HV.out]; rfl
                obtain ⟨v, hv⟩ : ∃ v, v = val s[k + 1] s[k + 2] := ⟨_, rfl⟩
                rw [← hv] at HF0 HB
                rw [HB.out]
                clear hv HB HV HXa HXb ba bb
                cases hu : unrZ (Z v) with
                | true =>
                  have HF : Hid (norm s.data.toList = (acc ++ [v]) ++ norm (s.data.toList.drop (k + 3))) := by show _ = _; rw [HF0.out, emit_t hu]
                  clear HF0
                  refine (isUnr_at hu _).mono ?_
                  clear hu
                  rintro e w' ⟨rfl, rfl⟩
                  go_wp2_with fail
                  refine (writeByte_used hbd v (by omega)).mono ?_
                  rintro e w2 ⟨rfl, hbN, hl2⟩
                  have hlN := hld.trans hl2
                  clear hbd hl2
                  go_wp2
                  go_roundw
                  case rel => exact ⟨k + 3, acc ++ [v], by omega, by go_num, hbN, hlN, by rw [List.length_append]; simp only [List.length_cons, List.length_nil]; omega, HF.out⟩
                  case measure => simp [intOf]; omega
                | false =>
                  have HF : Hid (norm s.data.toList = (acc ++ pct v) ++ norm (s.data.toList.drop (k + 3))) := by show _ = _; rw [HF0.out, emit_f hu]
                  clear HF0
                  refine (isUnr_at hu _).mono ?_
                  clear hu
                  rintro e w' ⟨rfl, rfl⟩
                  have hb := hbd
                  have hl := hld
                  have vb := Z_le v
                  rw [Z_def] at vb
                  clear hbd hld
                  go_wp2_with fail
                  refine (writeByte_used hb 37 (by omega)).mono ?_
                  rintro e w2 ⟨rfl, hb2, hl2⟩
                  go_wp2_with fail
                  rw [hd_div v]
                  refine (writeByte_used hb2 (HEX (Z v / 16)) (by simp; omega)).mono ?_
                  rintro e w3 ⟨rfl, hb3, hl3⟩
                  go_wp2_with fail
                  rw [hd_mod v]
                  refine (writeByte_used hb3 (HEX (Z v % 16)) (by simp; omega)).mono ?_
                  rintro e w4 ⟨rfl, hb4, hl4⟩
                  have hbN := hb4.cast (acc' := acc ++ pct v) (by unfold pct; simp)
                  have hlN := ((hl.trans hl2).trans hl3).trans hl4
                  clear hb hb2 hb3 hb4 hl2 hl3 hl4
                  go_wp2
                  go_roundw
                  case rel => exact ⟨k + 3, acc ++ pct v, by omega, by go_num, hbN, hlN, by rw [List.length_append]; rw [pct_len]; omega, HF.out⟩
                  case measure => simp [intOf]; omega
        · have hNT : NoTri s[k] (s.data.toList.drop (k + 1)) := .inr (fun a b r' h _ => by
            have h1 := congrArg List.length h
            simp only [List.length_drop, List.length_cons] at h1
            omega)
          have HF : Hid (norm s.data.toList = (acc ++ pct s[k]) ++ norm (s.data.toList.drop (k + 1))) := by show _ = _; rw [HN.out, HDK.out, norm_one hNT, one_t hE, List.append_assoc]
          have hkd : decide ((k : Int) + 2 < (s.size : Int)) = false := by simp; omega
          clear hNT h37 z37 hE
          go_wp2_with fail
          refine (writeByte_used hb 37 (by omega)).mono ?_
          rintro e w2 ⟨rfl, hb2, hl2⟩
          go_wp2_with fail
          rw [hd_div s[k]]
          refine (writeByte_used hb2 (HEX (Z s[k] / 16)) (by simp; omega)).mono ?_
          rintro e w3 ⟨rfl, hb3, hl3⟩
          go_wp2_with fail
          rw [hd_mod s[k]]
          refine (writeByte_used hb3 (HEX (Z s[k] % 16)) (by simp; omega)).mono ?_
          rintro e w4 ⟨rfl, hb4, hl4⟩
          have hbN := hb4.cast (acc' := acc ++ pct s[k]) (by unfold pct; simp)
          have hlN := ((hl.trans hl2).trans hl3).trans hl4
          clear hb hb2 hb3 hb4 hl2 hl3 hl4
          go_wp2
          go_roundw
          case rel => exact ⟨k + 1, acc ++ pct s[k], by omega, by go_num, hbN, hlN, by rw [List.length_append]; rw [pct_len]; omega, HF.out⟩
          case measure => simp [intOf]; omega
      · have t37 : ((s[k].toNat : Int) == 37) = false := u8_ne' h37 rfl
        have hNT : NoTri s[k] (s.data.toList.drop (k + 1)) := .inl h37
        have h256 := Z_le s[k]
        rw [Z_def] at h256
        rcases (show (s[k].toNat : Int) ≤ 32 ∨ (32 < (s[k].toNat : Int) ∧ 127 ≤ (s[k].toNat : Int)) ∨ (32 < (s[k].toNat : Int) ∧ (s[k].toNat : Int) < 127) from by omega) with hz | hz | hz
        · have hE : escZ (Z s[k]) = true := decide_eq_true (.inl hz)
          have HF : Hid (norm s.data.toList = (acc ++ pct s[k]) ++ norm (s.data.toList.drop (k + 1))) := by show _ = _; rw [HN.out, HDK.out, norm_one hNT, one_t hE, List.append_assoc]
          clear hNT h37 hE
          go_wp2_with fail
          refine (writeByte_used hb 37 (by omega)).mono ?_
          rintro e w2 ⟨rfl, hb2, hl2⟩
          go_wp2_with fail
          rw [hd_div s[k]]
          refine (writeByte_used hb2 (HEX (Z s[k] / 16)) (by simp; omega)).mono ?_
          rintro e w3 ⟨rfl, hb3, hl3⟩
          go_wp2_with fail
          rw [hd_mod s[k]]
          refine (writeByte_used hb3 (HEX (Z s[k] % 16)) (by simp; omega)).mono ?_
          rintro e w4 ⟨rfl, hb4, hl4⟩
          have hbN := hb4.cast (acc' := acc ++ pct s[k]) (by unfold pct; simp)
          have hlN := ((hl.trans hl2).trans hl3).trans hl4
          clear hb hb2 hb3 hb4 hl2 hl3 hl4
          go_wp2
          go_roundw
          case rel => exact ⟨k + 1, acc ++ pct s[k], by omega, by go_num, hbN, hlN, by rw [List.length_append]; rw [pct_len]; omega, HF.out⟩
          case measure => simp [intOf]; omega
        · have hE : escZ (Z s[k]) = true := decide_eq_true (.inr (.inl hz.2))
          have HF : Hid (norm s.data.toList = (acc ++ pct s[k]) ++ norm (s.data.toList.drop (k + 1))) := by show _ = _; rw [HN.out, HDK.out, norm_one hNT, one_t hE, List.append_assoc]
          clear hNT h37 hE
          go_wp2_with fail
          refine (writeByte_used hb 37 (by omega)).mono ?_
          rintro e w2 ⟨rfl, hb2, hl2⟩
          go_wp2_with fail
          rw [hd_div s[k]]
          refine (writeByte_used hb2 (HEX (Z s[k] / 16)) (by simp; omega)).mono ?_
          rintro e w3 ⟨rfl, hb3, hl3⟩
          go_wp2_with fail
          rw [hd_mod s[k]]
          refine (writeByte_used hb3 (HEX (Z s[k] % 16)) (by simp; omega)).mono ?_
          rintro e w4 ⟨rfl, hb4, hl4⟩
          have hbN := hb4.cast (acc' := acc ++ pct s[k]) (by unfold pct; simp)
          have hlN := ((hl.trans hl2).trans hl3).trans hl4
          clear hb hb2 hb3 hb4 hl2 hl3 hl4
          go_wp2
          go_roundw
          case rel => exact ⟨k + 1, acc ++ pct s[k], by omega, by go_num, hbN, hlN, by rw [List.length_append]; rw [pct_len]; omega, HF.out⟩
          case measure => simp [intOf]; omega
        · have hE : escZ (Z s[k]) = false := by
            apply decide_eq_false
            intro h
            have h3 : Z s[k] ≠ 37 := fun e => h37 (Z_inj (by rw [e]; rfl))
            rw [Z_def] at h h3
            omega
          have HF : Hid (norm s.data.toList = (acc ++ [s[k]]) ++ norm (s.data.toList.drop (k + 1))) := by show _ = _; rw [HN.out, HDK.out, norm_one hNT, one_f hE, List.append_assoc]
          clear hNT h37 hE
          go_wp2_with fail
          refine (writeByte_used hb s[k] (by omega)).mono ?_
          rintro e w2 ⟨rfl, hbN, hl2⟩
          have hlN := hl.trans hl2
          clear hb hl2
          go_wp2
          go_roundw
          case rel => exact ⟨k + 1, acc ++ [s[k]], by omega, by go_num, hbN, hlN, by rw [List.length_append]; simp only [List.length_cons, List.length_nil]; omega, HF.out⟩
          case measure => simp [intOf]; omega
    · have hnil : s.data.toList.drop k = [] := List.drop_eq_nil_of_le (by omega)
      have HE : Hid (norm s.data.toList = acc) := by show _ = _; rw [HN.out, hnil]; simp [norm]
      clear hnil HN hsz
      go_wp2_with fail
      refine (Try.Builder_String_any w.heap.size w.heap.size acc wr (.inr hb.at') hb.le).mono ?_
      rintro e w2 ⟨rfl, hl2⟩
      go_wp2
      go_ret
      exact ⟨by rw [HE.out]; rfl, hl.trans hl2⟩

end Go.Proofs.Qxb6601633a
