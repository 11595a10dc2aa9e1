import Derived.Test.Qxb6601633aRow
import Derived.Test.Qxb6601633aBytes
import Derived.Test.Qxb6601633aCanon
namespace Go.Proofs.Qxb6601633a.Dec
open Go.RowKit
open Go.Proofs.Qxb6601633a.Can

theorem hex_at {z : Int} {b : Bool} (h : hexDZ z = b) (w : World) : Calls Try.prog 24 #[.int .u8 z] w fun e w' => e = .returned (.bool b) ∧ w = w' := h ▸ b1Hex_any z w

theorem src1z {w : World} {W : World} {g : Nat} {z : Int} (b : UInt8) (hz : z = (b.toNat : Int)) (hw : W = w.alloc (.cells #[.int .u8 z] 5)) (hg : g = w.heap.size) : SrcB W (.slice (some ⟨g, 0, none⟩) 1 1) [b] := by
  subst hz
  exact src1 b hw hg

theorem src1dz {w : World} {W : World} {g : Nat} {z : Int} (b : UInt8) (hz : z = (b.toNat : Int)) (hw : W = (w.alloc (.cells #[.int .u8 z] 5)).drew) (hg : g = w.heap.size) : SrcB W (.slice (some ⟨g, 0, none⟩) 1 1) [b] := by
  subst hz
  exact src1d b hw hg

set_option maxRecDepth 20000 in
set_option maxHeartbeats 4000000 in
theorem dec_any (s : ByteArray) (w : World) (hs : s.size ≤ 4194304) :
    Calls Try.prog 16 #[.string s] w fun e w' => ∃ v, e = .returned v ∧ BI w w' v (dec s.data.toList) := by
  go_enter Try.func16, Try.ntmps16
  go_wp2_with (at_make; refine wpList_make0_b w rfl _ _ rfl _ s.size rfl rfl rfl (by omega) ?_; intro v1 w1 B1)
  go_loopw [3, 4] (fun v i wr => ∃ (k : Nat) (acc : List UInt8), k ≤ s.size ∧ i = .int .i64 (k : Int) ∧ BI w wr v acc ∧ acc.length ≤ k ∧ dec s.data.toList = acc ++ dec (s.data.toList.drop k)) (fun _ i _ => s.size - (intOf i).toNat)
  case atStart => exact ⟨0, [], Nat.zero_le _, rfl, B1, Nat.zero_le _, rfl⟩
  case round =>
    clear B1
    obtain ⟨k, acc, hk, rfl, B, hal, hn⟩ := hrel
    have HN : Hid (dec s.data.toList = acc ++ dec (s.data.toList.drop k)) := hn
    clear hn
    have hsz := size_list s
    by_cases hlt : k < s.size
    · have HDK : Hid (s.data.toList.drop k = s[k] :: s.data.toList.drop (k + 1)) := drop_at s k hlt
      by_cases h37 : s[k] = 37
      · have t37 : ((s[k].toNat : Int) == 37) = true := by rw [h37]; rfl
        by_cases hk2 : k + 2 < s.size
        · have HDK1 : Hid (s.data.toList.drop (k + 1) = s[k + 1] :: s.data.toList.drop (k + 2)) := drop_at s (k + 1) (by omega)
          have HDK2 : Hid (s.data.toList.drop (k + 2) = s[k + 2] :: s.data.toList.drop (k + 3)) := drop_at s (k + 2) hk2
          have hki : (k : Int) + 2 < (s.size : Int) := by omega
          cases hxa : hexDZ (Z s[k + 1]) with
          | false =>
            have hNT : NoTri s[k] (s.data.toList.drop (k + 1)) := .inr (fun a b r' h h2 => by
              rw [HDK1.out] at h
              simp only [List.cons.injEq] at h
              rw [← h.1, hxa] at h2
              exact absurd h2.1 (by decide))
            obtain ⟨d, hd⟩ : ∃ d, d = acc ++ [s[k]] := ⟨_, rfl⟩
            have H1 : Hid (d = acc ++ [s[k]]) := hd
            have HL : Small d := by unfold Small; rw [hd, List.length_append, List.length_singleton]; omega
            have HA : d.length ≤ k + 1 := by rw [hd, List.length_append, List.length_singleton]; omega
            have HF : Hid (dec s.data.toList = d ++ dec (s.data.toList.drop (k + 1))) := by show _ = _; rw [hd, HN.out, HDK.out, dec_one hNT, List.append_assoc]; rfl
            clear hd HN
            have HXA : Hid (∀ w, Calls Try.prog 24 #[.int .u8 (s[k + 1].toNat : Int)] w fun e w' => e = .returned (.bool false) ∧ w = w') := fun w => hex_at hxa w
            clear hNT hxa h37 HDK HDK1 HDK2
            go_wp2_with fail
            refine (HXA.out _).mono ?_
            rintro e w' ⟨rfl, rfl⟩
            clear HXA
            go_wp2_with (at_builtin; refine wpList_append_b rfl (.tmp 55) (.tmp 57) rfl _ _ _ rfl (B.alloc _).own [s[k]] (src1 s[k] rfl rfl) d H1.out HL (B.alloc _).size ?_; intro v2 w2 ho2 hg2 _; have B2 := (B.alloc _).appended ho2 hg2; clear ho2 hg2)
            go_roundw
            case rel => exact ⟨k + 1, d, by omega, by go_num, B2, HA, HF.out⟩
            case measure => simp [intOf]; omega
          | true =>
            cases hxb : hexDZ (Z s[k + 2]) with
            | false =>
              have hNT : NoTri s[k] (s.data.toList.drop (k + 1)) := .inr (fun a b r' h h2 => by
                rw [HDK1.out, HDK2.out] at h
                simp only [List.cons.injEq] at h
                rw [← h.2.1, hxb] at h2
                exact absurd h2.2 (by decide))
              obtain ⟨d, hd⟩ : ∃ d, d = acc ++ [s[k]] := ⟨_, rfl⟩
              have H1 : Hid (d = acc ++ [s[k]]) := hd
              have HL : Small d := by unfold Small; rw [hd, List.length_append, List.length_singleton]; omega
              have HA : d.length ≤ k + 1 := by rw [hd, List.length_append, List.length_singleton]; omega
              have HF : Hid (dec s.data.toList = d ++ dec (s.data.toList.drop (k + 1))) := by show _ = _; rw [hd, HN.out, HDK.out, dec_one hNT, List.append_assoc]; rfl
              clear hd HN
              have HXA : Hid (∀ w, Calls Try.prog 24 #[.int .u8 (s[k + 1].toNat : Int)] w fun e w' => e = .returned (.bool true) ∧ w = w') := fun w => hex_at hxa w
              have HXB : Hid (∀ w, Calls Try.prog 24 #[.int .u8 (s[k + 2].toNat : Int)] w fun e w' => e = .returned (.bool false) ∧ w = w') := fun w => hex_at hxb w
              clear hNT hxa hxb h37 HDK HDK1 HDK2
              go_wp2_with fail
              refine (HXA.out _).mono ?_
              rintro e w' ⟨rfl, rfl⟩
              clear HXA
              go_wp2_with fail
              refine (HXB.out _).mono ?_
              rintro e w' ⟨rfl, rfl⟩
              clear HXB
              go_wp2_with (at_builtin; refine wpList_append_b rfl (.tmp 55) (.tmp 57) rfl _ _ _ rfl (B.alloc _).own [s[k]] (src1 s[k] rfl rfl) d H1.out HL (B.alloc _).size ?_; intro v2 w2 ho2 hg2 _; have B2 := (B.alloc _).appended ho2 hg2; clear ho2 hg2)
              go_roundw
              case rel => exact ⟨k + 1, d, by omega, by go_num, B2, HA, HF.out⟩
              case measure => simp [intOf]; omega
            | true =>
              have HB : Hid (hexVZ (Z s[k + 1]) * 16 + hexVZ (Z s[k + 2]) = ((val s[k + 1] s[k + 2]).toNat : Int)) := by show _ = _; rw [← Z_val]; rfl
              obtain ⟨v, hv⟩ : ∃ v, v = val s[k + 1] s[k + 2] := ⟨_, rfl⟩
              rw [← hv] at HB
              obtain ⟨d, hd⟩ : ∃ d, d = acc ++ [v] := ⟨_, rfl⟩
              have H1 : Hid (d = acc ++ [v]) := hd
              have HL : Small d := by unfold Small; rw [hd, List.length_append, List.length_singleton]; omega
              have HA : d.length ≤ k + 3 := by rw [hd, List.length_append, List.length_singleton]; omega
              have HF : Hid (dec s.data.toList = d ++ dec (s.data.toList.drop (k + 3))) := by show _ = _; rw [hd, HN.out, HDK.out, HDK1.out, HDK2.out, h37, dec_tri hxa hxb, ← hv, List.append_assoc]; rfl
              clear hd HN
              have HXA : Hid (∀ w, Calls Try.prog 24 #[.int .u8 (s[k + 1].toNat : Int)] w fun e w' => e = .returned (.bool true) ∧ w = w') := fun w => hex_at hxa w
              have HXB : Hid (∀ w, Calls Try.prog 24 #[.int .u8 (s[k + 2].toNat : Int)] w fun e w' => e = .returned (.bool true) ∧ w = w') := fun w => hex_at hxb w
              have ba := hexVZ_le (z := Z s[k + 1])
              have bb := hexVZ_le (z := Z s[k + 2])
              clear hxa hxb h37 HDK HDK1 HDK2 hv
              go_wp2_with fail
              refine (HXA.out _).mono ?_
              rintro e w' ⟨rfl, rfl⟩
              clear HXA
              go_wp2_with fail
              refine (HXB.out _).mono ?_
              rintro e w' ⟨rfl, rfl⟩
              clear HXB
              have q01 : (0 : Int) ≤ (k : Int) + 1 := by omega
              have q11 : (k : Int) + 1 < (s.size : Int) := by omega
              have q02 : (0 : Int) ≤ (k : Int) + 2 := by omega
              have q12 : (k : Int) + 2 < (s.size : Int) := by omega
              have ew1 : IntKind.i64.wrap ((k : Int) + 1) = (k : Int) + 1 := IntWalk.i64_in _ ⟨by omega, by omega⟩
              have ew2 : IntKind.i64.wrap ((k : Int) + 2) = (k : Int) + 2 := IntWalk.i64_in _ ⟨by omega, by omega⟩
              have q21 : ((k : Int) + 1).toNat = k + 1 := by omega
              have q22 : ((k : Int) + 2).toNat = k + 2 := by omega
              go_wp2
              go_region_with (go_at_call 22; refine (val_q _ _).mono ?_; rintro e w' ⟨rfl, rfl⟩)
              all_goals
                go_wp2_with (at_builtin; refine wpList_append_b rfl (.tmp 55) (.tmp 57) rfl _ _ _ rfl (B.alloc _).drew.own [v] (src1dz v HB.out rfl rfl) d H1.out HL (B.alloc _).drew.size ?_; intro v2 w2 ho2 hg2 _; have B2 := (B.alloc _).drew.appended ho2 hg2; clear ho2 hg2)
                go_roundw
                case rel => exact ⟨k + 3, d, by omega, by go_num, B2, HA, HF.out⟩
                case measure => simp [intOf]; omega
        · have hNT : NoTri s[k] (s.data.toList.drop (k + 1)) := .inr (fun a b r' h _ => by
            have h1 := congrArg List.length h
            simp only [List.length_drop, List.length_cons] at h1
            omega)
          have hkd : decide ((k : Int) + 2 < (s.size : Int)) = false := by simp; omega
          obtain ⟨d, hd⟩ : ∃ d, d = acc ++ [s[k]] := ⟨_, rfl⟩
          have H1 : Hid (d = acc ++ [s[k]]) := hd
          have HL : Small d := by unfold Small; rw [hd, List.length_append, List.length_singleton]; omega
          have HA : d.length ≤ k + 1 := by rw [hd, List.length_append, List.length_singleton]; omega
          have HF : Hid (dec s.data.toList = d ++ dec (s.data.toList.drop (k + 1))) := by show _ = _; rw [hd, HN.out, HDK.out, dec_one hNT, List.append_assoc]; rfl
          clear hd HN
          clear hNT h37 HDK
          go_wp2_with (at_builtin; refine wpList_append_b rfl (.tmp 55) (.tmp 57) rfl _ _ _ rfl (B.alloc _).own [s[k]] (src1 s[k] rfl rfl) d H1.out HL (B.alloc _).size ?_; intro v2 w2 ho2 hg2 _; have B2 := (B.alloc _).appended ho2 hg2; clear ho2 hg2)
          go_roundw
          case rel => exact ⟨k + 1, d, by omega, by go_num, B2, HA, HF.out⟩
          case measure => simp [intOf]; omega
      · have t37 : ((s[k].toNat : Int) == 37) = false := u8_ne' h37 rfl
        have hNT : NoTri s[k] (s.data.toList.drop (k + 1)) := .inl h37
        obtain ⟨d, hd⟩ : ∃ d, d = acc ++ [s[k]] := ⟨_, rfl⟩
        have H1 : Hid (d = acc ++ [s[k]]) := hd
        have HL : Small d := by unfold Small; rw [hd, List.length_append, List.length_singleton]; omega
        have HA : d.length ≤ k + 1 := by rw [hd, List.length_append, List.length_singleton]; omega
        have HF : Hid (dec s.data.toList = d ++ dec (s.data.toList.drop (k + 1))) := by show _ = _; rw [hd, HN.out, HDK.out, dec_one hNT, List.append_assoc]; rfl
        clear hd HN
        clear hNT h37 HDK
        go_wp2_with (at_builtin; refine wpList_append_b rfl (.tmp 55) (.tmp 57) rfl _ _ _ rfl (B.alloc _).own [s[k]] (src1 s[k] rfl rfl) d H1.out HL (B.alloc _).size ?_; intro v2 w2 ho2 hg2 _; have B2 := (B.alloc _).appended ho2 hg2; clear ho2 hg2)
        go_roundw
        case rel => exact ⟨k + 1, d, by omega, by go_num, B2, HA, HF.out⟩
        case measure => simp [intOf]; omega
    · have HF : Hid (dec s.data.toList = acc) := by
        show _ = _
        rw [HN.out, List.drop_eq_nil_of_le (by omega)]; simp [dec]
      clear HN
      go_wp2
      go_ret
      exact ⟨_, rfl, HF.out ▸ B⟩

end Go.Proofs.Qxb6601633a.Dec
