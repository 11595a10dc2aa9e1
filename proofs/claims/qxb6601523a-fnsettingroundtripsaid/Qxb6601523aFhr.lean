import Derived.Test.Qxb6601523aZZHeader
import Derived.Test.Qxb6601523aHdrLaw
import Derived.Test.Qxb6601523aFvq
import Derived.Deep.RegionHeld3
namespace Go.Proofs.Qxb6601523a
open Go.RowKit

/-- '[]byte(s)'. -/
theorem run_bytes_b (w : World) (s : ByteArray) (hs : s.size ≤ 4294967296) : ∃ v' w', (convert 9 22 (.string s)).run Try.prog w = .ok v' w' ∧ BI w w' v' s.data.toList := by
  have hr := run_bytes_of_string (P := Try.prog) w 9 22 5 s Try.underlying9 Try.underlying22 Try.underlying5
  have hge := grownCap_ge w s.size 0 5
  have hcm := grownCap_le_maxLen w s.size 0 5 (by unfold maxLen; omega)
  have hsz : (bytesRow s (grownCap w s.size 0 5)).size = grownCap w s.size 0 5 := by
    unfold bytesRow
    rw [Array.size_append, Array.size_map, Array.size_replicate]
    show s.size + _ = _
    omega
  have hll : s.data.toList.length = s.size := size_list s
  refine ⟨_, _, hr, ⟨.inr ⟨w.heap.size, grownCap w s.size 0 5, bytesRow s (grownCap w s.size 0 5), _, by rw [hll], Nat.le_refl _, ?_, .inr rfl, by rw [hll]; exact hge, hcm, hsz, ?_⟩⟩, ?_⟩
  · show (w.heap.push _)[w.heap.size]? = _
    simp
  · unfold bytesRow
    rw [Array.toList_append, Array.toList_map, hll]
    rw [List.take_append_of_le_length (by rw [List.length_map, hll]; exact Nat.le_refl _), List.take_of_length_le (by rw [List.length_map, hll]; exact Nat.le_refl _)]
    rfl
  · exact ((Below.refl _ w).drew).alloc (Nat.le_refl _) _

theorem zzb16 (s t : ByteArray) (b : Bool) (ao : Option Addr) (n cap : Nat) (w : World) (hs : s.size ≤ maxLen) (ht : t.size ≤ maxLen) (hn : n ≤ maxLen) :
    Calls Try.prog 16 #[.string s, .string t, .bool b, .slice ao n cap] w fun e w' => (∃ r, e = .returned (.bool r)) ∧ w' = w := by
  unfold maxLen at hs ht hn
  go_enter Try.func16, Try.ntmps16
  go_wp2
  all_goals go_ret
  all_goals exact ⟨⟨_, rfl⟩, rfl⟩

theorem keyByte_at {z : Int} {b : Bool} (h : keyZ z = b) (w : World) : Calls Try.prog 17 #[.int .u8 z] w fun e w' => e = .returned (.bool b) ∧ w' = w := h ▸ keyByte_any z w

/-- The cases of one byte of a name. -/
theorem keyDot_cases (c : UInt8) : keyZ (c.toNat : Int) = true ∨ (keyZ (c.toNat : Int) = false ∧ c = 46) ∨ (keyZ (c.toNat : Int) = false ∧ c ≠ 46 ∧ keyDot c = false) := by
  cases hk : keyZ (c.toNat : Int) with
  | true => exact .inl rfl
  | false =>
    by_cases h : c = 46
    · exact .inr (.inl ⟨rfl, h⟩)
    · exact .inr (.inr ⟨rfl, h, by unfold keyDot; rw [hk, decide_eq_false h]; rfl⟩)
theorem keyDot_key {c : UInt8} (h : keyZ (c.toNat : Int) = true) : keyDot c = true := by unfold keyDot; rw [h]; rfl
theorem keyDot_46 : keyDot 46 = true := by decide

theorem all_of (s : ByteArray) (P : UInt8 → Prop) (h : ∀ j (hj : j < s.size), P s[j]) : ∀ c ∈ s.data.toList, P c := by
  intro c hc
  obtain ⟨j, hj, rfl⟩ := List.mem_iff_getElem.1 hc
  have hj' : j < s.size := by rw [size_list] at hj; exact hj
  exact h j hj'

set_option maxRecDepth 20000 in
set_option maxHeartbeats 4000000 in
theorem fhr_bare (s t : ByteArray) (a2 : Option Addr) (len2 cap2 : Nat) (tail : List UInt8) (w : World) (hs : s.size ≤ 262144) (ht : t.size ≤ 262144) (hl : len2 ≤ 262144)
    (hsrc : SrcB w (.slice a2 len2 cap2) tail) (htl : tail.length = len2) :
    Calls Try.prog 6 #[.string s, .string t, .bool false, .slice a2 len2 cap2] w fun e w' => e = .returned (.bool true) ∧ Below w.heap.size w w' := by
  have hsm : s.size ≤ maxLen := by unfold maxLen; omega
  have htm : t.size ≤ maxLen := by unfold maxLen; omega
  have hlm : len2 ≤ maxLen := by unfold maxLen; omega
  go_enter Try.func6, Try.ntmps6
  go_wp2_with fail
  refine (zzb16 _ _ _ _ _ _ _ hsm htm hlm).mono ?_
  rintro e w1 ⟨⟨r, rfl⟩, hw⟩
  obtain rfl := hw.symm
  cases r with
  | false =>
    go_wp2
    go_ret
    exact ⟨rfl, Below.refl _ _⟩
  | true =>
    go_wp2
    go_loop [9] (fun i => ∃ k : Nat, k ≤ s.size ∧ i = .int .i64 k ∧ ∀ j (hj : j < s.size), j < k → keyDot s[j] = true) (fun i => s.size - (intOf i).toNat)
    case atStart => exact ⟨0, Nat.zero_le _, rfl, fun j _ h => absurd h (Nat.not_lt_zero _)⟩
    case round =>
      obtain ⟨k, hk, rfl, hall⟩ := hrel
      have HA : Hid (∀ j (hj : j < s.size), j < k → keyDot s[j] = true) := hall
      clear hall
      by_cases hlt : k < s.size
      · have step : keyDot s[k] = true → ∀ j (hj : j < s.size), j < k + 1 → keyDot s[j] = true := by
          intro h j hj hjk
          by_cases e : j = k
          · subst e; exact h
          · exact HA.out j hj (by omega)
        rcases keyDot_cases s[k] with hz | ⟨hz, h46⟩ | ⟨hz, h46, _⟩
        · have HS : Hid (∀ j (hj : j < s.size), j < k + 1 → keyDot s[j] = true) := step (keyDot_key hz)
          have HK : Hid (∀ w, Calls Try.prog 17 #[.int .u8 (s[k].toNat : Int)] w fun e w' => e = .returned (.bool true) ∧ w' = w) := fun w => keyByte_at hz w
          clear step hz
          go_wp2_with (go_at_call 17; refine (HK.out _).mono ?_; rintro e w' ⟨rfl, rfl⟩)
          go_round
          case rel => exact ⟨k + 1, by omega, by go_num, HS.out⟩
          case measure => simp [intOf]; omega
        · have HS : Hid (∀ j (hj : j < s.size), j < k + 1 → keyDot s[j] = true) := step (by rw [h46]; exact keyDot_46)
          have HK : Hid (∀ w, Calls Try.prog 17 #[.int .u8 (s[k].toNat : Int)] w fun e w' => e = .returned (.bool false) ∧ w' = w) := fun w => keyByte_at hz w
          have t46 : ((s[k].toNat : Int) != 46) = false := by rw [h46]; rfl
          clear step hz h46
          go_wp2_with (go_at_call 17; refine (HK.out _).mono ?_; rintro e w' ⟨rfl, rfl⟩)
          go_round
          case rel => exact ⟨k + 1, by omega, by go_num, HS.out⟩
          case measure => simp [intOf]; omega
        · have HK : Hid (∀ w, Calls Try.prog 17 #[.int .u8 (s[k].toNat : Int)] w fun e w' => e = .returned (.bool false) ∧ w' = w) := fun w => keyByte_at hz w
          have t46 : ((s[k].toNat : Int) != 46) = true := by simp only [bne, u8_ne' (n := 46) h46 rfl, Bool.not_false]
          clear step hz h46
          go_wp2_with (go_at_call 17; refine (HK.out _).mono ?_; rintro e w' ⟨rfl, rfl⟩)
          go_ret
          exact ⟨rfl, Below.refl _ _⟩
      · have hall : ∀ c ∈ s.data.toList, keyDot c = true := all_of s _ (fun j hj => HA.out j hj (by omega))
        clear HA
        have hsl := size_list s
        obtain ⟨d1, hd1⟩ : ∃ d1 : List UInt8, d1 = s.data.toList ++ [93] := ⟨_, rfl⟩
        obtain ⟨d2, hd2⟩ : ∃ d2 : List UInt8, d2 = d1 ++ tail := ⟨_, rfl⟩
        have l1 : d1.length = s.size + 1 := by rw [hd1]; simp [hsl]
        have l2 : d2.length = d1.length + len2 := by rw [hd2, List.length_append, htl]
        have s1 : Small d1 := small_of (by omega)
        have s2 : Small d2 := small_of (by omega)
        have HZ : Hid (∀ (w1 : World) (v : Value), OwnB w1 0 v d2 → Calls Try.prog 14 #[v, .int .i64 0] w1 fun e w' => e = .returned (.tuple #[.agg #[.string ⟨(s.data.toList.map lowB).toArray⟩, .string ⟨#[]⟩, .bool false], .bool true, .int .i64 (d1.length : Int)]) ∧ Below w1.heap.size w1 w') := by
          intro w1 v ho
          obtain ⟨us, hu⟩ := isU_ex d2 _ 0 (Nat.le_refl _)
          have hz := zzheader_any ho (by omega) 0 us hu _ (hdr_bare (tail := tail) hall (by rw [hd2, hd1]; simp) hu)
          rw [l1, ← hsl]
          exact hz
        obtain ⟨v0, w0, hcb, B0⟩ := run_bytes_b w s (by omega)
        have H1 : Hid (d1 = s.data.toList ++ [93]) := hd1
        have H2 : Hid (d2 = d1 ++ tail) := hd2
        have HLA : Hid (∀ w1 : World, Calls Try.prog 19 #[.string s] w1 fun e w' => e = .returned (.string ⟨(s.data.toList.map lowB).toArray⟩) ∧ Below w1.heap.size w1 w') := fun w1 => lowerAll_any s w1 (by omega)
        obtain ⟨ls, hls⟩ : ∃ ls : ByteArray, ls = ⟨(s.data.toList.map lowB).toArray⟩ := ⟨_, rfl⟩
        rw [← hls] at HZ HLA
        clear hall hsl hd1 hd2 l1 l2 hls
        go_wp2_with (first
          | (at_builtin; refine wpList_append_b rfl (.tmp 73) (.tmp 74) rfl _ _ _ rfl (B0.alloc _).own [93] (src1 93 rfl rfl) d1 H1.out s1 (B0.alloc _).size ?_; intro v1 w1 ho1 hg1 _; have B1 := (B0.alloc _).appended ho1 hg1; clear ho1 hg1; obtain ⟨ao1, cap1, rfl, _⟩ := B1.own.slice)
          | (at_builtin; refine wpList_append_b rfl (.tmp 78) (.tmp 79) rfl _ _ _ rfl B1.own tail (hsrc.below B1.bel) d2 H2.out s2 B1.size ?_; intro v2 w2 ho2 hg2 _; have B2 := B1.appended ho2 hg2; clear ho2 hg2)
          | (go_at_call 14; refine (HZ.out _ _ B2.own0).mono ?_; rintro e w3 ⟨rfl, hb3⟩; have B3 : Below w.heap.size w w3 := B2.bel.trans (hb3.mono B2.size); clear hb3))
        obtain ⟨W4, hW4⟩ : ∃ W, W = w3.alloc (.cells #[.string ls, .string ⟨#[]⟩, .bool false] 29) := ⟨_, rfl⟩
        have c0 : W4.cell? ⟨w3.heap.size, 0, none⟩ = some (.string ls) := by rw [hW4, World.cell?_alloc_mark]; rfl
        have c1 : W4.cell? ⟨w3.heap.size, 1, none⟩ = some (.string ⟨#[]⟩) := by rw [hW4, World.cell?_alloc_mark]; rfl
        have c2 : W4.cell? ⟨w3.heap.size, 2, none⟩ = some (.bool false) := by rw [hW4, World.cell?_alloc_mark]; rfl
        have hz4 : w3.heap.size < W4.heap.size := by rw [hW4]; simp
        have B4 : Below w.heap.size w W4 := by rw [hW4]; exact B3.alloc B3.size _
        rw [← hW4]
        clear hW4 HZ H1 H2 s1 s2 B0 B1 B2 hcb
        go_region_held3 (fun w' => w'.cell? ⟨w3.heap.size, 0, none⟩ = some (.string ls) ∧ w'.cell? ⟨w3.heap.size, 1, none⟩ = some (.string ⟨#[]⟩) ∧ w'.cell? ⟨w3.heap.size, 2, none⟩ = some (.bool false) ∧ Below w.heap.size w w') (first | exact ⟨c0, c1, c2, B4.drew⟩ | exact ⟨z0, z1, z2, B5⟩)
          ((go_at_call 19; refine (HLA.out _).mono ?_; rintro e wz ⟨rfl, hbz⟩; have hbw : Below W4.heap.size W4 wz := (Below.refl _ W4).drew.trans hbz; have z0 := (hbw.cell (p := ⟨w3.heap.size, 0, none⟩) hz4).trans c0; have z1 := (hbw.cell (p := ⟨w3.heap.size, 1, none⟩) hz4).trans c1; have z2 := (hbw.cell (p := ⟨w3.heap.size, 2, none⟩) hz4).trans c2; have B5 : Below w.heap.size w wz := B4.trans (hbw.mono B4.size); clear hbz hbw))
        all_goals go_wp2
        all_goals go_ret
        all_goals exact ⟨rfl, B5⟩

set_option maxRecDepth 20000 in
set_option maxHeartbeats 4000000 in
theorem fhr_sub (s t : ByteArray) (a2 : Option Addr) (len2 cap2 : Nat) (tail : List UInt8) (w : World) (hs : s.size ≤ 262144) (ht : t.size ≤ 262144) (hl : len2 ≤ 262144)
    (hsrc : SrcB w (.slice a2 len2 cap2) tail) (htl : tail.length = len2) :
    Calls Try.prog 6 #[.string s, .string t, .bool true, .slice a2 len2 cap2] w fun e w' => e = .returned (.bool true) ∧ Below w.heap.size w w' := by
  have hsm : s.size ≤ maxLen := by unfold maxLen; omega
  have htm : t.size ≤ maxLen := by unfold maxLen; omega
  have hlm : len2 ≤ maxLen := by unfold maxLen; omega
  go_enter Try.func6, Try.ntmps6
  go_wp2_with fail
  refine (zzb16 _ _ _ _ _ _ _ hsm htm hlm).mono ?_
  rintro e w1 ⟨⟨r, rfl⟩, hw⟩
  obtain rfl := hw.symm
  cases r with
  | false =>
    go_wp2
    go_ret
    exact ⟨rfl, Below.refl _ _⟩
  | true =>
    go_wp2
    go_loop [9] (fun i => ∃ k : Nat, k ≤ s.size ∧ i = .int .i64 k ∧ ∀ j (hj : j < s.size), j < k → keyDot s[j] = true) (fun i => s.size - (intOf i).toNat)
    case atStart => exact ⟨0, Nat.zero_le _, rfl, fun j _ h => absurd h (Nat.not_lt_zero _)⟩
    case round =>
      obtain ⟨k, hk, rfl, hall⟩ := hrel
      have HA : Hid (∀ j (hj : j < s.size), j < k → keyDot s[j] = true) := hall
      clear hall
      by_cases hlt : k < s.size
      · have step : keyDot s[k] = true → ∀ j (hj : j < s.size), j < k + 1 → keyDot s[j] = true := by
          intro h j hj hjk
          by_cases e : j = k
          · subst e; exact h
          · exact HA.out j hj (by omega)
        rcases keyDot_cases s[k] with hz | ⟨hz, h46⟩ | ⟨hz, h46, _⟩
        · have HS : Hid (∀ j (hj : j < s.size), j < k + 1 → keyDot s[j] = true) := step (keyDot_key hz)
          have HK : Hid (∀ w, Calls Try.prog 17 #[.int .u8 (s[k].toNat : Int)] w fun e w' => e = .returned (.bool true) ∧ w' = w) := fun w => keyByte_at hz w
          clear step hz
          go_wp2_with (go_at_call 17; refine (HK.out _).mono ?_; rintro e w' ⟨rfl, rfl⟩)
          go_round
          case rel => exact ⟨k + 1, by omega, by go_num, HS.out⟩
          case measure => simp [intOf]; omega
        · have HS : Hid (∀ j (hj : j < s.size), j < k + 1 → keyDot s[j] = true) := step (by rw [h46]; exact keyDot_46)
          have HK : Hid (∀ w, Calls Try.prog 17 #[.int .u8 (s[k].toNat : Int)] w fun e w' => e = .returned (.bool false) ∧ w' = w) := fun w => keyByte_at hz w
          have t46 : ((s[k].toNat : Int) != 46) = false := by rw [h46]; rfl
          clear step hz h46
          go_wp2_with (go_at_call 17; refine (HK.out _).mono ?_; rintro e w' ⟨rfl, rfl⟩)
          go_round
          case rel => exact ⟨k + 1, by omega, by go_num, HS.out⟩
          case measure => simp [intOf]; omega
        · have HK : Hid (∀ w, Calls Try.prog 17 #[.int .u8 (s[k].toNat : Int)] w fun e w' => e = .returned (.bool false) ∧ w' = w) := fun w => keyByte_at hz w
          have t46 : ((s[k].toNat : Int) != 46) = true := by simp only [bne, u8_ne' (n := 46) h46 rfl, Bool.not_false]
          clear step hz h46
          go_wp2_with (go_at_call 17; refine (HK.out _).mono ?_; rintro e w' ⟨rfl, rfl⟩)
          go_ret
          exact ⟨rfl, Below.refl _ _⟩
      · have hall : ∀ c ∈ s.data.toList, keyDot c = true := all_of s _ (fun j hj => HA.out j hj (by omega))
        have HN : Hid (∀ c ∈ s.data.toList, keyDot c = true) := hall
        clear HA hall
        go_wp2
        go_loop [10] (fun i => ∃ k : Nat, k ≤ t.size ∧ i = .int .i64 k ∧ ∀ j (hj : j < t.size), j < k → t[j] ≠ 10) (fun i => t.size - (intOf i).toNat)
        case atStart => exact ⟨0, Nat.zero_le _, rfl, fun j _ h => absurd h (Nat.not_lt_zero _)⟩
        case round =>
          clear hlt hk
          obtain ⟨k, hk, rfl, hall⟩ := hrel
          have HA : Hid (∀ j (hj : j < t.size), j < k → t[j] ≠ 10) := hall
          clear hall
          by_cases hlt : k < t.size
          · by_cases h10 : t[k] = 10
            · have t10 : ((t[k].toNat : Int) == 10) = true := by rw [h10]; rfl
              clear h10
              go_wp2
              go_ret
              exact ⟨rfl, Below.refl _ _⟩
            · have HS : Hid (∀ j (hj : j < t.size), j < k + 1 → t[j] ≠ 10) := by
                intro j hj hjk
                by_cases e : j = k
                · subst e; exact h10
                · exact HA.out j hj (by omega)
              have t10 : ((t[k].toNat : Int) == 10) = false := u8_ne' h10 rfl
              clear h10
              go_wp2
              go_round
              case rel => exact ⟨k + 1, by omega, by go_num, HS.out⟩
              case measure => simp [intOf]; omega
          · have hall : ∀ c ∈ t.data.toList, c ≠ 10 := all_of t _ (fun j hj => HA.out j hj (by omega))
            clear HA
            have hsl := size_list s
            have htl2 := size_list t
            have hql := QS_len t.data.toList
            obtain ⟨e1, he1⟩ : ∃ e1 : List UInt8, e1 = s.data.toList ++ [32, 34] := ⟨_, rfl⟩
            obtain ⟨e2, he2⟩ : ∃ e2 : List UInt8, e2 = e1 ++ QS t.data.toList := ⟨_, rfl⟩
            obtain ⟨e3, he3⟩ : ∃ e3 : List UInt8, e3 = e2 ++ [34] := ⟨_, rfl⟩
            obtain ⟨d1, hd1⟩ : ∃ d1 : List UInt8, d1 = e3 ++ [93] := ⟨_, rfl⟩
            obtain ⟨d2, hd2⟩ : ∃ d2 : List UInt8, d2 = d1 ++ tail := ⟨_, rfl⟩
            have m1 : e1.length = s.size + 2 := by rw [he1]; simp [hsl]
            have m2 : e2.length = e1.length + (QS t.data.toList).length := by rw [he2, List.length_append]
            have m3 : e3.length = e2.length + 1 := by rw [he3]; simp
            have l1 : d1.length = e3.length + 1 := by rw [hd1]; simp
            have l2 : d2.length = d1.length + len2 := by rw [hd2, List.length_append, htl]
            have r1 : Small e1 := small_of (by omega)
            have r3 : Small e3 := small_of (by omega)
            have s1 : Small d1 := small_of (by omega)
            have s2 : Small d2 := small_of (by omega)
            have HZ : Hid (∀ (w1 : World) (v : Value), OwnB w1 0 v d2 → Calls Try.prog 14 #[v, .int .i64 0] w1 fun e w' => e = .returned (.tuple #[.agg #[.string ⟨(s.data.toList.map lowB).toArray⟩, .string t, .bool true], .bool true, .int .i64 (d1.length : Int)]) ∧ Below w1.heap.size w1 w') := by
              intro w1 v ho
              obtain ⟨us, hu⟩ := isU_ex d2 _ 0 (Nat.le_refl _)
              have hz := zzheader_any ho (by omega) 0 us hu _ (hdr_sub (tail := tail) HN.out hall (by rw [hd2, hd1, he3, he2, he1]; simp) hu)
              have el : d1.length = s.data.toList.length + 2 + (QS t.data.toList).length + 2 := by omega
              rw [el]
              have hz2 := hz
              simp only [str_back] at hz2
              exact hz2
            obtain ⟨v0, w0, hcb, B0⟩ := run_bytes_b w s (by omega)
            have G1 : Hid (e1 = s.data.toList ++ [32, 34]) := he1
            have G2 : Hid (e2 = e1 ++ QS t.data.toList) := he2
            have G3 : Hid (e3 = e2 ++ [34]) := he3
            have hx20 : e1.length ≤ 1048576 := by omega
            have ht20 : t.size ≤ 1048576 := by omega
            have H1 : Hid (d1 = e3 ++ [93]) := hd1
            have H2 : Hid (d2 = d1 ++ tail) := hd2
            have HLA : Hid (∀ w1 : World, Calls Try.prog 19 #[.string s] w1 fun e w' => e = .returned (.string ⟨(s.data.toList.map lowB).toArray⟩) ∧ Below w1.heap.size w1 w') := fun w1 => lowerAll_any s w1 (by omega)
            obtain ⟨ls, hls⟩ : ∃ ls : ByteArray, ls = ⟨(s.data.toList.map lowB).toArray⟩ := ⟨_, rfl⟩
            rw [← hls] at HZ HLA
            clear hall hsl hd1 hd2 l1 l2 hls htl2 hql he1 he2 he3 m1 m2 m3 HN
            go_wp2_with (first
              | (at_builtin; refine wpList_append_b rfl (.tmp 63) (.tmp 64) rfl _ _ _ rfl (B0.alloc _).own [32, 34] (src2 32 34 rfl rfl) e1 G1.out r1 (B0.alloc _).size ?_; intro y1 x1 ho1 hg1 _; have E1 := (B0.alloc _).appended ho1 hg1; clear ho1 hg1)
              | (go_at_call 18; refine (quoteSub_any _ _ _ _ _ ht20 hx20 E1).mono ?_; rintro e x2 ⟨y2, rfl, E2'⟩; have E2 := (show BI _ _ _ e2 from G2.out ▸ E2'); clear E2')
              | (at_builtin; refine wpList_append_b rfl (.tmp 69) (.tmp 70) rfl _ _ _ rfl (E2.alloc _).own [34] (src1 34 rfl rfl) e3 G3.out r3 (E2.alloc _).size ?_; intro y3 x3 ho1 hg1 _; have E3 := (E2.alloc _).appended ho1 hg1; clear ho1 hg1)
              | (at_builtin; refine wpList_append_b rfl (.tmp 73) (.tmp 74) rfl _ _ _ rfl (E3.alloc _).own [93] (src1 93 rfl rfl) d1 H1.out s1 (E3.alloc _).size ?_; intro v1 w1 ho1 hg1 _; have B1 := (E3.alloc _).appended ho1 hg1; clear ho1 hg1; obtain ⟨ao1, cap1, rfl, _⟩ := B1.own.slice)
              | (at_builtin; refine wpList_append_b rfl (.tmp 78) (.tmp 79) rfl _ _ _ rfl B1.own tail (hsrc.below B1.bel) d2 H2.out s2 B1.size ?_; intro v2 w2 ho2 hg2 _; have B2 := B1.appended ho2 hg2; clear ho2 hg2)
              | (go_at_call 14; refine (HZ.out _ _ B2.own0).mono ?_; rintro e w3 ⟨rfl, hb3⟩; have B3 : Below w.heap.size w w3 := B2.bel.trans (hb3.mono B2.size); clear hb3))
            obtain ⟨W4, hW4⟩ : ∃ W, W = w3.alloc (.cells #[.string ls, .string t, .bool true] 29) := ⟨_, rfl⟩
            have c0 : W4.cell? ⟨w3.heap.size, 0, none⟩ = some (.string ls) := by rw [hW4, World.cell?_alloc_mark]; rfl
            have c1 : W4.cell? ⟨w3.heap.size, 1, none⟩ = some (.string t) := by rw [hW4, World.cell?_alloc_mark]; rfl
            have c2 : W4.cell? ⟨w3.heap.size, 2, none⟩ = some (.bool true) := by rw [hW4, World.cell?_alloc_mark]; rfl
            have hz4 : w3.heap.size < W4.heap.size := by rw [hW4]; simp
            have B4 : Below w.heap.size w W4 := by rw [hW4]; exact B3.alloc B3.size _
            rw [← hW4]
            clear hW4 HZ H1 H2 s1 s2 B0 B1 B2 hcb E1 E2 E3 G1 G2 G3 r1 r3
            go_region_held3 (fun w' => w'.cell? ⟨w3.heap.size, 0, none⟩ = some (.string ls) ∧ w'.cell? ⟨w3.heap.size, 1, none⟩ = some (.string t) ∧ w'.cell? ⟨w3.heap.size, 2, none⟩ = some (.bool true) ∧ Below w.heap.size w w') (first | exact ⟨c0, c1, c2, B4.drew⟩ | exact ⟨z0, z1, z2, B5⟩)
              ((go_at_call 19; refine (HLA.out _).mono ?_; rintro e wz ⟨rfl, hbz⟩; have hbw : Below W4.heap.size W4 wz := (Below.refl _ W4).drew.trans hbz; have z0 := (hbw.cell (p := ⟨w3.heap.size, 0, none⟩) hz4).trans c0; have z1 := (hbw.cell (p := ⟨w3.heap.size, 1, none⟩) hz4).trans c1; have z2 := (hbw.cell (p := ⟨w3.heap.size, 2, none⟩) hz4).trans c2; have B5 : Below w.heap.size w wz := B4.trans (hbw.mono B4.size); clear hbz hbw))
            all_goals go_wp2
            all_goals go_ret
            all_goals exact ⟨rfl, B5⟩

set_option maxHeartbeats 1000000 in
theorem fhr_out (s t : ByteArray) (b : Bool) (a2 : Option Addr) (len2 cap2 : Nat) (w : World) (hs : s.size ≤ maxLen) (ht : t.size ≤ maxLen) (hl : len2 ≤ maxLen) (ho : 262144 < s.size ∨ (s.size ≤ 262144 ∧ 262144 < t.size) ∨ (s.size ≤ 262144 ∧ t.size ≤ 262144 ∧ 262144 < len2)) :
    Calls Try.prog 6 #[.string s, .string t, .bool b, .slice a2 len2 cap2] w fun e w' => e = .returned (.bool true) ∧ Below w.heap.size w w' := by
  rcases ho with h | ⟨h, h'⟩ | ⟨h, h', h''⟩
  all_goals
    go_enter Try.func6, Try.ntmps6
    go_wp2_with fail
    refine (zzb16 _ _ _ _ _ _ _ hs ht hl).mono ?_
    rintro e w1 ⟨⟨r, rfl⟩, rfl⟩
    cases r with
    | false =>
      go_wp2
      go_ret
      exact ⟨rfl, Below.refl _ _⟩
    | true =>
      go_wp2
      go_ret
      exact ⟨rfl, Below.refl _ _⟩

theorem fhr_walk (s t : ByteArray) (b : Bool) (a2 : Option Addr) (len2 cap2 : Nat) (tail : List UInt8) (w : World) (hs : s.size ≤ maxLen) (ht : t.size ≤ maxLen) (hl : len2 ≤ maxLen)
    (hsrc : SrcB w (.slice a2 len2 cap2) tail) (htl : tail.length = len2) :
    Calls Try.prog 6 #[.string s, .string t, .bool b, .slice a2 len2 cap2] w fun e w' => e = .returned (.bool true) ∧ Below w.heap.size w w' := by
  by_cases h : s.size ≤ 262144 ∧ t.size ≤ 262144 ∧ len2 ≤ 262144
  · cases b with
    | false => exact fhr_bare s t a2 len2 cap2 tail w h.1 h.2.1 h.2.2 hsrc htl
    | true => exact fhr_sub s t a2 len2 cap2 tail w h.1 h.2.1 h.2.2 hsrc htl
  · exact fhr_out s t b a2 len2 cap2 w hs ht hl (by omega)

end Go.Proofs.Qxb6601523a
