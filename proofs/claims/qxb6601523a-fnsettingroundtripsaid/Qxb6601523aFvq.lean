import Derived.Test.Qxb6601523aZZValue
import Derived.Test.Qxb6601523aZzb
import Derived.Test.Qxb6601523aBuild
namespace Go.Proofs.Qxb6601523a
open Go.RowKit

theorem str_back (s : ByteArray) : (⟨s.data.toList.toArray⟩ : ByteArray) = s := by
  rw [Array.toArray_toList]

theorem small_of {l : List UInt8} (h : l.length ≤ 1048600000) : Small l := by unfold Small; omega

theorem size_list (s : ByteArray) : s.data.toList.length = s.size := by rw [Array.length_toList]; rfl

set_option maxRecDepth 20000 in
set_option maxHeartbeats 2000000 in
theorem fvq_pad (s : ByteArray) (a2 : Option Addr) (len2 cap2 : Nat) (tail : List UInt8) (w : World) (hs : s.size ≤ 262144) (hl : len2 ≤ 262144)
    (hsrc : SrcB w (.slice a2 len2 cap2) tail) (htl : tail.length = len2) :
    Calls Try.prog 3 #[.string s, .bool true, .slice a2 len2 cap2] w fun e w' => e = .returned (.bool true) ∧ Below w.heap.size w w' := by
  have hql := Q_len s.data.toList
  have hsl := size_list s
  obtain ⟨d1, hd1⟩ : ∃ d1 : List UInt8, d1 = [] ++ [32, 9] := ⟨_, rfl⟩
  obtain ⟨d2, hd2⟩ : ∃ d2 : List UInt8, d2 = d1 ++ [34] := ⟨_, rfl⟩
  obtain ⟨d3, hd3⟩ : ∃ d3 : List UInt8, d3 = d2 ++ Q s.data.toList := ⟨_, rfl⟩
  obtain ⟨d4, hd4⟩ : ∃ d4 : List UInt8, d4 = d3 ++ [34] := ⟨_, rfl⟩
  obtain ⟨d5, hd5⟩ : ∃ d5 : List UInt8, d5 = d4 ++ [32, 59, 32, 34, 120, 35] := ⟨_, rfl⟩
  obtain ⟨d6, hd6⟩ : ∃ d6 : List UInt8, d6 = d5 ++ [10] := ⟨_, rfl⟩
  obtain ⟨d7, hd7⟩ : ∃ d7 : List UInt8, d7 = d6 ++ tail := ⟨_, rfl⟩
  have l1 : d1.length = 2 := by rw [hd1]; rfl
  have l2 : d2.length = 3 := by rw [hd2]; simp [l1]
  have l3 : d3.length = 3 + (Q s.data.toList).length := by rw [hd3, List.length_append, l2]
  have l4 : d4.length = d3.length + 1 := by rw [hd4]; simp
  have l5 : d5.length = d4.length + 6 := by rw [hd5]; simp
  have l6 : d6.length = d5.length + 1 := by rw [hd6]; simp
  have l7 : d7.length = d6.length + len2 := by rw [hd7, List.length_append, htl]
  have s1 : Small d1 := small_of (by omega)
  have s2 : Small d2 := small_of (by omega)
  have s4 : Small d4 := small_of (by omega)
  have s5 : Small d5 := small_of (by omega)
  have s6 : Small d6 := small_of (by omega)
  have s7 : Small d7 := small_of (by omega)
  have HZ : Hid (∀ (w1 : World) (v : Value), OwnB w1 0 v d7 → Calls Try.prog 11 #[v, .int .i64 0] w1 fun e w' => e = .returned (.tuple #[.string s, .bool true, .int .i64 (d5.length : Int)]) ∧ Below w1.heap.size w1 w') := by
    intro w1 v ho
    have hz := zzvalue_rt s.data.toList (32 :: 59 :: ([32, 34, 120, 35] ++ 10 :: tail)) (10 :: tail) [32, 9] ho (by omega) (by omega) (by decide) (by rw [hd7, hd6, hd5, hd4, hd3, hd2, hd1]; simp) (.inl ⟨_, rfl⟩) (.inr ⟨[32, 34, 120, 35], rfl, by decide⟩) d5.length (by rw [l7, l6, List.length_cons, htl]; omega)
    rw [str_back] at hz
    exact hz
  have H1 : Hid (d1 = [] ++ [32, 9]) := hd1
  have H2 : Hid (d2 = d1 ++ [34]) := hd2
  have H3 : Hid (d3 = d2 ++ Q s.data.toList) := hd3
  have H4 : Hid (d4 = d3 ++ [34]) := hd4
  have H5 : Hid (d5 = d4 ++ [32, 59, 32, 34, 120, 35]) := hd5
  have H6 : Hid (d6 = d5 ++ [10]) := hd6
  have H7 : Hid (d7 = d6 ++ tail) := hd7
  have hx20 : d2.length ≤ 1048576 := by omega
  have hs20 : s.size ≤ 1048576 := by omega
  have B0 := BI.start w
  have hsm : s.size ≤ maxLen := by unfold maxLen; omega
  have hlm : len2 ≤ maxLen := by unfold maxLen; omega
  clear hd1 hd2 hd3 hd4 hd5 hd6 hd7 l1 l2 l3 l4 l5 l6 l7 hql hsl htl
  go_enter Try.func3, Try.ntmps3
  go_wp2_with fail
  refine (zzb9 _ _ _ _ _ _ hsm hlm).mono ?_
  rintro e w1 ⟨⟨r, rfl, _⟩, rfl⟩
  cases r with
  | false =>
    go_wp2
    go_ret
    exact ⟨rfl, Below.refl _ _⟩
  | true =>
    go_wp2_with (first
      | (at_builtin; refine wpList_append_b rfl (.tmp 24) (.tmp 25) rfl _ _ _ rfl (B0.alloc _).own [32, 9] (src2 32 9 rfl rfl) d1 H1.out s1 (B0.alloc _).size ?_; intro v1 w1 ho1 hg1 _; have B1 := (B0.alloc _).appended ho1 hg1; clear ho1 hg1)
      | (at_builtin; refine wpList_append_b rfl (.tmp 27) (.tmp 28) rfl _ _ _ rfl (B1.alloc _).own [34] (src1 34 rfl rfl) d2 H2.out s2 (B1.alloc _).size ?_; intro v2 w2 ho2 hg2 _; have B2 := (B1.alloc _).appended ho2 hg2; clear ho2 hg2)
      | (go_at_call 10; refine (quote_any _ _ _ _ _ hs20 hx20 B2.own B2.size).mono ?_; rintro e w3 ⟨v3, rfl, ho3, hb3, _⟩; have B3 := B2.called ho3 hb3 H3.out; clear ho3 hb3)
      | (at_builtin; refine wpList_append_b rfl (.tmp 33) (.tmp 34) rfl _ _ _ rfl (B3.alloc _).own [34] (src1 34 rfl rfl) d4 H4.out s4 (B3.alloc _).size ?_; intro v4 w4 ho4 hg4 _; have B4 := (B3.alloc _).appended ho4 hg4; clear ho4 hg4)
      | (at_builtin; refine wpList_append_b rfl (.tmp 37) (.tmp 38) rfl _ _ _ rfl (B4.alloc _).own [32, 59, 32, 34, 120, 35] (src6 32 59 32 34 120 35 rfl rfl) d5 H5.out s5 (B4.alloc _).size ?_; intro v5 w5 ho5 hg5 _; have B5 := (B4.alloc _).appended ho5 hg5; clear ho5 hg5; obtain ⟨ao5, cap5, rfl, _⟩ := B5.own.slice)
      | (at_builtin; refine wpList_append_b rfl (.tmp 42) (.tmp 43) rfl _ _ _ rfl (B5.alloc _).own [10] (src1 10 rfl rfl) d6 H6.out s6 (B5.alloc _).size ?_; intro v6 w6 ho6 hg6 _; have B6 := (B5.alloc _).appended ho6 hg6; clear ho6 hg6)
      | (at_builtin; refine wpList_append_b rfl (.tmp 45) (.tmp 46) rfl _ _ _ rfl B6.own tail (hsrc.below B6.bel) d7 H7.out s7 B6.size ?_; intro v7 w7 ho7 hg7 _; have B7 := B6.appended ho7 hg7; clear ho7 hg7)
      | (go_at_call 11; refine (HZ.out _ _ B7.own0).mono ?_; rintro e w8 ⟨rfl, hb8⟩))
    go_ret
    exact ⟨rfl, B7.bel.trans (hb8.mono B7.size)⟩

set_option maxRecDepth 20000 in
set_option maxHeartbeats 2000000 in
theorem fvq_bare (s : ByteArray) (a2 : Option Addr) (len2 cap2 : Nat) (tail : List UInt8) (w : World) (hs : s.size ≤ 262144) (hl : len2 ≤ 262144)
    (hsrc : SrcB w (.slice a2 len2 cap2) tail) (htl : tail.length = len2) :
    Calls Try.prog 3 #[.string s, .bool false, .slice a2 len2 cap2] w fun e w' => e = .returned (.bool true) ∧ Below w.heap.size w w' := by
  have hql := Q_len s.data.toList
  have hsl := size_list s
  obtain ⟨d2, hd2⟩ : ∃ d2 : List UInt8, d2 = [] ++ [34] := ⟨_, rfl⟩
  obtain ⟨d3, hd3⟩ : ∃ d3 : List UInt8, d3 = d2 ++ Q s.data.toList := ⟨_, rfl⟩
  obtain ⟨d4, hd4⟩ : ∃ d4 : List UInt8, d4 = d3 ++ [34] := ⟨_, rfl⟩
  obtain ⟨d6, hd6⟩ : ∃ d6 : List UInt8, d6 = d4 ++ [10] := ⟨_, rfl⟩
  obtain ⟨d7, hd7⟩ : ∃ d7 : List UInt8, d7 = d6 ++ tail := ⟨_, rfl⟩
  have l2 : d2.length = 1 := by rw [hd2]; rfl
  have l3 : d3.length = 1 + (Q s.data.toList).length := by rw [hd3, List.length_append, l2]
  have l4 : d4.length = d3.length + 1 := by rw [hd4]; simp
  have l6 : d6.length = d4.length + 1 := by rw [hd6]; simp
  have l7 : d7.length = d6.length + len2 := by rw [hd7, List.length_append, htl]
  have s2 : Small d2 := small_of (by omega)
  have s4 : Small d4 := small_of (by omega)
  have s6 : Small d6 := small_of (by omega)
  have s7 : Small d7 := small_of (by omega)
  have HZ : Hid (∀ (w1 : World) (v : Value), OwnB w1 0 v d7 → Calls Try.prog 11 #[v, .int .i64 0] w1 fun e w' => e = .returned (.tuple #[.string s, .bool true, .int .i64 (d4.length : Int)]) ∧ Below w1.heap.size w1 w') := by
    intro w1 v ho
    have hz := zzvalue_rt s.data.toList (10 :: tail) (10 :: tail) [] ho (by omega) (by omega) (by decide) (by rw [hd7, hd6, hd4, hd3, hd2]; simp) (.inl ⟨_, rfl⟩) (.inl rfl) d4.length (by rw [l7, l6, List.length_cons, htl]; omega)
    rw [str_back] at hz
    exact hz
  have H2 : Hid (d2 = [] ++ [34]) := hd2
  have H3 : Hid (d3 = d2 ++ Q s.data.toList) := hd3
  have H4 : Hid (d4 = d3 ++ [34]) := hd4
  have H6 : Hid (d6 = d4 ++ [10]) := hd6
  have H7 : Hid (d7 = d6 ++ tail) := hd7
  have hx20 : d2.length ≤ 1048576 := by omega
  have hs20 : s.size ≤ 1048576 := by omega
  have B0 := BI.start w
  have hsm : s.size ≤ maxLen := by unfold maxLen; omega
  have hlm : len2 ≤ maxLen := by unfold maxLen; omega
  clear hd2 hd3 hd4 hd6 hd7 l2 l3 l4 l6 l7 hql hsl htl
  go_enter Try.func3, Try.ntmps3
  go_wp2_with fail
  refine (zzb9 _ _ _ _ _ _ hsm hlm).mono ?_
  rintro e w1 ⟨⟨r, rfl, _⟩, rfl⟩
  cases r with
  | false =>
    go_wp2
    go_ret
    exact ⟨rfl, Below.refl _ _⟩
  | true =>
    go_wp2_with (first
      | (at_builtin; refine wpList_append_b rfl (.tmp 27) (.tmp 28) rfl _ _ _ rfl (B0.alloc _).own [34] (src1 34 rfl rfl) d2 H2.out s2 (B0.alloc _).size ?_; intro v2 w2 ho2 hg2 _; have B2 := (B0.alloc _).appended ho2 hg2; clear ho2 hg2)
      | (go_at_call 10; refine (quote_any _ _ _ _ _ hs20 hx20 B2.own B2.size).mono ?_; rintro e w3 ⟨v3, rfl, ho3, hb3, _⟩; have B3 := B2.called ho3 hb3 H3.out; clear ho3 hb3)
      | (at_builtin; refine wpList_append_b rfl (.tmp 33) (.tmp 34) rfl _ _ _ rfl (B3.alloc _).own [34] (src1 34 rfl rfl) d4 H4.out s4 (B3.alloc _).size ?_; intro v4 w4 ho4 hg4 _; have B4 := (B3.alloc _).appended ho4 hg4; clear ho4 hg4; obtain ⟨ao5, cap5, rfl, _⟩ := B4.own.slice)
      | (at_builtin; refine wpList_append_b rfl (.tmp 42) (.tmp 43) rfl _ _ _ rfl (B4.alloc _).own [10] (src1 10 rfl rfl) d6 H6.out s6 (B4.alloc _).size ?_; intro v6 w6 ho6 hg6 _; have B6 := (B4.alloc _).appended ho6 hg6; clear ho6 hg6)
      | (at_builtin; refine wpList_append_b rfl (.tmp 45) (.tmp 46) rfl _ _ _ rfl B6.own tail (hsrc.below B6.bel) d7 H7.out s7 B6.size ?_; intro v7 w7 ho7 hg7 _; have B7 := B6.appended ho7 hg7; clear ho7 hg7)
      | (go_at_call 11; refine (HZ.out _ _ B7.own0).mono ?_; rintro e w8 ⟨rfl, hb8⟩))
    go_ret
    exact ⟨rfl, B7.bel.trans (hb8.mono B7.size)⟩

set_option maxHeartbeats 1000000 in
theorem fvq_out (s : ByteArray) (pad : Bool) (a2 : Option Addr) (len2 cap2 : Nat) (w : World) (hs : s.size ≤ maxLen) (hl : len2 ≤ maxLen) (ho : 262144 < s.size ∨ 262144 < len2) :
    Calls Try.prog 3 #[.string s, .bool pad, .slice a2 len2 cap2] w fun e w' => e = .returned (.bool true) ∧ Below w.heap.size w w' := by
  by_cases h1 : 262144 < s.size
  · go_enter Try.func3, Try.ntmps3
    go_wp2_with fail
    refine (zzb9 _ _ _ _ _ _ hs hl).mono ?_
    rintro e w1 ⟨⟨r, rfl, _⟩, rfl⟩
    cases r with
    | false =>
      go_wp2
      go_ret
      exact ⟨rfl, Below.refl _ _⟩
    | true =>
      go_wp2
      go_ret
      exact ⟨rfl, Below.refl _ _⟩
  · have h2 : 262144 < len2 := by omega
    have h3 : s.size ≤ 262144 := by omega
    clear ho
    go_enter Try.func3, Try.ntmps3
    go_wp2_with fail
    refine (zzb9 _ _ _ _ _ _ hs hl).mono ?_
    rintro e w1 ⟨⟨r, rfl, _⟩, rfl⟩
    cases r with
    | false =>
      go_wp2
      go_ret
      exact ⟨rfl, Below.refl _ _⟩
    | true =>
      go_wp2
      go_ret
      exact ⟨rfl, Below.refl _ _⟩

theorem fvq_walk (s : ByteArray) (pad : Bool) (a2 : Option Addr) (len2 cap2 : Nat) (tail : List UInt8) (w : World) (hs : s.size ≤ maxLen) (hl : len2 ≤ maxLen)
    (hsrc : SrcB w (.slice a2 len2 cap2) tail) (htl : tail.length = len2) :
    Calls Try.prog 3 #[.string s, .bool pad, .slice a2 len2 cap2] w fun e w' => e = .returned (.bool true) ∧ Below w.heap.size w w' := by
  by_cases h : s.size ≤ 262144 ∧ len2 ≤ 262144
  · cases pad with
    | false => exact fvq_bare s a2 len2 cap2 tail w h.1 h.2 hsrc htl
    | true => exact fvq_pad s a2 len2 cap2 tail w h.1 h.2 hsrc htl
  · exact fvq_out s pad a2 len2 cap2 w hs hl (by omega)

end Go.Proofs.Qxb6601523a
