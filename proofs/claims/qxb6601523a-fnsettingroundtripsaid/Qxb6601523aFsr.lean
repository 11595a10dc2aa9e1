import Derived.Test.Qxb6601523aSetting
import Derived.Test.Qxb6601523aFhr
namespace Go.Proofs.Qxb6601523a
open Go.RowKit

set_option maxHeartbeats 400000 in
theorem zzsetting_rt {w : World} {dv : Value} {ds : List UInt8} (first : UInt8) (name val r tail : List UInt8) (bare : Bool) (h : OwnB w 0 dv ds) (hn : ds.length ≤ 4294967296) (hsl : val.length ≤ 1048576) (hnl : name.length ≤ 1048576)
    (hk : ∀ c ∈ name, keyZ (c.toNat : Int) = true) (hd : ds = name ++ r) (hr : SetEnd r val (13 :: 10 :: tail) bare) (n : Nat) (hq : n + (13 :: 10 :: tail).length = ds.length) :
    Calls Try.prog 22 #[dv, .int .i64 0, .int .u8 (first.toNat : Int)] w fun e w' => e = .returned (.tuple #[.string ⟨(lowB first :: name.map lowB).toArray⟩, .string ⟨val.toArray⟩, .bool true, .int .i64 (n : Int)]) ∧ Below w.heap.size w w' := by
  obtain ⟨ao, cap, rfl, _⟩ := h.slice
  obtain ⟨nm, hnm⟩ : ∃ nm : ByteArray, nm = ⟨(lowB first :: name.map lowB).toArray⟩ := ⟨_, rfl⟩
  obtain ⟨vl, hvl⟩ : ∃ vl : ByteArray, vl = ⟨val.toArray⟩ := ⟨_, rfl⟩
  have HV : Hid (∀ w1, w1 = w.alloc (.cells #[.slice ao ds.length cap, .int .i64 0] 41) → Calls Try.prog 28 #[.pointer (some ⟨w.heap.size, 0, none⟩), .int .u8 (first.toNat : Int)] w1 fun e w' => e = .returned (.tuple #[.string nm, .string vl, .bool true]) ∧ Below w.heap.size w w' ∧ w'.cell? ⟨w.heap.size, 1, none⟩ = some (.int .i64 (n : Int))) := by
    rintro w1 rfl
    rw [hnm, hvl]
    refine (setting_rt first name val r tail bare (Rd.fresh h 0) hn hsl hnl hk hd hr).mono ?_
    rintro e w' ⟨he, hg, q, hr, hdq⟩
    have hl := drop_len hdq (.inr ⟨_, rfl⟩)
    obtain rfl : q = n := by omega
    exact ⟨he, below_of_grown hg rfl, hr.cell1⟩
  rw [← hnm, ← hvl]
  clear hk hd hr hq hsl hn h hnm hvl
  go_enter Try.func22, Try.ntmps22
  go_wp2_with fail
  refine (HV.out _ rfl).mono ?_
  rintro e w1 ⟨rfl, hb, hc⟩
  go_wp2
  go_quiet (fail)
  go_wp2
  exact bodyPost_ret (v := .tuple #[.string nm, .string vl, .bool true, .int .i64 (n : Int)]) (by simp [results, Try.results22, go_sem]) rfl ⟨rfl, below_drewN hb _⟩

theorem zzb21 (z : Int) (s t : ByteArray) (b : Bool) (ao : Option Addr) (n cap : Nat) (w : World) (hs : s.size ≤ maxLen) (ht : t.size ≤ maxLen) (hn : n ≤ maxLen) :
    Calls Try.prog 21 #[.int .u8 z, .string s, .string t, .bool b, .slice ao n cap] w fun e w' => (∃ r, e = .returned (.bool r)) ∧ w' = w := by
  unfold maxLen at hs ht hn
  go_enter Try.func21, Try.ntmps21
  go_wp2
  all_goals go_ret
  all_goals exact ⟨⟨_, rfl⟩, rfl⟩

theorem src4 {w : World} {W : World} {g : Nat} (a b c d : UInt8) (hw : W = w.alloc (.cells #[.int .u8 (a.toNat : Int), .int .u8 (b.toNat : Int), .int .u8 (c.toNat : Int), .int .u8 (d.toNat : Int)] 5)) (hg : g = w.heap.size) :
    SrcB W (.slice (some ⟨g, 0, none⟩) 4 4) [a, b, c, d] := by
  subst hw hg
  refine .inr ⟨_, 4, rfl, fun j u hu => ?_⟩
  have hadd : (⟨w.heap.size, 0, none⟩ : Addr).add j = ⟨w.heap.size, j, none⟩ := by unfold Addr.add; split <;> simp_all
  rw [hadd, World.cell?_alloc_mark, ← hu]
  simp [bcells]

set_option maxHeartbeats 1000000 in
theorem fsr_out (z : Int) (s t : ByteArray) (b : Bool) (a2 : Option Addr) (len2 cap2 : Nat) (w : World) (hs : s.size ≤ maxLen) (ht : t.size ≤ maxLen) (hl : len2 ≤ maxLen) (ho : 262144 < s.size ∨ (s.size ≤ 262144 ∧ 262144 < t.size) ∨ (s.size ≤ 262144 ∧ t.size ≤ 262144 ∧ 262144 < len2)) :
    Calls Try.prog 8 #[.int .u8 z, .string s, .string t, .bool b, .slice a2 len2 cap2] w fun e w' => e = .returned (.bool true) ∧ Below w.heap.size w w' := by
  rcases ho with h | ⟨h, h'⟩ | ⟨h, h', h''⟩
  all_goals
    go_enter Try.func8, Try.ntmps8
    go_wp2_with fail
    refine (zzb21 _ _ _ _ _ _ _ _ hs ht hl).mono ?_
    rintro e w1 ⟨⟨r, rfl⟩, rfl⟩
    cases r with
    | false =>
      go_wp2
      go_ret
      exact ⟨rfl, Below.refl _ _⟩
    | true =>
      go_wp2
      go_ret
      exact ⟨rfl, Below.refl _ _⟩

set_option maxRecDepth 20000 in
set_option maxHeartbeats 4000000 in
theorem fsr_bare (first : UInt8) (s t : ByteArray) (a2 : Option Addr) (len2 cap2 : Nat) (tail : List UInt8) (w : World) (hs : s.size ≤ 262144) (ht : t.size ≤ 262144) (hl : len2 ≤ 262144)
    (hsrc : SrcB w (.slice a2 len2 cap2) tail) (htl : tail.length = len2) :
    Calls Try.prog 8 #[.int .u8 (first.toNat : Int), .string s, .string t, .bool true, .slice a2 len2 cap2] w fun e w' => e = .returned (.bool true) ∧ Below w.heap.size w w' := by
  have hsm : s.size ≤ maxLen := by unfold maxLen; omega
  have htm : t.size ≤ maxLen := by unfold maxLen; omega
  have hlm : len2 ≤ maxLen := by unfold maxLen; omega
  go_enter Try.func8, Try.ntmps8
  go_wp2_with fail
  refine (zzb21 _ _ _ _ _ _ _ _ hsm htm hlm).mono ?_
  rintro e w1 ⟨⟨r, rfl⟩, hw⟩
  obtain rfl := hw.symm
  cases r with
  | false =>
    go_wp2
    go_ret
    exact ⟨rfl, Below.refl _ _⟩
  | true =>
    go_wp2
    go_loop [11] (fun i => ∃ k : Nat, k ≤ s.size ∧ i = .int .i64 k ∧ ∀ j (hj : j < s.size), j < k → keyZ (s[j].toNat : Int) = true) (fun i => s.size - (intOf i).toNat)
    case atStart => exact ⟨0, Nat.zero_le _, rfl, fun j _ h => absurd h (Nat.not_lt_zero _)⟩
    case round =>
      obtain ⟨k, hk, rfl, hall⟩ := hrel
      have HA : Hid (∀ j (hj : j < s.size), j < k → keyZ (s[j].toNat : Int) = true) := hall
      clear hall
      by_cases hlt : k < s.size
      · by_cases hz : keyZ (s[k].toNat : Int) = true
        · have HS : Hid (∀ j (hj : j < s.size), j < k + 1 → keyZ (s[j].toNat : Int) = true) := by
            intro j hj hjk
            by_cases e : j = k
            · subst e; exact hz
            · exact HA.out j hj (by omega)
          have HK : Hid (∀ w, Calls Try.prog 17 #[.int .u8 (s[k].toNat : Int)] w fun e w' => e = .returned (.bool true) ∧ w' = w) := fun w => keyByte_at hz w
          clear hz
          go_wp2_with (go_at_call 17; refine (HK.out _).mono ?_; rintro e w' ⟨rfl, rfl⟩)
          go_round
          case rel => exact ⟨k + 1, by omega, by go_num, HS.out⟩
          case measure => simp [intOf]; omega
        · have hz' : keyZ (s[k].toNat : Int) = false := by simpa using hz
          have HK : Hid (∀ w, Calls Try.prog 17 #[.int .u8 (s[k].toNat : Int)] w fun e w' => e = .returned (.bool false) ∧ w' = w) := fun w => keyByte_at hz' w
          clear hz hz'
          go_wp2_with (go_at_call 17; refine (HK.out _).mono ?_; rintro e w' ⟨rfl, rfl⟩)
          go_ret
          exact ⟨rfl, Below.refl _ _⟩
      · have hall : ∀ c ∈ s.data.toList, keyZ (c.toNat : Int) = true := all_of s _ (fun j hj => HA.out j hj (by omega))
        clear HA
        have hsl := size_list s
        have htl2 := size_list t
        have hql := Q_len t.data.toList
        obtain ⟨d4, hd4⟩ : ∃ d4 : List UInt8, d4 = s.data.toList ++ [32, 9] := ⟨_, rfl⟩
        obtain ⟨d6, hd6⟩ : ∃ d6 : List UInt8, d6 = d4 ++ [13, 10] := ⟨_, rfl⟩
        obtain ⟨d7, hd7⟩ : ∃ d7 : List UInt8, d7 = d6 ++ tail := ⟨_, rfl⟩
        have ld4 : d4.length = s.size + 2 := by rw [hd4]; simp [hsl]
        have ld6 : d6.length = d4.length + 2 := by rw [hd6]; simp
        have ld7 : d7.length = d6.length + len2 := by rw [hd7, List.length_append, htl]
        have sd4 : Small d4 := small_of (by omega)
        have sd6 : Small d6 := small_of (by omega)
        have sd7 : Small d7 := small_of (by omega)
        obtain ⟨nm, hnm⟩ : ∃ nm : ByteArray, nm = ⟨(lowB first :: s.data.toList.map lowB).toArray⟩ := ⟨_, rfl⟩
        obtain ⟨lb, hlb⟩ : ∃ lb, lb = lowB first := ⟨_, rfl⟩
        obtain ⟨sa, hsa⟩ : ∃ sa : ByteArray, sa = ⟨#[lb]⟩ := ⟨_, rfl⟩
        obtain ⟨sb, hsb⟩ : ∃ sb : ByteArray, sb = ⟨(s.data.toList.map lowB).toArray⟩ := ⟨_, rfl⟩
        have hadd : ∀ W : World, (Op.stringOp .add sa sb).run Try.prog W = .ok (.string nm) W := fun W => by
          have h1 := run_string_add_lists (P := Try.prog) W [lb] (s.data.toList.map lowB) (by simp) (by simp only [List.length_map]; omega)
          rw [hsa, hsb, hnm, ← hlb]
          exact h1
        have hcv : ∀ (W : World) (g : Nat), W.cell? ⟨g, 0, none⟩ = some (.int .u8 (lb.toNat : Int)) → (convert 22 9 (.slice (some ⟨g, 0, none⟩) 1 1)).run Try.prog W = .ok (.string sa) W := fun W g hc => by
          rw [hsa]
          refine run_convert_bytes_back W 22 9 5 ⟨g, 0, none⟩ 1 [lb] Try.underlying22 Try.underlying5 Try.underlying9 (fun j hj => ?_)
          have hj0 : j = 0 := by simp at hj; omega
          subst hj0
          exact hc
        have HZ : Hid (∀ (w1 : World) (v : Value), OwnB w1 0 v d7 → Calls Try.prog 22 #[v, .int .i64 0, .int .u8 (first.toNat : Int)] w1 fun e w' => e = .returned (.tuple #[.string nm, .string ⟨#[]⟩, .bool true, .int .i64 (d4.length : Int)]) ∧ Below w1.heap.size w1 w') := by
          intro w1 v ho
          have hz := zzsetting_rt first s.data.toList [] ([32, 9] ++ 13 :: 10 :: tail) tail true ho (by omega) (by simp only [List.length_nil]; omega) (by omega) hall (by rw [hd7, hd6, hd4]; simp) (.inl ⟨rfl, rfl, rfl⟩) d4.length (by rw [ld7, ld6, List.length_cons, List.length_cons, htl]; omega)
          rw [hnm]
          exact hz
        have HLA : Hid (∀ w1 : World, Calls Try.prog 19 #[.string s] w1 fun e w' => e = .returned (.string sb) ∧ Below w1.heap.size w1 w') := fun w1 => by rw [hsb]; exact lowerAll_any s w1 (by omega)
        have HLB : Hid (∀ w1 : World, Calls Try.prog 23 #[.int .u8 (first.toNat : Int)] w1 fun e w' => e = .returned (.int .u8 (lb.toNat : Int)) ∧ w' = w1) := fun w1 => by
          rw [hlb, lowB_z]
          exact lowerByte_any _ w1 ⟨by omega, u8_le first⟩
        obtain ⟨v0, w0, hcb, B0⟩ := run_bytes_b w s (by omega)
        have Hd4 : Hid (d4 = s.data.toList ++ [32, 9]) := hd4
        have Hd6 : Hid (d6 = d4 ++ [13, 10]) := hd6
        have Hd7 : Hid (d7 = d6 ++ tail) := hd7
        clear hall hsl htl2 hql hd4 hd6 hd7 ld4 ld6 ld7 hnm hlb hsa hsb
        go_wp2_with (first
          | (at_builtin; refine wpList_append_b rfl (.tmp 50) (.tmp 51) rfl _ _ _ rfl (B0.alloc _).own [32, 9] (src2 32 9 rfl rfl) d4 Hd4.out sd4 (B0.alloc _).size ?_; intro v4 w4 ho4 hg4 _; have B4 := (B0.alloc _).appended ho4 hg4; clear ho4 hg4; obtain ⟨ao5, cap5, rfl, _⟩ := B4.own.slice)
          | (at_builtin; refine wpList_append_b rfl (.tmp 65) (.tmp 66) rfl _ _ _ rfl (B4.alloc _).own [13, 10] (src2 13 10 rfl rfl) d6 Hd6.out sd6 (B4.alloc _).size ?_; intro v6 w6 ho6 hg6 _; have B6 := (B4.alloc _).appended ho6 hg6; clear ho6 hg6)
          | (at_builtin; refine wpList_append_b rfl (.tmp 68) (.tmp 69) rfl _ _ _ rfl B6.own tail (hsrc.below B6.bel) d7 Hd7.out sd7 B6.size ?_; intro v7 w7 ho7 hg7 _; have B7 := B6.appended ho7 hg7; clear ho7 hg7)
          | (go_at_call 22; refine (HZ.out _ _ B7.own0).mono ?_; rintro e w8 ⟨rfl, hb8⟩; have B8 : Below w.heap.size w w8 := B7.bel.trans (hb8.mono B7.size); clear hb8))
        have hsz8 : w.heap.size ≤ w8.heap.size := B8.size
        go_region_with (first
          | (go_at_call 23; refine (HLB.out _).mono ?_; rintro e w' ⟨rfl, rfl⟩)
          | (go_at_call 19; refine (HLA.out _).mono ?_; rintro e wz ⟨rfl, hbz⟩; have hcz := fun (g : Nat) (hg : g < _) => hbz.cell (p := ⟨g, 0, none⟩) hg))
        all_goals go_wp2
        all_goals go_ret
        all_goals refine ⟨rfl, ?_⟩
        all_goals first
          | exact (B8.alloc hsz8 _).drew.trans (hbz.mono (by simp; omega))
          | exact (B8.drew.trans (hbz.mono hsz8)).alloc (Nat.le_trans hsz8 hbz.size) _

set_option maxRecDepth 20000 in
set_option maxHeartbeats 4000000 in
theorem fsr_full (first : UInt8) (s t : ByteArray) (a2 : Option Addr) (len2 cap2 : Nat) (tail : List UInt8) (w : World) (hs : s.size ≤ 262144) (ht : t.size ≤ 262144) (hl : len2 ≤ 262144)
    (hsrc : SrcB w (.slice a2 len2 cap2) tail) (htl : tail.length = len2) :
    Calls Try.prog 8 #[.int .u8 (first.toNat : Int), .string s, .string t, .bool false, .slice a2 len2 cap2] w fun e w' => e = .returned (.bool true) ∧ Below w.heap.size w w' := by
  have hsm : s.size ≤ maxLen := by unfold maxLen; omega
  have htm : t.size ≤ maxLen := by unfold maxLen; omega
  have hlm : len2 ≤ maxLen := by unfold maxLen; omega
  go_enter Try.func8, Try.ntmps8
  go_wp2_with fail
  refine (zzb21 _ _ _ _ _ _ _ _ hsm htm hlm).mono ?_
  rintro e w1 ⟨⟨r, rfl⟩, hw⟩
  obtain rfl := hw.symm
  cases r with
  | false =>
    go_wp2
    go_ret
    exact ⟨rfl, Below.refl _ _⟩
  | true =>
    go_wp2
    go_loop [11] (fun i => ∃ k : Nat, k ≤ s.size ∧ i = .int .i64 k ∧ ∀ j (hj : j < s.size), j < k → keyZ (s[j].toNat : Int) = true) (fun i => s.size - (intOf i).toNat)
    case atStart => exact ⟨0, Nat.zero_le _, rfl, fun j _ h => absurd h (Nat.not_lt_zero _)⟩
    case round =>
      obtain ⟨k, hk, rfl, hall⟩ := hrel
      have HA : Hid (∀ j (hj : j < s.size), j < k → keyZ (s[j].toNat : Int) = true) := hall
      clear hall
      by_cases hlt : k < s.size
      · by_cases hz : keyZ (s[k].toNat : Int) = true
        · have HS : Hid (∀ j (hj : j < s.size), j < k + 1 → keyZ (s[j].toNat : Int) = true) := by
            intro j hj hjk
            by_cases e : j = k
            · subst e; exact hz
            · exact HA.out j hj (by omega)
          have HK : Hid (∀ w, Calls Try.prog 17 #[.int .u8 (s[k].toNat : Int)] w fun e w' => e = .returned (.bool true) ∧ w' = w) := fun w => keyByte_at hz w
          clear hz
          go_wp2_with (go_at_call 17; refine (HK.out _).mono ?_; rintro e w' ⟨rfl, rfl⟩)
          go_round
          case rel => exact ⟨k + 1, by omega, by go_num, HS.out⟩
          case measure => simp [intOf]; omega
        · have hz' : keyZ (s[k].toNat : Int) = false := by simpa using hz
          have HK : Hid (∀ w, Calls Try.prog 17 #[.int .u8 (s[k].toNat : Int)] w fun e w' => e = .returned (.bool false) ∧ w' = w) := fun w => keyByte_at hz' w
          clear hz hz'
          go_wp2_with (go_at_call 17; refine (HK.out _).mono ?_; rintro e w' ⟨rfl, rfl⟩)
          go_ret
          exact ⟨rfl, Below.refl _ _⟩
      · have hall : ∀ c ∈ s.data.toList, keyZ (c.toNat : Int) = true := all_of s _ (fun j hj => HA.out j hj (by omega))
        clear HA
        have hsl := size_list s
        have htl2 := size_list t
        have hql := Q_len t.data.toList
        obtain ⟨d1, hd1⟩ : ∃ d1 : List UInt8, d1 = s.data.toList ++ [32, 61, 32, 34] := ⟨_, rfl⟩
        obtain ⟨d3, hd3⟩ : ∃ d3 : List UInt8, d3 = d1 ++ Q t.data.toList := ⟨_, rfl⟩
        obtain ⟨d4, hd4⟩ : ∃ d4 : List UInt8, d4 = d3 ++ [34] := ⟨_, rfl⟩
        obtain ⟨d6, hd6⟩ : ∃ d6 : List UInt8, d6 = d4 ++ [13, 10] := ⟨_, rfl⟩
        obtain ⟨d7, hd7⟩ : ∃ d7 : List UInt8, d7 = d6 ++ tail := ⟨_, rfl⟩
        have ld1 : d1.length = s.size + 4 := by rw [hd1]; simp [hsl]
        have ld3 : d3.length = d1.length + (Q t.data.toList).length := by rw [hd3, List.length_append]
        have ld4 : d4.length = d3.length + 1 := by rw [hd4]; simp
        have ld6 : d6.length = d4.length + 2 := by rw [hd6]; simp
        have ld7 : d7.length = d6.length + len2 := by rw [hd7, List.length_append, htl]
        have sd1 : Small d1 := small_of (by omega)
        have sd4 : Small d4 := small_of (by omega)
        have sd6 : Small d6 := small_of (by omega)
        have sd7 : Small d7 := small_of (by omega)
        obtain ⟨nm, hnm⟩ : ∃ nm : ByteArray, nm = ⟨(lowB first :: s.data.toList.map lowB).toArray⟩ := ⟨_, rfl⟩
        obtain ⟨lb, hlb⟩ : ∃ lb, lb = lowB first := ⟨_, rfl⟩
        obtain ⟨sa, hsa⟩ : ∃ sa : ByteArray, sa = ⟨#[lb]⟩ := ⟨_, rfl⟩
        obtain ⟨sb, hsb⟩ : ∃ sb : ByteArray, sb = ⟨(s.data.toList.map lowB).toArray⟩ := ⟨_, rfl⟩
        have hadd : ∀ W : World, (Op.stringOp .add sa sb).run Try.prog W = .ok (.string nm) W := fun W => by
          have h1 := run_string_add_lists (P := Try.prog) W [lb] (s.data.toList.map lowB) (by simp) (by simp only [List.length_map]; omega)
          rw [hsa, hsb, hnm, ← hlb]
          exact h1
        have hcv : ∀ (W : World) (g : Nat), W.cell? ⟨g, 0, none⟩ = some (.int .u8 (lb.toNat : Int)) → (convert 22 9 (.slice (some ⟨g, 0, none⟩) 1 1)).run Try.prog W = .ok (.string sa) W := fun W g hc => by
          rw [hsa]
          refine run_convert_bytes_back W 22 9 5 ⟨g, 0, none⟩ 1 [lb] Try.underlying22 Try.underlying5 Try.underlying9 (fun j hj => ?_)
          have hj0 : j = 0 := by simp at hj; omega
          subst hj0
          exact hc
        have HZ : Hid (∀ (w1 : World) (v : Value), OwnB w1 0 v d7 → Calls Try.prog 22 #[v, .int .i64 0, .int .u8 (first.toNat : Int)] w1 fun e w' => e = .returned (.tuple #[.string nm, .string t, .bool true, .int .i64 (d4.length : Int)]) ∧ Below w1.heap.size w1 w') := by
          intro w1 v ho
          have hz := zzsetting_rt first s.data.toList t.data.toList (32 :: 61 :: ([32] ++ 34 :: (Q t.data.toList ++ 34 :: 13 :: 10 :: tail))) tail false ho (by omega) (by omega) (by omega) hall (by rw [hd7, hd6, hd4, hd3, hd1]; simp) (.inr ⟨rfl, rfl⟩) d4.length (by rw [ld7, ld6, List.length_cons, List.length_cons, htl]; omega)
          rw [hnm]
          simp only [str_back] at hz
          exact hz
        have HLA : Hid (∀ w1 : World, Calls Try.prog 19 #[.string s] w1 fun e w' => e = .returned (.string sb) ∧ Below w1.heap.size w1 w') := fun w1 => by rw [hsb]; exact lowerAll_any s w1 (by omega)
        have HLB : Hid (∀ w1 : World, Calls Try.prog 23 #[.int .u8 (first.toNat : Int)] w1 fun e w' => e = .returned (.int .u8 (lb.toNat : Int)) ∧ w' = w1) := fun w1 => by
          rw [hlb, lowB_z]
          exact lowerByte_any _ w1 ⟨by omega, u8_le first⟩
        obtain ⟨v0, w0, hcb, B0⟩ := run_bytes_b w s (by omega)
        have Hd1 : Hid (d1 = s.data.toList ++ [32, 61, 32, 34]) := hd1
        have Hd3 : Hid (d3 = d1 ++ Q t.data.toList) := hd3
        have Hd4 : Hid (d4 = d3 ++ [34]) := hd4
        have Hd6 : Hid (d6 = d4 ++ [13, 10]) := hd6
        have Hd7 : Hid (d7 = d6 ++ tail) := hd7
        have hx20 : d1.length ≤ 1048576 := by omega
        have ht20 : t.size ≤ 1048576 := by omega
        clear hall hsl htl2 hql hd1 hd3 hd4 hd6 hd7 ld1 ld3 ld4 ld6 ld7 hnm hlb hsa hsb
        go_wp2_with (first
          | (at_builtin; refine wpList_append_b rfl (.tmp 53) (.tmp 54) rfl _ _ _ rfl (B0.alloc _).own [32, 61, 32, 34] (src4 32 61 32 34 rfl rfl) d1 Hd1.out sd1 (B0.alloc _).size ?_; intro v1 w1 ho1 hg1 _; have B1 := (B0.alloc _).appended ho1 hg1; clear ho1 hg1)
          | (go_at_call 10; refine (quote_any _ _ _ _ _ ht20 hx20 B1.own B1.size).mono ?_; rintro e w3 ⟨v3, rfl, ho3, hb3, _⟩; have B3 := B1.called ho3 hb3 Hd3.out; clear ho3 hb3)
          | (at_builtin; refine wpList_append_b rfl (.tmp 59) (.tmp 60) rfl _ _ _ rfl (B3.alloc _).own [34] (src1 34 rfl rfl) d4 Hd4.out sd4 (B3.alloc _).size ?_; intro v4 w4 ho4 hg4 _; have B4 := (B3.alloc _).appended ho4 hg4; clear ho4 hg4; obtain ⟨ao5, cap5, rfl, _⟩ := B4.own.slice)
          | (at_builtin; refine wpList_append_b rfl (.tmp 65) (.tmp 66) rfl _ _ _ rfl (B4.alloc _).own [13, 10] (src2 13 10 rfl rfl) d6 Hd6.out sd6 (B4.alloc _).size ?_; intro v6 w6 ho6 hg6 _; have B6 := (B4.alloc _).appended ho6 hg6; clear ho6 hg6)
          | (at_builtin; refine wpList_append_b rfl (.tmp 68) (.tmp 69) rfl _ _ _ rfl B6.own tail (hsrc.below B6.bel) d7 Hd7.out sd7 B6.size ?_; intro v7 w7 ho7 hg7 _; have B7 := B6.appended ho7 hg7; clear ho7 hg7)
          | (go_at_call 22; refine (HZ.out _ _ B7.own0).mono ?_; rintro e w8 ⟨rfl, hb8⟩; have B8 : Below w.heap.size w w8 := B7.bel.trans (hb8.mono B7.size); clear hb8))
        have hsz8 : w.heap.size ≤ w8.heap.size := B8.size
        go_region_with (first
          | (go_at_call 23; refine (HLB.out _).mono ?_; rintro e w' ⟨rfl, rfl⟩)
          | (go_at_call 19; refine (HLA.out _).mono ?_; rintro e wz ⟨rfl, hbz⟩; have hcz := fun (g : Nat) (hg : g < _) => hbz.cell (p := ⟨g, 0, none⟩) hg))
        all_goals go_wp2
        all_goals go_ret
        all_goals refine ⟨rfl, ?_⟩
        all_goals first
          | exact (B8.alloc hsz8 _).drew.trans (hbz.mono (by simp; omega))
          | exact (B8.drew.trans (hbz.mono hsz8)).alloc (Nat.le_trans hsz8 hbz.size) _

theorem fsr_walk (first : UInt8) (s t : ByteArray) (b : Bool) (a2 : Option Addr) (len2 cap2 : Nat) (tail : List UInt8) (w : World) (hs : s.size ≤ maxLen) (ht : t.size ≤ maxLen) (hl : len2 ≤ maxLen)
    (hsrc : SrcB w (.slice a2 len2 cap2) tail) (htl : tail.length = len2) :
    Calls Try.prog 8 #[.int .u8 (first.toNat : Int), .string s, .string t, .bool b, .slice a2 len2 cap2] w fun e w' => e = .returned (.bool true) ∧ Below w.heap.size w w' := by
  by_cases h : s.size ≤ 262144 ∧ t.size ≤ 262144 ∧ len2 ≤ 262144
  · cases b with
    | false => exact fsr_full first s t a2 len2 cap2 tail w h.1 h.2.1 h.2.2 hsrc htl
    | true => exact fsr_bare first s t a2 len2 cap2 tail w h.1 h.2.1 h.2.2 hsrc htl
  · exact fsr_out _ s t b a2 len2 cap2 w hs ht hl (by omega)

theorem u8_of_wf {z : Int} (h : (Lit.int .u8 z).wf = true) : ∃ b : UInt8, z = (b.toNat : Int) := by
  have hb := bounds_u8 h
  refine ⟨UInt8.ofNat z.toNat, ?_⟩
  rw [UInt8.toNat_ofNat']
  omega

end Go.Proofs.Qxb6601523a
