import Derived.Test.Qxb6601523aHeader
import Derived.Test.Qxb6601523aHdrLaw
import Derived.Test.Qxb6601523aZZValue
namespace Go.Proofs.Qxb6601523a
open Go.RowKit

theorem dropBl_rt {ds : List UInt8} (r : List UInt8) : ∀ (bs : List UInt8) (p : Nat) (us : List (UInt8 × Nat)), (∀ b ∈ bs, b = 32 ∨ b = 9) → IsU ds p us → ds.drop p = bs ++ r → isBl (peekC ds (p + bs.length)) = false → (dropBl us p).2 = p + bs.length
  | [], p, us, _, hu, _, hb => by
    cases us with
    | nil => rfl
    | cons cq us =>
      obtain ⟨c, q⟩ := cq
      obtain ⟨_, hC, _, _⟩ := hu
      have hb' : isBl c = false := by rw [← hC]; exact hb
      rw [dropBl, if_neg (by rw [hb']; decide)]
      rfl
  | b :: bs, p, us, hbs, hu, hd, hb => by
    have hb1 := hbs b (by simp)
    obtain ⟨us', rfl, hu', hd'⟩ := u_plain hu hd (.inl (by rcases hb1 with rfl | rfl <;> decide))
    have e : p + (b :: bs).length = p + 1 + bs.length := by simp only [List.length_cons]; omega
    rw [e] at hb ⊢
    rw [dropBl, if_pos (by rcases hb1 with rfl | rfl <;> decide)]
    exact dropBl_rt r bs (p + 1) us' (fun c hc => hbs c (by simp [hc])) hu' hd' hb

theorem skip_at {w : World} {rb : Nat} {dv : Value} {ds : List UInt8} {p : Nat} (h : Rd w rb dv ds p) (hn : ds.length ≤ 4294967296) (bs r : List UInt8) (hbs : ∀ b ∈ bs, b = 32 ∨ b = 9) (hd : ds.drop p = bs ++ r) (hb : isBl (peekC ds (p + bs.length)) = false) :
    Calls Try.prog 33 #[.pointer (some ⟨rb, 0, none⟩)] w fun e w' => e = .returned (.tuple #[]) ∧ w.grownBy w' (some rb) ∧ Rd w' rb dv ds (p + bs.length) := by
  obtain ⟨us, hu⟩ := isU_ex ds _ p (Nat.le_refl _)
  have := skip_any h hn us hu
  rw [dropBl_rt r bs p us hbs hu hd hb] at this
  exact this

theorem own_one (w : World) (b : UInt8) : OwnB (w.alloc (.cells #[.int .u8 (b.toNat : Int)] 5)) w.heap.size (.slice (some ⟨w.heap.size, 0, none⟩) 1 1) [b] :=
  ⟨.inr ⟨w.heap.size, 1, #[.int .u8 (b.toNat : Int)], (0, 0), rfl, Nat.le_refl _, by show (w.heap.push _)[w.heap.size]? = _; simp, .inl rfl, Nat.le_refl _, by unfold maxLen; omega, rfl, rfl⟩⟩

theorem VI.one {w : World} {rb : Nat} {dv : Value} {ds : List UInt8} {p : Nat} (h : Rd w rb dv ds p) (b : UInt8) : VI w (w.alloc (.cells #[.int .u8 (b.toNat : Int)] 5)) rb dv ds p (.slice (some ⟨w.heap.size, 0, none⟩) 1 1) [b] :=
  ⟨((VI.start h).alloc _).rd, own_one w b, ((VI.start h).alloc _).gr, h.lt, fun g hg => (h.own.lt g hg).2⟩

/-- The two things that may stand behind a setting's name here. -/
def SetEnd (r val E : List UInt8) (bare : Bool) : Prop :=
  (bare = true ∧ val = [] ∧ r = [32, 9] ++ E) ∨ (bare = false ∧ r = 32 :: 61 :: ([32] ++ 34 :: (Q val ++ 34 :: E)))

set_option maxRecDepth 20000 in
set_option maxHeartbeats 4000000 in
theorem setting_rt {w : World} {rb : Nat} {dv : Value} {ds : List UInt8} {p : Nat} (first : UInt8) (name val r tail : List UInt8) (bare : Bool) (h : Rd w rb dv ds p) (hn : ds.length ≤ 4294967296) (hsl : val.length ≤ 1048576) (hnl : name.length ≤ 1048576)
    (hk : ∀ c ∈ name, keyZ (c.toNat : Int) = true) (hd : ds.drop p = name ++ r) (hr : SetEnd r val (13 :: 10 :: tail) bare) :
    Calls Try.prog 28 #[.pointer (some ⟨rb, 0, none⟩), .int .u8 (first.toNat : Int)] w fun e w' => e = .returned (.tuple #[.string ⟨(lowB first :: name.map lowB).toArray⟩, .string ⟨val.toArray⟩, .bool true]) ∧ w.grownBy w' (some rb) ∧ ∃ q, Rd w' rb dv ds q ∧ ds.drop q = 13 :: 10 :: tail := by
  have HT : Hid (∀ w, Calls Try.prog 32 #[.int .u8 (first.toNat : Int)] w fun e w' => e = .returned (.int .u8 ((lowB first).toNat : Int)) ∧ w' = w) := fun w => toLower_at first w
  have HPK : Hid (∀ q w1, Rd w1 rb dv ds q → Calls Try.prog 29 #[.pointer (some ⟨rb, 0, none⟩)] w1 fun e w' => e = .returned (.tuple #[.int .u8 ((peekC ds q).toNat : Int), .bool (decide (q < ds.length))]) ∧ w1.grownBy w' (some rb) ∧ Rd w' rb dv ds q) := fun q w1 h1 => (peek_rd h1 hn).mono fun _ _ ⟨a, b, c, _⟩ => ⟨a, b, c⟩
  have HS : Hid (∃ n1 n2 : List UInt8, n1 = [] ∧ name = n1 ++ n2 ∧ ds.drop p = n2 ++ r) := ⟨[], name, rfl, rfl, hd⟩
  have HR : Hid (SetEnd r val (13 :: 10 :: tail) bare) := hr
  have HK : Hid (∀ c ∈ name, keyZ (c.toNat : Int) = true) := hk
  obtain ⟨lf, hlf⟩ : ∃ lf, lf = lowB first := ⟨_, rfl⟩
  rw [← hlf] at HT ⊢
  clear hd hr hk hlf
  have V := VI.one h lf
  go_enter Try.func28, Try.ntmps28
  go_wp2_with fail
  refine (HT.out _).mono ?_
  rintro e w' ⟨rfl, hw⟩
  obtain rfl := hw.symm
  clear HT
  go_wp2_with fail
  refine (HPK.out _ _ V.rd).mono ?_
  rintro e w1 ⟨rfl, hg1, hr1⟩
  have V1 := V.moved hg1 hr1
  clear hg1 hr1 V
  go_wp2
  go_loopw [7, 8, 9] (fun vv c m wr => ∃ (p : Nat) (n1 n2 : List UInt8) (v0 : Value), v0 = vv ∧ c = .int .u8 ((peekC ds p).toNat : Int) ∧ m = .bool (decide (p < ds.length)) ∧ VI w wr rb dv ds p v0 (lf :: n1.map lowB) ∧ name = n1 ++ n2 ∧ ds.drop p = n2 ++ r) (fun _ _ _ wr => ds.length - posOf wr rb)
  case atStart =>
    obtain ⟨n1, n2, rfl, h2, h3⟩ := HS.out
    exact ⟨p, [], n2, _, rfl, rfl, rfl, V1, h2, h3⟩
  case round =>
    clear V1 HS
    obtain ⟨p, n1, n2, vv, rfl, rfl, rfl, V, hnm, hd⟩ := hrel
    have HM : Hid (ds.length - posOf wr rb = ds.length - p) := by show _ = _; rw [V.rd.pos]
    cases n2 with
    | cons c n2 =>
      have hkc := HK.out c (by rw [hnm]; simp)
      have c13 : c ≠ 13 := by rintro rfl; revert hkc; decide
      obtain ⟨hC, hN, hlt, hd1⟩ := at_plain hd (.inl c13)
      rw [hC, show decide (p < ds.length) = true from decide_eq_true hlt]
      have HP : Hid (name = (n1 ++ [c]) ++ n2 ∧ ds.drop (p + 1) = n2 ++ r) := ⟨by rw [hnm]; simp, hd1⟩
      have HC : Hid (peekC ds p = c) := hC
      have HN : Hid (nextP ds p = p + 1) := hN
      have HKC : Hid (∀ w, Calls Try.prog 31 #[.int .u8 (c.toNat : Int)] w fun e w' => e = .returned (.bool true) ∧ w' = w) := fun w => isKey_at hkc w
      have HT : Hid (∀ w, Calls Try.prog 32 #[.int .u8 (c.toNat : Int)] w fun e w' => e = .returned (.int .u8 ((lowB c).toNat : Int)) ∧ w' = w) := fun w => toLower_at c w
      obtain ⟨lb, hlb⟩ : ∃ lb, lb = lowB c := ⟨_, rfl⟩
      obtain ⟨l0, hl0⟩ : ∃ l0, l0 = lf :: n1.map lowB := ⟨_, rfl⟩
      have HL0 : Hid (lf :: (n1 ++ [c]).map lowB = l0 ++ [lb]) := by show _ = _; rw [hl0, hlb]; simp
      have HSM : Small (l0 ++ [lb]) := by
        unfold Small
        have h1 : name.length = n1.length + (n2.length + 1) := by rw [hnm]; simp
        rw [hl0]; simp only [List.length_append, List.length_cons, List.length_nil, List.length_map]; omega
      rw [← hlb] at HT
      rw [← hl0] at V
      clear hd hd1 hnm hC hN hkc c13 hlb hl0
      go_wp2_with fail
      refine (HKC.out _).mono ?_
      rintro e w' ⟨rfl, rfl⟩
      go_wp2_with fail
      refine (HT.out _).mono ?_
      rintro e w' ⟨rfl, rfl⟩
      clear HKC HT
      go_wp2_with (first
        | (at_builtin; refine wpList_append_b rfl _ _ rfl _ _ _ rfl (V.alloc _).own [lb] (src1 lb rfl rfl) (l0 ++ [lb]) rfl HSM (V.alloc _).size ?_; intro v' w4 ho4 hg4 _; have V4 := (V.alloc _).appended ho4 hg4; clear ho4 hg4)
        | (go_at_call 30; refine (next_at V4.rd hn _ (by rw [HC.out]) hlt _ HN.out).mono ?_; rintro e w5 ⟨rfl, hg5, hr5⟩; have V5 := V4.moved hg5 hr5; clear hg5 hr5)
        | (go_at_call 29; refine (HPK.out _ _ V5.rd).mono ?_; rintro e w6 ⟨rfl, hg6, hr6⟩; have V6 := V5.moved hg6 hr6; clear hg6 hr6))
      go_roundw
      case rel => exact ⟨p + 1, n1 ++ [c], n2, _, rfl, rfl, rfl, HL0.out ▸ V6, HP.out.1, HP.out.2⟩
      case measure =>
        have h1 := HM.out
        rw [V6.rd.pos, h1]; omega
    | nil =>
      have hn1 : n1 = name := by rw [hnm]; simp
      subst hn1
      rw [List.nil_append] at hd
      clear hnm HM
      rcases HR.out with ⟨rfl, rfl, hr⟩ | ⟨rfl, hr⟩
      · rw [hr] at hd
        obtain ⟨hC, hN, hlt, hd1⟩ := at_plain (show ds.drop p = 32 :: 9 :: 13 :: 10 :: tail from hd) (.inl (by decide))
        obtain ⟨_, _, _, hd2⟩ := at_plain hd1 (.inl (by decide))
        obtain ⟨hC2, _, hlt2, _⟩ := at_crlf hd2
        rw [hC, show decide (p < ds.length) = true from decide_eq_true hlt]
        have HKC : Hid (∀ w, Calls Try.prog 31 #[.int .u8 ((32 : UInt8).toNat : Int)] w fun e w' => e = .returned (.bool false) ∧ w' = w) := fun w => isKey_at (by decide) w
        have HSK : Hid (∀ w1, Rd w1 rb dv ds p → Calls Try.prog 33 #[.pointer (some ⟨rb, 0, none⟩)] w1 fun e w' => e = .returned (.tuple #[]) ∧ w1.grownBy w' (some rb) ∧ Rd w' rb dv ds (p + 1 + 1)) := fun w1 h1 => skip_at h1 hn [32, 9] (13 :: 10 :: tail) (by decide) hd (by show isBl (peekC ds (p + 1 + 1)) = false; rw [hC2]; decide)
        have HC2 : Hid (peekC ds (p + 1 + 1) = 10) := hC2
        have HD2 : Hid (ds.drop (p + 1 + 1) = 13 :: 10 :: tail) := hd2
        clear hd hd1 hd2 hC hN hC2 hr
        go_wp2_with fail
        refine (HKC.out _).mono ?_
        rintro e w' ⟨rfl, rfl⟩
        go_wp2_with fail
        refine (HSK.out _ V.rd).mono ?_
        rintro e w3 ⟨rfl, hg3, hr3⟩
        have V3 := V.moved hg3 hr3
        clear hg3 hr3 V HSK HKC
        go_wp2_with fail
        refine (peek_at V3.rd hn 10 (by rw [HC2.out]; rfl) hlt2).mono ?_
        rintro e w4 ⟨rfl, hg4, hr4⟩
        have V4 := V3.moved hg4 hr4
        clear hg4 hr4 V3
        have hcv := run_str _ _ _ _ V4.own
        go_wp2
        go_ret3
        exact ⟨rfl, V4.gr, _, V4.rd, HD2⟩
      · rw [hr] at hd
        obtain ⟨hC, hN, hlt, hd1⟩ := at_plain hd (.inl (by decide))
        obtain ⟨hC2, hN2, hlt2, hd2⟩ := at_plain hd1 (.inl (by decide))
        rw [hC, show decide (p < ds.length) = true from decide_eq_true hlt]
        have HKC : Hid (∀ w, Calls Try.prog 31 #[.int .u8 ((32 : UInt8).toNat : Int)] w fun e w' => e = .returned (.bool false) ∧ w' = w) := fun w => isKey_at (by decide) w
        have HSK : Hid (∀ w1, Rd w1 rb dv ds p → Calls Try.prog 33 #[.pointer (some ⟨rb, 0, none⟩)] w1 fun e w' => e = .returned (.tuple #[]) ∧ w1.grownBy w' (some rb) ∧ Rd w' rb dv ds (p + 1)) := fun w1 h1 => skip_at h1 hn [32] _ (by decide) hd (by show isBl (peekC ds (p + 1)) = false; rw [hC2]; decide)
        have HV : Hid (∀ w1, Rd w1 rb dv ds (p + 1 + 1) → Calls Try.prog 24 #[.pointer (some ⟨rb, 0, none⟩)] w1 fun e w' => e = .returned (.tuple #[.string ⟨val.toArray⟩, .bool true]) ∧ w1.grownBy w' (some rb) ∧ ∃ q, Rd w' rb dv ds q ∧ ds.drop q = 13 :: 10 :: tail) := fun w1 h1 => value_rt val (13 :: 10 :: tail) (13 :: 10 :: tail) [32] h1 hn hsl (by decide) hd2 (.inr ⟨_, rfl⟩) (.inl rfl)
        have HC2 : Hid (peekC ds (p + 1) = 61) := hC2
        have HN2 : Hid (nextP ds (p + 1) = p + 1 + 1) := hN2
        clear hd hd1 hd2 hC hN hC2 hN2 hr
        go_wp2_with fail
        refine (HKC.out _).mono ?_
        rintro e w' ⟨rfl, rfl⟩
        go_wp2_with fail
        refine (HSK.out _ V.rd).mono ?_
        rintro e w3 ⟨rfl, hg3, hr3⟩
        have V3 := V.moved hg3 hr3
        clear hg3 hr3 V HSK HKC
        go_wp2_with fail
        refine (peek_at V3.rd hn 61 (by rw [HC2.out]; rfl) hlt2).mono ?_
        rintro e w4 ⟨rfl, hg4, hr4⟩
        have V4 := V3.moved hg4 hr4
        clear hg4 hr4 V3
        go_wp2_with fail
        refine (next_at V4.rd hn 61 (by rw [HC2.out]; rfl) hlt2 _ HN2.out).mono ?_
        rintro e w5 ⟨rfl, hg5, hr5⟩
        have V5 := V4.moved hg5 hr5
        clear hg5 hr5 V4
        go_wp2_with fail
        refine (HV.out _ V5.rd).mono ?_
        rintro e w6 ⟨rfl, hg6, q, hr6, hdq⟩
        have V6 := V5.moved hg6 hr6
        have HDQ : Hid (ds.drop q = 13 :: 10 :: tail) := hdq
        clear hg6 hr6 V5 HV hdq
        have hcv := run_str _ _ _ _ V6.own
        go_wp2
        go_ret3
        exact ⟨rfl, V6.gr, _, V6.rd, HDQ⟩

end Go.Proofs.Qxb6601523a
