import Derived.Test.Qxb6601523aPlain
namespace Go.Proofs.Qxb6601523a
open Go.RowKit

theorem VI.drew {w wr : World} {rb : Nat} {dv : Value} {ds : List UInt8} {p : Nat} {vv : Value} {vals : List UInt8} (h : VI w wr rb dv ds p vv vals) : VI w wr.drew rb dv ds p vv vals :=
  ⟨⟨h.rd.blk, h.rd.own.drew⟩, h.own.drew, grown_trans h.gr (grown_drewN wr 1 none) (by simp), h.rlt, h.dlt⟩

theorem VI.other {w wr w' : World} {rb : Nat} {dv : Value} {ds : List UInt8} {p : Nat} {vv : Value} {vals : List UInt8} (h : VI w wr rb dv ds p vv vals) (hg : wr.grownBy w' none) : VI w w' rb dv ds p vv vals :=
  ⟨h.rd.keep hg (by simp) (by cases hv : dv.ownBlock <;> simp), h.own.kept hg (by cases hv : vv.ownBlock <;> simp), grown_trans h.gr hg (by simp), h.rlt, h.dlt⟩

/-- Where a reader stands, read off memory (for a loop's measure). -/
def posOf (w : World) (rb : Nat) : Nat := match w.cell? ⟨rb, 1, none⟩ with | some (.int _ q) => q.toNat | _ => 0
theorem Rd.pos {w : World} {rb : Nat} {dv : Value} {ds : List UInt8} {p : Nat} (h : Rd w rb dv ds p) : posOf w rb = p := by simp [posOf, h.cell1]

/-- The places of a quoted value at which a round of 'value' may begin. -/
def Ph (s after rest : List UInt8) (q : Bool) (vals : List UInt8) (bl : Value) : Prop :=
  (q = false ∧ vals = [] ∧ bl = .slice none 0 0 ∧ ∃ bs : List UInt8, (∀ b ∈ bs, b = 32 ∨ b = 9) ∧ rest = bs ++ 34 :: (Q s ++ 34 :: after)) ∨
  (q = true ∧ bl = .slice none 0 0 ∧ ∃ s2, s = vals ++ s2 ∧ rest = Q s2 ++ 34 :: after) ∨
  (q = false ∧ vals = s ∧ bl = .slice none 0 0 ∧ rest = after) ∨
  (q = false ∧ vals = s ∧ after = 32 :: rest)

theorem OwnB.slice0 {w : World} {base : Nat} {v : Value} (h : OwnB w base v []) : ∃ ao cap, v = .slice ao 0 cap := by
  obtain ⟨ao, cap, h1, _⟩ := h.slice
  exact ⟨ao, cap, h1⟩

theorem Q_cons (x : UInt8) (s : List UInt8) : Q (x :: s) = qb x ++ Q s := by simp [Q]
theorem qb_head (x : UInt8) : ∃ y r, qb x = y :: r ∧ y ≠ 10 := by
  unfold qb
  by_cases h1 : x = 34
  · exact ⟨92, [34], by rw [if_pos h1], by decide⟩
  by_cases h2 : x = 92
  · exact ⟨92, [92], by rw [if_neg h1, if_pos h2], by decide⟩
  by_cases h3 : x = 10
  · exact ⟨92, [110], by rw [if_neg h1, if_neg h2, if_pos h3], by decide⟩
  by_cases h4 : x = 9
  · exact ⟨92, [116], by rw [if_neg h1, if_neg h2, if_neg h3, if_pos h4], by decide⟩
  by_cases h5 : x = 8
  · exact ⟨92, [98], by rw [if_neg h1, if_neg h2, if_neg h3, if_neg h4, if_pos h5], by decide⟩
  · exact ⟨x, [], by rw [if_neg h1, if_neg h2, if_neg h3, if_neg h4, if_neg h5], h3⟩
theorem Q_head (s after : List UInt8) : (Q s ++ 34 :: after).head? ≠ some 10 := by
  cases s with
  | nil => simp [Q]
  | cons x s =>
    obtain ⟨y, r, h, hy⟩ := qb_head x
    rw [Q_cons, h]
    simpa using hy

theorem at_end {ds : List UInt8} {p : Nat} {E : List UInt8} (h : ds.drop p = E) (hE : (∃ t, E = 10 :: t) ∨ ∃ t, E = 13 :: 10 :: t) : peekC ds p = 10 ∧ p < ds.length := by
  rcases hE with ⟨t, rfl⟩ | ⟨t, rfl⟩
  · have := at_plain h (.inl (by decide)); exact ⟨this.1, this.2.2.1⟩
  · have := at_crlf h; exact ⟨this.1, this.2.2.1⟩

set_option maxRecDepth 20000 in
set_option maxHeartbeats 8000000 in
theorem value_rt {w : World} {rb : Nat} {dv : Value} {ds : List UInt8} {p : Nat} (s after E bs : List UInt8) (h : Rd w rb dv ds p) (hn : ds.length ≤ 4294967296) (hsl : s.length ≤ 1048576)
    (hbs : ∀ b ∈ bs, b = 32 ∨ b = 9) (hd : ds.drop p = bs ++ 34 :: (Q s ++ 34 :: after)) (hE : (∃ t, E = 10 :: t) ∨ ∃ t, E = 13 :: 10 :: t)
    (haf : after = E ∨ ∃ cm, after = 32 :: 59 :: (cm ++ E) ∧ ∀ b ∈ cm, b ≠ 10 ∧ b ≠ 13) :
    Calls Try.prog 24 #[.pointer (some ⟨rb, 0, none⟩)] w fun e w' => e = .returned (.tuple #[.string ⟨s.toArray⟩, .bool true]) ∧ w.grownBy w' (some rb) ∧ ∃ q, Rd w' rb dv ds q ∧ ds.drop q = E := by
  have HPh : Hid (Ph s after (ds.drop p) false [] (.slice none 0 0)) := .inl ⟨rfl, rfl, rfl, bs, hbs, hd⟩
  have HE : Hid ((∃ t, E = 10 :: t) ∨ ∃ t, E = 13 :: 10 :: t) := hE
  have HAF : Hid (after = E ∨ ∃ cm, after = 32 :: 59 :: (cm ++ E) ∧ ∀ b ∈ cm, b ≠ 10 ∧ b ≠ 13) := haf
  have HSL : Hid (s.length ≤ 1048576) := hsl
  clear hd hbs hE haf hsl
  go_enter Try.func24, Try.ntmps24
  go_wp2
  go_loopw [4, 5, 6] (fun vv bl q wr => ∃ p vals qb v0, v0 = vv ∧ q = .bool qb ∧ VI w wr rb dv ds p v0 vals ∧ Ph s after (ds.drop p) qb vals bl) (fun _ _ _ wr => ds.length - posOf wr rb)
  case atStart => exact ⟨p, [], false, _, rfl, rfl, VI.start h, HPh⟩
  case round =>
    clear HPh
    obtain ⟨p, vals, qb, vv, rfl, rfl, V, hph⟩ := hrel
    have HM : Hid (ds.length - posOf wr rb = ds.length - p) := by show _ = _; rw [V.rd.pos]
    rcases hph with ⟨rfl, rfl, rfl, bs, hbs, hd⟩ | ⟨rfl, rfl, s2, hs, hd⟩ | ⟨rfl, rfl, rfl, hd⟩ | ⟨rfl, rfl, hd⟩
    · cases bs with
      | nil =>
        rw [List.nil_append] at hd
        obtain ⟨hC, hN, hlt, hd1⟩ := at_plain hd (.inl (by decide))
        have HP : Hid (Ph s after (ds.drop (p + 1)) true [] (.slice none 0 0)) := .inr (.inl ⟨rfl, rfl, s, rfl, hd1⟩)
        have HC : Hid (peekC ds p = 34) := hC
        have HN : Hid (nextP ds p = p + 1) := hN
        clear hbs hd1 hd hC hN
        go_wp2_with fail
        refine (peek_at V.rd hn 34 (by rw [HC.out]; rfl) hlt).mono ?_
        rintro e w1 ⟨rfl, hg1, hr1⟩
        have V1 := V.moved hg1 hr1
        clear hg1 hr1 V
        go_wp2_with fail
        refine (next_at V1.rd hn 34 (by rw [HC.out]; rfl) hlt _ HN.out).mono ?_
        rintro e w2 ⟨rfl, hg2, hr2⟩
        have V2 := V1.moved hg2 hr2
        clear hg2 hr2 V1
        go_wp2
        go_region_law (refine step_append_nil rfl (.tmp 80) (.tmp 81) rfl _ _ _ rfl V2.own.drew rfl ?_)
        all_goals
          go_wp2
          go_roundw
          case rel => exact ⟨p + 1, [], true, _, rfl, rfl, V2.drew, HP⟩
          case measure => rw [V2.drew.rd.pos, HM.out]; omega
      | cons b bs =>
        rw [List.cons_append] at hd
        have hb := hbs b (by simp)
        obtain ⟨hC, hN, hlt, hd1⟩ := at_plain hd (.inl (by rcases hb with rfl | rfl <;> decide))
        have HP : Hid (Ph s after (ds.drop (p + 1)) false [] (.slice none 0 0)) := .inl ⟨rfl, rfl, rfl, bs, fun b hb => hbs b (by simp [hb]), hd1⟩
        have HC : Hid (peekC ds p = b) := hC
        have HN : Hid (nextP ds p = p + 1) := hN
        clear hbs hd1 hd hC hN
        obtain ⟨ao, cap, rfl⟩ := V.own.slice0
        rcases hb with rfl | rfl
        · go_wp2_with fail
          refine (peek_at V.rd hn 32 (by rw [HC.out]; rfl) hlt).mono ?_
          rintro e w1 ⟨rfl, hg1, hr1⟩
          have V1 := V.moved hg1 hr1
          clear hg1 hr1 V
          go_wp2_with fail
          refine (next_at V1.rd hn 32 (by rw [HC.out]; rfl) hlt _ HN.out).mono ?_
          rintro e w2 ⟨rfl, hg2, hr2⟩
          have V2 := V1.moved hg2 hr2
          clear hg2 hr2 V1
          go_wp2
          go_roundw
          case rel => exact ⟨p + 1, [], false, _, rfl, rfl, V2, HP⟩
          case measure => rw [V2.rd.pos, HM.out]; omega
        · go_wp2_with fail
          refine (peek_at V.rd hn 9 (by rw [HC.out]; rfl) hlt).mono ?_
          rintro e w1 ⟨rfl, hg1, hr1⟩
          have V1 := V.moved hg1 hr1
          clear hg1 hr1 V
          go_wp2_with fail
          refine (next_at V1.rd hn 9 (by rw [HC.out]; rfl) hlt _ HN.out).mono ?_
          rintro e w2 ⟨rfl, hg2, hr2⟩
          have V2 := V1.moved hg2 hr2
          clear hg2 hr2 V1
          go_wp2
          go_roundw
          case rel => exact ⟨p + 1, [], false, _, rfl, rfl, V2, HP⟩
          case measure => rw [V2.rd.pos, HM.out]; omega
    · cases s2 with
      | nil =>
        have hd' : ds.drop p = 34 :: after := hd
        obtain ⟨hC, hN, hlt, hd1⟩ := at_plain hd' (.inl (by decide))
        have HP : Hid (Ph s after (ds.drop (p + 1)) false vals (.slice none 0 0)) := .inr (.inr (.inl ⟨rfl, by simpa using hs.symm, rfl, hd1⟩))
        have HC : Hid (peekC ds p = 34) := hC
        have HN : Hid (nextP ds p = p + 1) := hN
        clear hs hd1 hd hd' hC hN
        go_wp2_with fail
        refine (peek_at V.rd hn 34 (by rw [HC.out]; rfl) hlt).mono ?_
        rintro e w1 ⟨rfl, hg1, hr1⟩
        have V1 := V.moved hg1 hr1
        clear hg1 hr1 V
        go_wp2_with fail
        refine (next_at V1.rd hn 34 (by rw [HC.out]; rfl) hlt _ HN.out).mono ?_
        rintro e w2 ⟨rfl, hg2, hr2⟩
        have V2 := V1.moved hg2 hr2
        clear hg2 hr2 V1
        go_wp2
        go_region_law (refine step_append_nil rfl (.tmp 80) (.tmp 81) rfl _ _ _ rfl V2.own.drew rfl ?_)
        all_goals
          go_wp2
          go_roundw
          case rel => exact ⟨p + 1, vals, false, _, rfl, rfl, V2.drew, HP⟩
          case measure => rw [V2.drew.rd.pos, HM.out]; omega
      | cons x s3 =>
        have HL : Small (vals ++ [x]) := by
          have h1 := HSL.out
          rw [hs] at h1
          show (vals ++ [x]).length ≤ 1099511627776
          simp only [List.length_append, List.length_cons, List.length_nil] at h1 ⊢
          omega
        have hs' : s = (vals ++ [x]) ++ s3 := by rw [hs]; simp
        rw [Q_cons, List.append_assoc] at hd
        clear hs
        by_cases c34 : x = 34
        · rw [show qb x = [92, 34] from by unfold qb; rw [if_pos c34], List.cons_append, List.cons_append, List.nil_append] at hd
          obtain ⟨hC, hN, hlt, hd1⟩ := at_plain hd (.inl (by decide))
          obtain ⟨hC2, hN2, hlt2, hd2⟩ := at_plain hd1 (.inl (by decide))
          have HP : Hid (Ph s after (ds.drop (p + 1 + 1)) true (vals ++ [x]) (.slice none 0 0)) := .inr (.inl ⟨rfl, rfl, s3, hs', hd2⟩)
          subst c34
          have HC : Hid (peekC ds p = 92) := hC
          have HN : Hid (nextP ds p = p + 1) := hN
          have HC2 : Hid (peekC ds (p + 1) = 34) := hC2
          have HN2 : Hid (nextP ds (p + 1) = p + 1 + 1) := hN2
          clear hd1 hd2 hd hs' hC hN hC2 hN2 
          go_wp2_with fail
          refine (peek_at V.rd hn 92 (by rw [HC.out]; rfl) hlt).mono ?_
          rintro e w1 ⟨rfl, hg1, hr1⟩
          have V1 := V.moved hg1 hr1
          clear hg1 hr1 V
          go_wp2_with fail
          refine (next_at V1.rd hn 92 (by rw [HC.out]; rfl) hlt _ HN.out).mono ?_
          rintro e w2 ⟨rfl, hg2, hr2⟩
          have V2 := V1.moved hg2 hr2
          clear hg2 hr2 V1
          go_wp2
          go_region_law (refine step_append_nil rfl (.tmp 80) (.tmp 81) rfl _ _ _ rfl V2.own.drew rfl ?_)
          go_wp2_with fail
          refine (next_at V2.drew.rd hn 34 (by rw [HC2.out]; rfl) hlt2 _ HN2.out).mono ?_
          rintro e w3 ⟨rfl, hg3, hr3⟩
          have V3 := V2.drew.moved hg3 hr3
          clear hg3 hr3 V2
          go_wp2_with (at_builtin; refine wpList_append_b rfl _ _ rfl _ _ _ rfl (V3.alloc _).own [34] (src1 34 rfl rfl) (vals ++ [34]) rfl HL (V3.alloc _).size ?_; intro v' w4 ho4 hg4 _; have V4 := (V3.alloc _).appended ho4 hg4; clear ho4 hg4)
          go_roundw
          case rel => exact ⟨p + 1 + 1, vals ++ [34], true, _, rfl, rfl, V4, HP⟩
          case measure => rw [V4.rd.pos, HM.out]; omega
        by_cases c92 : x = 92
        · rw [show qb x = [92, 92] from by unfold qb; rw [if_neg c34, if_pos c92], List.cons_append, List.cons_append, List.nil_append] at hd
          obtain ⟨hC, hN, hlt, hd1⟩ := at_plain hd (.inl (by decide))
          obtain ⟨hC2, hN2, hlt2, hd2⟩ := at_plain hd1 (.inl (by decide))
          have HP : Hid (Ph s after (ds.drop (p + 1 + 1)) true (vals ++ [x]) (.slice none 0 0)) := .inr (.inl ⟨rfl, rfl, s3, hs', hd2⟩)
          subst c92
          have HC : Hid (peekC ds p = 92) := hC
          have HN : Hid (nextP ds p = p + 1) := hN
          have HC2 : Hid (peekC ds (p + 1) = 92) := hC2
          have HN2 : Hid (nextP ds (p + 1) = p + 1 + 1) := hN2
          clear hd1 hd2 hd hs' hC hN hC2 hN2 c34
          go_wp2_with fail
          refine (peek_at V.rd hn 92 (by rw [HC.out]; rfl) hlt).mono ?_
          rintro e w1 ⟨rfl, hg1, hr1⟩
          have V1 := V.moved hg1 hr1
          clear hg1 hr1 V
          go_wp2_with fail
          refine (next_at V1.rd hn 92 (by rw [HC.out]; rfl) hlt _ HN.out).mono ?_
          rintro e w2 ⟨rfl, hg2, hr2⟩
          have V2 := V1.moved hg2 hr2
          clear hg2 hr2 V1
          go_wp2
          go_region_law (refine step_append_nil rfl (.tmp 80) (.tmp 81) rfl _ _ _ rfl V2.own.drew rfl ?_)
          go_wp2_with fail
          refine (next_at V2.drew.rd hn 92 (by rw [HC2.out]; rfl) hlt2 _ HN2.out).mono ?_
          rintro e w3 ⟨rfl, hg3, hr3⟩
          have V3 := V2.drew.moved hg3 hr3
          clear hg3 hr3 V2
          go_wp2_with (at_builtin; refine wpList_append_b rfl _ _ rfl _ _ _ rfl (V3.alloc _).own [92] (src1 92 rfl rfl) (vals ++ [92]) rfl HL (V3.alloc _).size ?_; intro v' w4 ho4 hg4 _; have V4 := (V3.alloc _).appended ho4 hg4; clear ho4 hg4)
          go_roundw
          case rel => exact ⟨p + 1 + 1, vals ++ [92], true, _, rfl, rfl, V4, HP⟩
          case measure => rw [V4.rd.pos, HM.out]; omega
        by_cases c10 : x = 10
        · rw [show qb x = [92, 110] from by unfold qb; rw [if_neg c34, if_neg c92, if_pos c10], List.cons_append, List.cons_append, List.nil_append] at hd
          obtain ⟨hC, hN, hlt, hd1⟩ := at_plain hd (.inl (by decide))
          obtain ⟨hC2, hN2, hlt2, hd2⟩ := at_plain hd1 (.inl (by decide))
          have HP : Hid (Ph s after (ds.drop (p + 1 + 1)) true (vals ++ [x]) (.slice none 0 0)) := .inr (.inl ⟨rfl, rfl, s3, hs', hd2⟩)
          subst c10
          have HC : Hid (peekC ds p = 92) := hC
          have HN : Hid (nextP ds p = p + 1) := hN
          have HC2 : Hid (peekC ds (p + 1) = 110) := hC2
          have HN2 : Hid (nextP ds (p + 1) = p + 1 + 1) := hN2
          clear hd1 hd2 hd hs' hC hN hC2 hN2 c34 c92
          go_wp2_with fail
          refine (peek_at V.rd hn 92 (by rw [HC.out]; rfl) hlt).mono ?_
          rintro e w1 ⟨rfl, hg1, hr1⟩
          have V1 := V.moved hg1 hr1
          clear hg1 hr1 V
          go_wp2_with fail
          refine (next_at V1.rd hn 92 (by rw [HC.out]; rfl) hlt _ HN.out).mono ?_
          rintro e w2 ⟨rfl, hg2, hr2⟩
          have V2 := V1.moved hg2 hr2
          clear hg2 hr2 V1
          go_wp2
          go_region_law (refine step_append_nil rfl (.tmp 80) (.tmp 81) rfl _ _ _ rfl V2.own.drew rfl ?_)
          go_wp2_with fail
          refine (next_at V2.drew.rd hn 110 (by rw [HC2.out]; rfl) hlt2 _ HN2.out).mono ?_
          rintro e w3 ⟨rfl, hg3, hr3⟩
          have V3 := V2.drew.moved hg3 hr3
          clear hg3 hr3 V2
          go_wp2_with (at_builtin; refine wpList_append_b rfl _ _ rfl _ _ _ rfl (V3.alloc _).own [10] (src1 10 rfl rfl) (vals ++ [10]) rfl HL (V3.alloc _).size ?_; intro v' w4 ho4 hg4 _; have V4 := (V3.alloc _).appended ho4 hg4; clear ho4 hg4)
          go_roundw
          case rel => exact ⟨p + 1 + 1, vals ++ [10], true, _, rfl, rfl, V4, HP⟩
          case measure => rw [V4.rd.pos, HM.out]; omega
        by_cases c9 : x = 9
        · rw [show qb x = [92, 116] from by unfold qb; rw [if_neg c34, if_neg c92, if_neg c10, if_pos c9], List.cons_append, List.cons_append, List.nil_append] at hd
          obtain ⟨hC, hN, hlt, hd1⟩ := at_plain hd (.inl (by decide))
          obtain ⟨hC2, hN2, hlt2, hd2⟩ := at_plain hd1 (.inl (by decide))
          have HP : Hid (Ph s after (ds.drop (p + 1 + 1)) true (vals ++ [x]) (.slice none 0 0)) := .inr (.inl ⟨rfl, rfl, s3, hs', hd2⟩)
          subst c9
          have HC : Hid (peekC ds p = 92) := hC
          have HN : Hid (nextP ds p = p + 1) := hN
          have HC2 : Hid (peekC ds (p + 1) = 116) := hC2
          have HN2 : Hid (nextP ds (p + 1) = p + 1 + 1) := hN2
          clear hd1 hd2 hd hs' hC hN hC2 hN2 c34 c92 c10
          go_wp2_with fail
          refine (peek_at V.rd hn 92 (by rw [HC.out]; rfl) hlt).mono ?_
          rintro e w1 ⟨rfl, hg1, hr1⟩
          have V1 := V.moved hg1 hr1
          clear hg1 hr1 V
          go_wp2_with fail
          refine (next_at V1.rd hn 92 (by rw [HC.out]; rfl) hlt _ HN.out).mono ?_
          rintro e w2 ⟨rfl, hg2, hr2⟩
          have V2 := V1.moved hg2 hr2
          clear hg2 hr2 V1
          go_wp2
          go_region_law (refine step_append_nil rfl (.tmp 80) (.tmp 81) rfl _ _ _ rfl V2.own.drew rfl ?_)
          go_wp2_with fail
          refine (next_at V2.drew.rd hn 116 (by rw [HC2.out]; rfl) hlt2 _ HN2.out).mono ?_
          rintro e w3 ⟨rfl, hg3, hr3⟩
          have V3 := V2.drew.moved hg3 hr3
          clear hg3 hr3 V2
          go_wp2_with (at_builtin; refine wpList_append_b rfl _ _ rfl _ _ _ rfl (V3.alloc _).own [9] (src1 9 rfl rfl) (vals ++ [9]) rfl HL (V3.alloc _).size ?_; intro v' w4 ho4 hg4 _; have V4 := (V3.alloc _).appended ho4 hg4; clear ho4 hg4)
          go_roundw
          case rel => exact ⟨p + 1 + 1, vals ++ [9], true, _, rfl, rfl, V4, HP⟩
          case measure => rw [V4.rd.pos, HM.out]; omega
        by_cases c8 : x = 8
        · rw [show qb x = [92, 98] from by unfold qb; rw [if_neg c34, if_neg c92, if_neg c10, if_neg c9, if_pos c8], List.cons_append, List.cons_append, List.nil_append] at hd
          obtain ⟨hC, hN, hlt, hd1⟩ := at_plain hd (.inl (by decide))
          obtain ⟨hC2, hN2, hlt2, hd2⟩ := at_plain hd1 (.inl (by decide))
          have HP : Hid (Ph s after (ds.drop (p + 1 + 1)) true (vals ++ [x]) (.slice none 0 0)) := .inr (.inl ⟨rfl, rfl, s3, hs', hd2⟩)
          subst c8
          have HC : Hid (peekC ds p = 92) := hC
          have HN : Hid (nextP ds p = p + 1) := hN
          have HC2 : Hid (peekC ds (p + 1) = 98) := hC2
          have HN2 : Hid (nextP ds (p + 1) = p + 1 + 1) := hN2
          clear hd1 hd2 hd hs' hC hN hC2 hN2 c34 c92 c10 c9
          go_wp2_with fail
          refine (peek_at V.rd hn 92 (by rw [HC.out]; rfl) hlt).mono ?_
          rintro e w1 ⟨rfl, hg1, hr1⟩
          have V1 := V.moved hg1 hr1
          clear hg1 hr1 V
          go_wp2_with fail
          refine (next_at V1.rd hn 92 (by rw [HC.out]; rfl) hlt _ HN.out).mono ?_
          rintro e w2 ⟨rfl, hg2, hr2⟩
          have V2 := V1.moved hg2 hr2
          clear hg2 hr2 V1
          go_wp2
          go_region_law (refine step_append_nil rfl (.tmp 80) (.tmp 81) rfl _ _ _ rfl V2.own.drew rfl ?_)
          go_wp2_with fail
          refine (next_at V2.drew.rd hn 98 (by rw [HC2.out]; rfl) hlt2 _ HN2.out).mono ?_
          rintro e w3 ⟨rfl, hg3, hr3⟩
          have V3 := V2.drew.moved hg3 hr3
          clear hg3 hr3 V2
          go_wp2_with (at_builtin; refine wpList_append_b rfl _ _ rfl _ _ _ rfl (V3.alloc _).own [8] (src1 8 rfl rfl) (vals ++ [8]) rfl HL (V3.alloc _).size ?_; intro v' w4 ho4 hg4 _; have V4 := (V3.alloc _).appended ho4 hg4; clear ho4 hg4)
          go_roundw
          case rel => exact ⟨p + 1 + 1, vals ++ [8], true, _, rfl, rfl, V4, HP⟩
          case measure => rw [V4.rd.pos, HM.out]; omega
        · rw [show qb x = [x] from by unfold qb; rw [if_neg c34, if_neg c92, if_neg c10, if_neg c9, if_neg c8], List.cons_append, List.nil_append] at hd
          obtain ⟨hC, hN, hlt, hd1⟩ := at_plain hd (.inr (Q_head _ _))
          have HP : Hid (Ph s after (ds.drop (p + 1)) true (vals ++ [x]) (.slice none 0 0)) := .inr (.inl ⟨rfl, rfl, s3, hs', hd1⟩)
          have HC : Hid (peekC ds p = x) := hC
          have HN : Hid (nextP ds p = p + 1) := hN
          have t34 : ((x.toNat : Int) == 34) = false := u8_ne' c34 rfl
          have t92 : ((x.toNat : Int) == 92) = false := u8_ne' c92 rfl
          have t10 : ((x.toNat : Int) == 10) = false := u8_ne' c10 rfl
          clear hd1 hd hs' hC hN c34 c92 c10 c9 c8
          go_wp2_with fail
          refine (peek_at V.rd hn (x.toNat : Int) (by rw [HC.out]) hlt).mono ?_
          rintro e w1 ⟨rfl, hg1, hr1⟩
          have V1 := V.moved hg1 hr1
          clear hg1 hr1 V
          go_wp2_with fail
          refine (next_at V1.rd hn (x.toNat : Int) (by rw [HC.out]) hlt _ HN.out).mono ?_
          rintro e w2 ⟨rfl, hg2, hr2⟩
          have V2 := V1.moved hg2 hr2
          clear hg2 hr2 V1
          go_wp2
          go_region_law (refine step_append_nil rfl (.tmp 80) (.tmp 81) rfl _ _ _ rfl V2.own.drew rfl ?_)
          go_wp2_with (at_builtin; refine wpList_append_b rfl _ _ rfl _ _ _ rfl ((V2.alloc _).drew).own [x] (src1d x rfl rfl) (vals ++ [x]) rfl HL ((V2.alloc _).drew).size ?_; intro v' w4 ho4 hg4 _; have V4 := ((V2.alloc _).drew).appended ho4 hg4; clear ho4 hg4)
          go_roundw
          case rel => exact ⟨p + 1, vals ++ [x], true, _, rfl, rfl, V4, HP⟩
          case measure => rw [V4.rd.pos, HM.out]; omega
    · rcases HAF.out with hE' | ⟨cm, hcm, hfree⟩
      · obtain ⟨hC, hlt⟩ := at_end (hd.trans hE') HE.out
        have HC : Hid (peekC ds p = 10) := hC
        have HD : Hid (ds.drop p = E) := hd.trans hE'
        clear hE' hd hC
        go_wp2_with fail
        refine (peek_at V.rd hn 10 (by rw [HC.out]; rfl) hlt).mono ?_
        rintro e w1 ⟨rfl, hg1, hr1⟩
        have V1 := V.moved hg1 hr1
        clear hg1 hr1 V
        have hcv := run_str _ _ _ _ V1.own
        go_wp2
        go_ret2
        exact ⟨rfl, V1.gr, _, V1.rd, HD⟩
      · rw [hcm] at hd
        obtain ⟨hC, hN, hlt, hd1⟩ := at_plain hd (.inl (by decide))
        have HP : Hid (∀ bl, Ph vals after (ds.drop (p + 1)) false vals bl) := fun bl => .inr (.inr (.inr ⟨rfl, rfl, by rw [hcm, hd1]⟩))
        have HC : Hid (peekC ds p = 32) := hC
        have HN : Hid (nextP ds p = p + 1) := hN
        obtain ⟨ao, cap, rfl, _⟩ := V.own.slice
        clear hd hd1 hC hN hcm hfree
        by_cases hz : (0 : Int) < (vals.length : Int)
        · go_wp2_with fail
          refine (peek_at V.rd hn 32 (by rw [HC.out]; rfl) hlt).mono ?_
          rintro e w1 ⟨rfl, hg1, hr1⟩
          have V1 := V.moved hg1 hr1
          clear hg1 hr1 V
          go_wp2_with fail
          refine (next_at V1.rd hn 32 (by rw [HC.out]; rfl) hlt _ HN.out).mono ?_
          rintro e w2 ⟨rfl, hg2, hr2⟩
          have V2 := V1.moved hg2 hr2
          clear hg2 hr2 V1
          go_wp2_with (at_builtin; refine wpList_append_b rfl _ _ rfl w.heap.size _ _ rfl (OwnB.nil _ _) [32] (src1 32 rfl rfl) [32] rfl (show ([32] : List UInt8).length ≤ 1099511627776 from by decide) (V2.alloc _).size ?_; intro v' w4 ho4 hg4 _; have V4 := (V2.alloc _).other hg4; clear ho4 hg4)
          go_roundw
          case rel => exact ⟨p + 1, vals, false, _, rfl, rfl, V4, HP _⟩
          case measure => rw [V4.rd.pos, HM.out]; omega
        · have hz' : decide ((0 : Int) < (vals.length : Int)) = false := by simpa using hz
          go_wp2_with fail
          refine (peek_at V.rd hn 32 (by rw [HC.out]; rfl) hlt).mono ?_
          rintro e w1 ⟨rfl, hg1, hr1⟩
          have V1 := V.moved hg1 hr1
          clear hg1 hr1 V
          go_wp2_with fail
          refine (next_at V1.rd hn 32 (by rw [HC.out]; rfl) hlt _ HN.out).mono ?_
          rintro e w2 ⟨rfl, hg2, hr2⟩
          have V2 := V1.moved hg2 hr2
          clear hg2 hr2 V1
          go_wp2
          go_roundw
          case rel => exact ⟨p + 1, vals, false, _, rfl, rfl, V2, HP _⟩
          case measure => rw [V2.rd.pos, HM.out]; omega
    · obtain ⟨cm, hcm, hfree⟩ : ∃ cm, ds.drop p = 59 :: (cm ++ E) ∧ ∀ b ∈ cm, b ≠ 10 ∧ b ≠ 13 := by
        rcases HAF.out with hE' | ⟨cm, hcm, hfree⟩
        · exfalso
          rw [hE'] at hd
          rcases HE.out with ⟨t, ht⟩ | ⟨t, ht⟩ <;> simp [ht] at hd
        · refine ⟨cm, ?_, hfree⟩
          rw [hcm] at hd
          simpa using hd.symm
      obtain ⟨hC, hN, hlt, hd1⟩ := at_plain hcm (.inl (by decide))
      have HC : Hid (peekC ds p = 59) := hC
      have HR : Hid (∃ r, ds.drop p = r ++ E ∧ ∀ b ∈ r, b ≠ 10 ∧ b ≠ 13) := ⟨59 :: cm, by rw [hcm]; rfl, fun b hb => by
        rcases List.mem_cons.1 hb with rfl | hb
        · decide
        · exact hfree b hb⟩
      clear hd hcm hfree hC hN hd1
      go_wp2_with fail
      refine (peek_at V.rd hn 59 (by rw [HC.out]; rfl) hlt).mono ?_
      rintro e w1 ⟨rfl, hg1, hr1⟩
      have V1 := V.moved hg1 hr1
      clear hg1 hr1 V
      go_wp2_with fail
      refine (peek_at V1.rd hn 59 (by rw [HC.out]; rfl) hlt).mono ?_
      rintro e w2 ⟨rfl, hg2, hr2⟩
      have V2 := V1.moved hg2 hr2
      clear hg2 hr2 V1
      go_wp2
      go_loopw [9, 10] (fun c m wr => ∃ q, c = .int .u8 ((peekC ds q).toNat : Int) ∧ m = .bool true ∧ VI w wr rb dv ds q vv vals ∧ ∃ r, ds.drop q = r ++ E ∧ ∀ b ∈ r, b ≠ 10 ∧ b ≠ 13) (fun _ _ wr => ds.length - posOf wr rb)
      case atStart => exact ⟨p, by rw [HC.out]; rfl, rfl, V2, HR.out⟩
      case round =>
        clear HC HR HM hlt V2
        obtain ⟨q, rfl, rfl, V, r, hr, hfree⟩ := hrel
        have HM : Hid (ds.length - posOf wr rb = ds.length - q) := by show _ = _; rw [V.rd.pos]
        cases r with
        | nil =>
          rw [List.nil_append] at hr
          obtain ⟨hC, hlt⟩ := at_end hr HE.out
          rw [hC]
          have HD : Hid (ds.drop q = E) := hr
          clear hC hr hfree
          have hcv := run_str _ _ _ _ V.own
          go_wp2
          go_ret2
          exact ⟨rfl, V.gr, _, V.rd, HD⟩
        | cons b r =>
          rw [List.cons_append] at hr
          obtain ⟨hC, hN, hlt, hd1⟩ := at_plain hr (.inl (hfree b (by simp)).2)
          have t10 : ((b.toNat : Int) == 10) = false := u8_ne' (hfree b (by simp)).1 rfl
          have hfree' : ∀ b ∈ r, b ≠ 10 ∧ b ≠ 13 := fun b hb => hfree b (by simp [hb])
          have HR : Hid (∃ r, ds.drop (q + 1) = r ++ E ∧ ∀ b ∈ r, b ≠ 10 ∧ b ≠ 13) := ⟨r, hd1, hfree'⟩
          have hlt1 : q + 1 < ds.length := by
            rcases Nat.lt_or_ge (q + 1) ds.length with h1 | h1
            · exact h1
            · rw [List.drop_eq_nil_of_le h1] at hd1
              rcases HE.out with ⟨t, ht⟩ | ⟨t, ht⟩ <;> simp [ht] at hd1
          rw [hC]
          have HC : Hid (peekC ds q = b) := hC
          have HN : Hid (nextP ds q = q + 1) := hN
          clear hC hN hr hd1 hfree hfree'
          go_wp2_with fail
          refine (next_at V.rd hn (b.toNat : Int) (by rw [HC.out]) hlt _ HN.out).mono ?_
          rintro e w3 ⟨rfl, hg3, hr3⟩
          have V3 := V.moved hg3 hr3
          clear hg3 hr3 V
          go_wp2_with fail
          refine (peek_at V3.rd hn _ rfl hlt1).mono ?_
          rintro e w4 ⟨rfl, hg4, hr4⟩
          have V4 := V3.moved hg4 hr4
          clear hg4 hr4 V3
          go_wp2
          go_roundw
          case rel => exact ⟨q + 1, rfl, rfl, V4, HR.out⟩
          case measure => rw [V4.rd.pos, HM.out]; omega

end Go.Proofs.Qxb6601523a
