import Derived.Test.Qxb6601523aSkip
namespace Go.Proofs.Qxb6601523a
open Go.RowKit

theorem isKey_at {z : Int} {b : Bool} (h : keyZ z = b) (w : World) : Calls Try.prog 31 #[.int .u8 z] w fun e w' => e = .returned (.bool b) ∧ w' = w := h ▸ isKey_any z w

/-- The slot of the result, behind all that the call has done to other blocks. -/
theorem res_blk {w W wr : World} {rb : Nat} {o : Obj} (hW : W = w.alloc o) (hg : W.grownBy wr (some rb)) (hr : rb < w.heap.size) : wr.heap[w.heap.size]? = some o := by
  subst hW
  rw [hg.block w.heap.size (by simp) (by simp; omega)]
  show (w.heap.push o)[w.heap.size]? = _
  simp

theorem header_fin {w W wr wf : World} {rb : Nat} {o : Obj} {dv : Value} {ds : List UInt8} {p q : Nat} (hW : W = w.alloc o) (h : Rd w rb dv ds p) (hg : W.grownBy wr (some rb)) (hr : Rd wr rb dv ds q) (hf : wr.grownBy wf (some w.heap.size)) :
    w.grownBy wf (some rb) ∧ Rd wf rb dv ds q := by
  subst hW
  have h1 := h.lt
  refine ⟨grown_trans (grown_trans (World.grownBy_alloc w o (some rb)) hg (fun k hk => .inl hk)) hf (fun k hk => .inr (by cases hk; exact Nat.le_refl _)), hr.keep hf (by simp; omega) ?_⟩
  cases hv : dv.ownBlock with
  | none => exact .inl rfl
  | some g =>
    have := (h.own.lt g hv).2
    exact .inr (by simp; omega)

theorem grown_set3 (w : World) (g : Nat) (a b c : Value) : w.grownBy (((w.setCell ⟨g, 0, none⟩ a).setCell ⟨g, 1, none⟩ b).setCell ⟨g, 2, none⟩ c) (some g) :=
  grown_trans (grown_trans (grown_setCell w g 0 a) (grown_setCell _ g 1 b) (fun _ hk => .inl hk)) (grown_setCell _ g 2 c) (fun _ hk => .inl hk)

theorem toLower_at (c : UInt8) (w : World) : Calls Try.prog 32 #[.int .u8 (c.toNat : Int)] w fun e w' => e = .returned (.int .u8 ((lowB c).toNat : Int)) ∧ w' = w := by
  rw [lowB_z]
  exact toLower_any _ w ⟨by omega, u8_le c⟩

theorem small_le {l : List UInt8} {n : Nat} (h : l.length ≤ n) (hn : n ≤ 4294967296) : Small l := by unfold Small; omega

theorem hdrSub_ord {nm : List UInt8} {us : List (UInt8 × Nat)} {c : UInt8} {q : Nat} {sub : List UInt8} {p : Nat} (h10 : c ≠ 10) (h34 : c ≠ 34) (h92 : c ≠ 92) : hdrSub nm ((c, q) :: us) sub p = hdrSub nm us (sub ++ [c]) q := by
  cases us with
  | nil => simp [hdrSub, h10]
  | cons d us => obtain ⟨d, r⟩ := d; rw [hdrSub, if_neg h10, if_neg h34, if_neg h92]
theorem hdrSub_lf {nm : List UInt8} {us : List (UInt8 × Nat)} {q : Nat} {sub : List UInt8} {p : Nat} : hdrSub nm ((10, q) :: us) sub p = .fail p := by
  cases us with
  | nil => simp [hdrSub]
  | cons d us => obtain ⟨d, r⟩ := d; simp [hdrSub]

set_option maxRecDepth 20000 in
set_option maxHeartbeats 8000000 in
theorem header_any {w : World} {rb : Nat} {dv : Value} {ds : List UInt8} {p : Nat} (h : Rd w rb dv ds p) (hn : ds.length ≤ 4294967296) (us : List (UInt8 × Nat)) (hu : IsU ds p us) (R : HR) (hR : hdrName us [] p = R) :
    Calls Try.prog 25 #[.pointer (some ⟨rb, 0, none⟩)] w fun e w' => e = .returned (.tuple #[.agg #[.string ⟨R.name.toArray⟩, .string ⟨R.sub.toArray⟩, .bool R.has], .bool R.ok]) ∧ w.grownBy w' (some rb) ∧ Rd w' rb dv ds R.pos := by
  have HPK : Hid (∀ q w1, Rd w1 rb dv ds q → Calls Try.prog 29 #[.pointer (some ⟨rb, 0, none⟩)] w1 fun e w' => e = .returned (.tuple #[.int .u8 ((peekC ds q).toNat : Int), .bool (decide (q < ds.length))]) ∧ w1.grownBy w' (some rb) ∧ Rd w' rb dv ds q) := fun q w1 h1 => (peek_rd h1 hn).mono fun _ _ ⟨a, b, c, _⟩ => ⟨a, b, c⟩
  have HP : Hid (∃ us nm, IsU ds p us ∧ nm = [] ∧ nm.length ≤ p ∧ hdrName us nm p = R) := ⟨us, [], hu, rfl, Nat.zero_le _, hR⟩
  clear hu hR us
  obtain ⟨W, hW⟩ : ∃ W, W = w.alloc (.cells #[.string ⟨#[]⟩, .string ⟨#[]⟩, .bool false] 29) := ⟨_, rfl⟩
  have HW : Hid (W = w.alloc (.cells #[.string ⟨#[]⟩, .string ⟨#[]⟩, .bool false] 29)) := hW
  have hrW : Rd W rb dv ds p := by rw [hW]; exact h.keep (World.grownBy_alloc w _ none) (by simp) (by cases hv : dv.ownBlock <;> simp)
  have V := VI.start hrW
  go_enter Try.func25, Try.ntmps25
  go_wp2_with fail
  rw [← hW]
  clear hW
  refine (HPK.out _ _ hrW).mono ?_
  rintro e w1 ⟨rfl, hg1, hr1⟩
  have V1 := V.moved hg1 hr1
  clear hg1 hr1 V
  go_wp2
  go_loopw [4, 5, 6] (fun vv c m wr => ∃ p us nm v0, v0 = vv ∧ c = .int .u8 ((peekC ds p).toNat : Int) ∧ m = .bool (decide (p < ds.length)) ∧ VI W wr rb dv ds p v0 nm ∧ IsU ds p us ∧ nm.length ≤ p ∧ hdrName us nm p = R) (fun _ _ _ wr => ds.length - posOf wr rb)
  case atStart =>
    obtain ⟨us, nm, hu, rfl, hl, hR⟩ := HP.out
    exact ⟨p, us, [], _, rfl, rfl, rfl, V1, hu, hl, hR⟩
  case round =>
    clear V1 HP
    obtain ⟨p, us, nm, vv, rfl, rfl, rfl, V, hu, hl, hR⟩ := hrel
    have HM : Hid (ds.length - posOf wr rb = ds.length - p) := by show _ = _; rw [V.rd.pos]
    cases us with
    | nil =>
      have hlt : ds.length ≤ p := hu
      rw [show decide (p < ds.length) = false from decide_eq_false (by omega)]
      have HR : Hid (R = HR.fail p) := hR.symm
      clear hR hu
      go_wp2_with fail
      refine (peek_no V.rd hn hlt).mono ?_
      rintro e w2 ⟨rfl, hg, hr⟩
      have V2 := V.moved hg hr
      clear hg hr V
      have hblk := res_blk HW.out (V2.gr) h.lt
      have c0 : w2.cell? ⟨w.heap.size, 0, none⟩ = some (.string ⟨#[]⟩) := by simp [World.cell?, hblk]
      have c1 : w2.cell? ⟨w.heap.size, 1, none⟩ = some (.string ⟨#[]⟩) := by simp [World.cell?, hblk]
      have c2 : w2.cell? ⟨w.heap.size, 2, none⟩ = some (.bool false) := by simp [World.cell?, hblk]
      have f0 : w2.frozen? ⟨w.heap.size, 0, none⟩ = false := by simp [World.frozen?, hblk]
      have f1 : w2.frozen? ⟨w.heap.size, 1, none⟩ = false := by simp [World.frozen?, hblk]
      have f2 : w2.frozen? ⟨w.heap.size, 2, none⟩ = false := by simp [World.frozen?, hblk]
      clear hblk
      go_wp2
      refine bodyPost_ret (v := .tuple #[.agg #[.string ⟨#[]⟩, .string ⟨#[]⟩, .bool false], .bool false]) (by simp [results, Try.results25, go_sem, c0, c1, c2]) rfl ?_
      rw [HR.out]
      exact ⟨rfl, header_fin HW.out h (V2.gr) V2.rd (grown_set3 _ _ _ _ _)⟩
    | cons cq us =>
      obtain ⟨c, q⟩ := cq
      obtain ⟨hlt, hC, hN, hu'⟩ := hu
      have hpq : p < q := by rw [← hN]; exact nextP_gt hlt
      have HQ : Hid (p < q) := hpq
      rw [hC, show decide (p < ds.length) = true from decide_eq_true hlt]
      by_cases hk : keyDot c = true
      · rw [hdrName, if_pos hk] at hR
        by_cases hz : keyZ (c.toNat : Int) = true
        · have HL : Small (nm ++ [lowB c]) := small_le (n := ds.length) (by simp only [List.length_append, List.length_cons, List.length_nil]; omega) hn
          have HL2 : Hid ((nm ++ [lowB c]).length ≤ q) := by
            show _ ≤ q
            simp only [List.length_append, List.length_cons, List.length_nil]; omega
          have HP : Hid (hdrName us (nm ++ [lowB c]) q = R ∧ IsU ds q us) := ⟨hR, hu'⟩
          have HC : Hid (peekC ds p = c) := hC
          have HN : Hid (nextP ds p = q) := hN
          clear hR hu' hC hN hk hpq
          have HK : Hid (∀ w, Calls Try.prog 31 #[.int .u8 (c.toNat : Int)] w fun e w' => e = .returned (.bool true) ∧ w' = w) := fun w => isKey_at hz w
          have HT : Hid (∀ w, Calls Try.prog 32 #[.int .u8 (c.toNat : Int)] w fun e w' => e = .returned (.int .u8 ((lowB c).toNat : Int)) ∧ w' = w) := fun w => toLower_at c w
          clear hz
          obtain ⟨lb, hlb⟩ : ∃ lb, lb = lowB c := ⟨_, rfl⟩
          rw [← hlb] at HT HL HL2 HP
          clear hlb
          go_wp2_with fail
          refine (HK.out _).mono ?_
          rintro e w' ⟨rfl, rfl⟩
          go_wp2_with fail
          refine (HT.out _).mono ?_
          rintro e w' ⟨rfl, rfl⟩
          clear HK HT
          go_wp2_with (first
            | (at_builtin; refine wpList_append_b rfl _ _ rfl _ _ _ rfl (V.alloc _).own [lb] (src1 lb rfl rfl) (nm ++ [lb]) rfl HL (V.alloc _).size ?_; intro v' w4 ho4 hg4 _; have V4 := (V.alloc _).appended ho4 hg4; clear ho4 hg4)
            | (go_at_call 30; refine (next_at V4.rd hn _ (by rw [HC.out]) hlt _ HN.out).mono ?_; rintro e w5 ⟨rfl, hg5, hr5⟩; have V5 := V4.moved hg5 hr5; clear hg5 hr5)
            | (go_at_call 29; refine (HPK.out _ _ V5.rd).mono ?_; rintro e w6 ⟨rfl, hg6, hr6⟩; have V6 := V5.moved hg6 hr6; clear hg6 hr6))
          go_roundw
          case rel => exact ⟨q, us, nm ++ [lb], _, rfl, rfl, rfl, V6, HP.out.2, HL2.out, HP.out.1⟩
          case measure =>
            have h1 := HM.out
            have h2 := HQ.out
            rw [V6.rd.pos, h1]; omega
        · have hdot : c = 46 := by
            unfold keyDot at hk
            simp only [hz, Bool.false_or, decide_eq_true_eq] at hk
            exact hk
          have HL : Small (nm ++ [lowB c]) := small_le (n := ds.length) (by simp only [List.length_append, List.length_cons, List.length_nil]; omega) hn
          have HL2 : Hid ((nm ++ [lowB c]).length ≤ q) := by
            show _ ≤ q
            simp only [List.length_append, List.length_cons, List.length_nil]; omega
          have HP : Hid (hdrName us (nm ++ [lowB c]) q = R ∧ IsU ds q us) := ⟨hR, hu'⟩
          have HC : Hid (peekC ds p = c) := hC
          have HN : Hid (nextP ds p = q) := hN
          clear hR hu' hC hN hk hpq
          subst hdot
          have HK : Hid (∀ w, Calls Try.prog 31 #[.int .u8 46] w fun e w' => e = .returned (.bool false) ∧ w' = w) := fun w => isKey_at (by decide) w
          have HT : Hid (∀ w, Calls Try.prog 32 #[.int .u8 46] w fun e w' => e = .returned (.int .u8 ((lowB 46).toNat : Int)) ∧ w' = w) := fun w => toLower_at 46 w
          clear hz
          obtain ⟨lb, hlb⟩ : ∃ lb, lb = lowB 46 := ⟨_, rfl⟩
          rw [← hlb] at HT HL HL2 HP
          clear hlb
          go_wp2_with fail
          refine (HK.out _).mono ?_
          rintro e w' ⟨rfl, rfl⟩
          go_wp2_with fail
          refine (HT.out _).mono ?_
          rintro e w' ⟨rfl, rfl⟩
          clear HK HT
          go_wp2_with (first
            | (at_builtin; refine wpList_append_b rfl _ _ rfl _ _ _ rfl (V.alloc _).own [lb] (src1 lb rfl rfl) (nm ++ [lb]) rfl HL (V.alloc _).size ?_; intro v' w4 ho4 hg4 _; have V4 := (V.alloc _).appended ho4 hg4; clear ho4 hg4)
            | (go_at_call 30; refine (next_at V4.rd hn _ (by rw [HC.out]) hlt _ HN.out).mono ?_; rintro e w5 ⟨rfl, hg5, hr5⟩; have V5 := V4.moved hg5 hr5; clear hg5 hr5)
            | (go_at_call 29; refine (HPK.out _ _ V5.rd).mono ?_; rintro e w6 ⟨rfl, hg6, hr6⟩; have V6 := V5.moved hg6 hr6; clear hg6 hr6))
          go_roundw
          case rel => exact ⟨q, us, nm ++ [lb], _, rfl, rfl, rfl, V6, HP.out.2, HL2.out, HP.out.1⟩
          case measure =>
            have h1 := HM.out
            have h2 := HQ.out
            rw [V6.rd.pos, h1]; omega
      · have hk' : keyDot c = false := by simpa using hk
        obtain ⟨hz, h46⟩ := keyDot_f hk'
        rw [hdrName, if_neg hk] at hR
        have HC : Hid (peekC ds p = c) := hC
        have HN : Hid (nextP ds p = q) := hN
        by_cases h93 : c = 93
        · rw [if_pos h93] at hR
          have HR : Hid (R = ⟨true, nm, [], false, q⟩) := hR.symm
          subst h93
          have HK : Hid (∀ w, Calls Try.prog 31 #[.int .u8 93] w fun e w' => e = .returned (.bool false) ∧ w' = w) := fun w => isKey_at (by decide) w
          clear hR hu' hC hN hk hk' hz h46 hpq HQ HM
          go_wp2_with fail
          refine (HK.out _).mono ?_
          rintro e w' ⟨rfl, rfl⟩
          clear HK
          go_wp2_with fail
          refine (peek_at V.rd hn 93 (by rw [HC.out]; rfl) hlt).mono ?_
          rintro e w2 ⟨rfl, hg, hr⟩
          have V2 := V.moved hg hr
          clear hg hr V
          go_wp2_with fail
          refine (next_at V2.rd hn 93 (by rw [HC.out]; rfl) hlt _ HN.out).mono ?_
          rintro e w3 ⟨rfl, hg, hr⟩
          have V3 := V2.moved hg hr
          clear hg hr V2
          have hblk := res_blk HW.out (V3.gr) h.lt
          have c0 : w3.cell? ⟨w.heap.size, 0, none⟩ = some (.string ⟨#[]⟩) := by simp [World.cell?, hblk]
          have c1 : w3.cell? ⟨w.heap.size, 1, none⟩ = some (.string ⟨#[]⟩) := by simp [World.cell?, hblk]
          have c2 : w3.cell? ⟨w.heap.size, 2, none⟩ = some (.bool false) := by simp [World.cell?, hblk]
          have f0 : w3.frozen? ⟨w.heap.size, 0, none⟩ = false := by simp [World.frozen?, hblk]
          have f1 : w3.frozen? ⟨w.heap.size, 1, none⟩ = false := by simp [World.frozen?, hblk]
          have f2 : w3.frozen? ⟨w.heap.size, 2, none⟩ = false := by simp [World.frozen?, hblk]
          clear hblk
          have hcv := run_str _ _ _ _ V3.own
          go_wp2
          refine bodyPost_ret (v := .tuple #[.agg #[.string ⟨nm.toArray⟩, .string ⟨#[]⟩, .bool false], .bool true]) (by simp [results, Try.results25, go_sem, c0, c1, c2]) rfl ?_
          rw [HR.out]
          exact ⟨rfl, header_fin HW.out h (V3.gr) V3.rd (grown_set3 _ _ _ _ _)⟩
        · rw [if_neg h93] at hR
          by_cases hb : isBl c = true
          · rw [if_pos hb, hdrBl_drop] at hR
            have hu0 : IsU ds p ((c, q) :: us) := ⟨hlt, hC, hN, hu'⟩
            have hu2 := dropBl_u _ _ hu0
            have hhd := dropBl_head ((c, q) :: us) p
            have HSK : Hid (∀ w1, Rd w1 rb dv ds p → Calls Try.prog 33 #[.pointer (some ⟨rb, 0, none⟩)] w1 fun e w' => e = .returned (.tuple #[]) ∧ w1.grownBy w' (some rb) ∧ Rd w' rb dv ds (dropBl ((c, q) :: us) p).2) := fun w1 h1 => skip_any h1 hn _ hu0
            obtain ⟨us2, p2, hd2⟩ : ∃ us2 p2, dropBl ((c, q) :: us) p = (us2, p2) := ⟨_, _, rfl⟩
            rw [hd2] at hR hu2 hhd HSK
            clear hd2 hu0
            have hbb := isBl_t hb
            have HKK : Hid (∀ w, Calls Try.prog 31 #[.int .u8 (c.toNat : Int)] w fun e w' => e = .returned (.bool false) ∧ w' = w) := fun w => isKey_at hz w
            clear hu' hC hN hk hk' hz h46 hpq HQ HM HN
            cases us2 with
            | nil =>
              have HR : Hid (R = HR.fail p2) := hR.symm
              have hlt2 : ds.length ≤ p2 := hu2
              clear hR hu2 hhd
              rcases hbb with rfl | rfl
              all_goals
                have HK := HKK
                clear hb h93 HKK
                go_wp2_with fail
                refine (HK.out _).mono ?_
                rintro e w' ⟨rfl, rfl⟩
                clear HK
                go_wp2_with fail
                refine (peek_at V.rd hn _ (by rw [HC.out]) hlt).mono ?_
                rintro e w2 ⟨rfl, hg, hr⟩
                have V2 := V.moved hg hr
                clear hg hr V
                go_wp2_with fail
                refine (HSK.out _ V2.rd).mono ?_
                rintro e w3 ⟨rfl, hg, hr⟩
                have V3 := V2.moved hg hr
                clear hg hr V2
                go_wp2_with fail
                refine (peek_no V3.rd hn hlt2).mono ?_
                rintro e w4 ⟨rfl, hg, hr⟩
                have V4 := V3.moved hg hr
                clear hg hr V3
                have hblk := res_blk HW.out (V4.gr) h.lt
                have c0 : w4.cell? ⟨w.heap.size, 0, none⟩ = some (.string ⟨#[]⟩) := by simp [World.cell?, hblk]
                have c1 : w4.cell? ⟨w.heap.size, 1, none⟩ = some (.string ⟨#[]⟩) := by simp [World.cell?, hblk]
                have c2 : w4.cell? ⟨w.heap.size, 2, none⟩ = some (.bool false) := by simp [World.cell?, hblk]
                have f0 : w4.frozen? ⟨w.heap.size, 0, none⟩ = false := by simp [World.frozen?, hblk]
                have f1 : w4.frozen? ⟨w.heap.size, 1, none⟩ = false := by simp [World.frozen?, hblk]
                have f2 : w4.frozen? ⟨w.heap.size, 2, none⟩ = false := by simp [World.frozen?, hblk]
                clear hblk
                go_wp2
                refine bodyPost_ret (v := .tuple #[.agg #[.string ⟨#[]⟩, .string ⟨#[]⟩, .bool false], .bool false]) (by simp [results, Try.results25, go_sem, c0, c1, c2]) rfl ?_
                rw [HR.out]
                exact ⟨rfl, header_fin HW.out h (V4.gr) V4.rd (grown_set3 _ _ _ _ _)⟩
            | cons dq us3 =>
              obtain ⟨d, q2⟩ := dq
              obtain ⟨hlt2, hC2, hN2, hu3⟩ := hu2
              have hpq2 : p2 < q2 := by rw [← hN2]; exact nextP_gt hlt2
              have HC2 : Hid (peekC ds p2 = d) := hC2
              have HN2 : Hid (nextP ds p2 = q2) := hN2
              have hR : (if d = 34 then hdrSub nm us3 [] q2 else HR.fail p2) = R := hR
              by_cases h34 : d = 34
              · rw [if_pos h34] at hR
                subst h34
                have HS : Hid (IsU ds q2 us3 ∧ hdrSub nm us3 [] q2 = R) := ⟨hu3, hR⟩
                clear hR hu3 hC2 hN2 hpq2 hhd
                rcases hbb with rfl | rfl
                all_goals
                  have HK := HKK
                  clear hb h93 HKK
                  go_wp2_with fail
                  refine (HK.out _).mono ?_
                  rintro e w' ⟨rfl, rfl⟩
                  clear HK
                  go_wp2_with fail
                  refine (peek_at V.rd hn _ (by rw [HC.out]) hlt).mono ?_
                  rintro e w2 ⟨rfl, hg, hr⟩
                  have V2 := V.moved hg hr
                  clear hg hr V
                  go_wp2_with fail
                  refine (HSK.out _ V2.rd).mono ?_
                  rintro e w3 ⟨rfl, hg, hr⟩
                  have V3 := V2.moved hg hr
                  clear hg hr V2
                  go_wp2_with fail
                  refine (peek_at V3.rd hn 34 (by rw [HC2.out]; rfl) hlt2).mono ?_
                  rintro e w4 ⟨rfl, hg, hr⟩
                  have V4 := V3.moved hg hr
                  clear hg hr V3
                  go_wp2_with fail
                  refine (next_at V4.rd hn 34 (by rw [HC2.out]; rfl) hlt2 _ HN2.out).mono ?_
                  rintro e w5 ⟨rfl, hg, hr⟩
                  have N := V4.moved hg hr
                  clear hg hr V4
                  have VS := VI.start N.rd
                  clear hlt hlt2 hl HC HC2 HN2 HSK
                  go_wp2
                  go_loopw [11] (fun sv wr => ∃ p us sub s0, s0 = sv ∧ VI w5 wr rb dv ds p s0 sub ∧ IsU ds p us ∧ sub.length ≤ p ∧ hdrSub nm us sub p = R) (fun _ wr => ds.length - posOf wr rb)
                  case atStart => exact ⟨q2, us3, [], _, rfl, VS, HS.out.1, Nat.zero_le _, HS.out.2⟩
                  case round =>
                    clear VS HS
                    obtain ⟨p, us, sub, sv, rfl, V, hu, hl, hR⟩ := hrel
                    have HM : Hid (ds.length - posOf wr rb = ds.length - p) := by show _ = _; rw [V.rd.pos]
                    cases us with
                    | nil =>
                      have hlt : ds.length ≤ p := hu
                      have HR : Hid (R = HR.fail p) := hR.symm
                      clear hR hu hl HM
                      go_wp2_with fail
                      refine (peek_no V.rd hn hlt).mono ?_
                      rintro e x2 ⟨rfl, hg, hr⟩
                      have V2 := V.moved hg hr
                      clear hg hr V
                      have hblk := res_blk HW.out (grown_trans N.gr V2.gr (fun _ hk => .inl hk)) h.lt
                      have c0 : x2.cell? ⟨w.heap.size, 0, none⟩ = some (.string ⟨#[]⟩) := by simp [World.cell?, hblk]
                      have c1 : x2.cell? ⟨w.heap.size, 1, none⟩ = some (.string ⟨#[]⟩) := by simp [World.cell?, hblk]
                      have c2 : x2.cell? ⟨w.heap.size, 2, none⟩ = some (.bool false) := by simp [World.cell?, hblk]
                      have f0 : x2.frozen? ⟨w.heap.size, 0, none⟩ = false := by simp [World.frozen?, hblk]
                      have f1 : x2.frozen? ⟨w.heap.size, 1, none⟩ = false := by simp [World.frozen?, hblk]
                      have f2 : x2.frozen? ⟨w.heap.size, 2, none⟩ = false := by simp [World.frozen?, hblk]
                      clear hblk
                      go_wp2
                      refine bodyPost_ret (v := .tuple #[.agg #[.string ⟨#[]⟩, .string ⟨#[]⟩, .bool false], .bool false]) (by simp [results, Try.results25, go_sem, c0, c1, c2]) rfl ?_
                      rw [HR.out]
                      exact ⟨rfl, header_fin HW.out h (grown_trans N.gr V2.gr (fun _ hk => .inl hk)) V2.rd (grown_set3 _ _ _ _ _)⟩
                    | cons cq us =>
                      obtain ⟨c, q⟩ := cq
                      obtain ⟨hlt, hC, hN, hu'⟩ := hu
                      have hpq : p < q := by rw [← hN]; exact nextP_gt hlt
                      have HQ : Hid (p < q) := hpq
                      have HC : Hid (peekC ds p = c) := hC
                      have HN : Hid (nextP ds p = q) := hN
                      clear hC hN
                      by_cases c10 : c = 10
                      · subst c10
                        rw [hdrSub_lf] at hR
                        have HR : Hid (R = HR.fail p) := hR.symm
                        clear hR hu' hl HM HN HQ hpq
                        go_wp2_with fail
                        refine (peek_at V.rd hn 10 (by rw [HC.out]; rfl) hlt).mono ?_
                        rintro e x2 ⟨rfl, hg, hr⟩
                        have V2 := V.moved hg hr
                        clear hg hr V
                        have hblk := res_blk HW.out (grown_trans N.gr V2.gr (fun _ hk => .inl hk)) h.lt
                        have c0 : x2.cell? ⟨w.heap.size, 0, none⟩ = some (.string ⟨#[]⟩) := by simp [World.cell?, hblk]
                        have c1 : x2.cell? ⟨w.heap.size, 1, none⟩ = some (.string ⟨#[]⟩) := by simp [World.cell?, hblk]
                        have c2 : x2.cell? ⟨w.heap.size, 2, none⟩ = some (.bool false) := by simp [World.cell?, hblk]
                        have f0 : x2.frozen? ⟨w.heap.size, 0, none⟩ = false := by simp [World.frozen?, hblk]
                        have f1 : x2.frozen? ⟨w.heap.size, 1, none⟩ = false := by simp [World.frozen?, hblk]
                        have f2 : x2.frozen? ⟨w.heap.size, 2, none⟩ = false := by simp [World.frozen?, hblk]
                        clear hblk
                        go_wp2
                        refine bodyPost_ret (v := .tuple #[.agg #[.string ⟨#[]⟩, .string ⟨#[]⟩, .bool false], .bool false]) (by simp [results, Try.results25, go_sem, c0, c1, c2]) rfl ?_
                        rw [HR.out]
                        exact ⟨rfl, header_fin HW.out h (grown_trans N.gr V2.gr (fun _ hk => .inl hk)) V2.rd (grown_set3 _ _ _ _ _)⟩
                      by_cases c34 : c = 34
                      · subst c34
                        have hp2 : q ≤ ds.length ∨ ds.length < q := by omega
                        cases us with
                        | nil =>
                          have HR : Hid (R = HR.fail q) := hR.symm
                          have hltq : ds.length ≤ q := hu'
                          clear hR hu' hl HM HQ hpq c10 hp2
                          go_wp2_with fail
                          refine (peek_at V.rd hn 34 (by rw [HC.out]; rfl) hlt).mono ?_
                          rintro e x2 ⟨rfl, hg, hr⟩
                          have V2 := V.moved hg hr
                          clear hg hr V
                          go_wp2_with fail
                          refine (next_at V2.rd hn 34 (by rw [HC.out]; rfl) hlt _ HN.out).mono ?_
                          rintro e x3 ⟨rfl, hg, hr⟩
                          have V3 := V2.moved hg hr
                          clear hg hr V2
                          go_wp2_with fail
                          refine (peek_no V3.rd hn hltq).mono ?_
                          rintro e x4 ⟨rfl, hg, hr⟩
                          have V4 := V3.moved hg hr
                          clear hg hr V3
                          have hblk := res_blk HW.out (grown_trans N.gr V4.gr (fun _ hk => .inl hk)) h.lt
                          have c0 : x4.cell? ⟨w.heap.size, 0, none⟩ = some (.string ⟨#[]⟩) := by simp [World.cell?, hblk]
                          have c1 : x4.cell? ⟨w.heap.size, 1, none⟩ = some (.string ⟨#[]⟩) := by simp [World.cell?, hblk]
                          have c2 : x4.cell? ⟨w.heap.size, 2, none⟩ = some (.bool false) := by simp [World.cell?, hblk]
                          have f0 : x4.frozen? ⟨w.heap.size, 0, none⟩ = false := by simp [World.frozen?, hblk]
                          have f1 : x4.frozen? ⟨w.heap.size, 1, none⟩ = false := by simp [World.frozen?, hblk]
                          have f2 : x4.frozen? ⟨w.heap.size, 2, none⟩ = false := by simp [World.frozen?, hblk]
                          clear hblk
                          go_wp2
                          refine bodyPost_ret (v := .tuple #[.agg #[.string ⟨#[]⟩, .string ⟨#[]⟩, .bool false], .bool false]) (by simp [results, Try.results25, go_sem, c0, c1, c2]) rfl ?_
                          rw [HR.out]
                          exact ⟨rfl, header_fin HW.out h (grown_trans N.gr V4.gr (fun _ hk => .inl hk)) V4.rd (grown_set3 _ _ _ _ _)⟩
                        | cons dq us =>
                          obtain ⟨d, r⟩ := dq
                          obtain ⟨hltq, hC2, hN2, hu''⟩ := hu'
                          have HC2 : Hid (peekC ds q = d) := hC2
                          have HN2 : Hid (nextP ds q = r) := hN2
                          clear hp2 hC2 hN2 hu''
                          rw [hdrSub, if_neg c10, if_pos rfl] at hR
                          by_cases d93 : d = 93
                          · subst d93
                            rw [if_pos rfl] at hR
                            have HR : Hid (R = ⟨true, nm, sub, true, r⟩) := hR.symm
                            clear hR hl HM HQ hpq c10
                            go_wp2_with fail
                            refine (peek_at V.rd hn 34 (by rw [HC.out]; rfl) hlt).mono ?_
                            rintro e x2 ⟨rfl, hg, hr⟩
                            have V2 := V.moved hg hr
                            clear hg hr V
                            go_wp2_with fail
                            refine (next_at V2.rd hn 34 (by rw [HC.out]; rfl) hlt _ HN.out).mono ?_
                            rintro e x3 ⟨rfl, hg, hr⟩
                            have V3 := V2.moved hg hr
                            clear hg hr V2
                            go_wp2_with fail
                            refine (peek_at V3.rd hn 93 (by rw [HC2.out]; rfl) hltq).mono ?_
                            rintro e x4 ⟨rfl, hg, hr⟩
                            have V4 := V3.moved hg hr
                            clear hg hr V3
                            go_wp2_with fail
                            refine (next_at V4.rd hn 93 (by rw [HC2.out]; rfl) hltq _ HN2.out).mono ?_
                            rintro e x5 ⟨rfl, hg, hr⟩
                            have V5 := V4.moved hg hr
                            clear hg hr V4
                            have hblk := res_blk HW.out (grown_trans N.gr V5.gr (fun _ hk => .inl hk)) h.lt
                            have c0 : x5.cell? ⟨w.heap.size, 0, none⟩ = some (.string ⟨#[]⟩) := by simp [World.cell?, hblk]
                            have c1 : x5.cell? ⟨w.heap.size, 1, none⟩ = some (.string ⟨#[]⟩) := by simp [World.cell?, hblk]
                            have c2 : x5.cell? ⟨w.heap.size, 2, none⟩ = some (.bool false) := by simp [World.cell?, hblk]
                            have f0 : x5.frozen? ⟨w.heap.size, 0, none⟩ = false := by simp [World.frozen?, hblk]
                            have f1 : x5.frozen? ⟨w.heap.size, 1, none⟩ = false := by simp [World.frozen?, hblk]
                            have f2 : x5.frozen? ⟨w.heap.size, 2, none⟩ = false := by simp [World.frozen?, hblk]
                            clear hblk
                            have hcv := run_str _ _ _ _ V5.own
                            have hcn := run_str _ _ _ _ (N.own.kept V5.gr (.inr (N.own.ne N.rd.blk (by decide))))
                            go_wp2
                            refine bodyPost_ret (v := .tuple #[.agg #[.string ⟨nm.toArray⟩, .string ⟨sub.toArray⟩, .bool true], .bool true]) (by simp [results, Try.results25, go_sem, c0, c1, c2]) rfl ?_
                            rw [HR.out]
                            exact ⟨rfl, header_fin HW.out h (grown_trans N.gr V5.gr (fun _ hk => .inl hk)) V5.rd (grown_set3 _ _ _ _ _)⟩
                          · rw [if_neg d93] at hR
                            have HR : Hid (R = HR.fail q) := hR.symm
                            have t93 : ((d.toNat : Int) == 93) = false := u8_ne' d93 rfl
                            have n93 : ((d.toNat : Int) != 93) = true := by simp only [bne, t93, Bool.not_false]
                            clear hR hl HM HQ hpq c10 d93
                            go_wp2_with fail
                            refine (peek_at V.rd hn 34 (by rw [HC.out]; rfl) hlt).mono ?_
                            rintro e x2 ⟨rfl, hg, hr⟩
                            have V2 := V.moved hg hr
                            clear hg hr V
                            go_wp2_with fail
                            refine (next_at V2.rd hn 34 (by rw [HC.out]; rfl) hlt _ HN.out).mono ?_
                            rintro e x3 ⟨rfl, hg, hr⟩
                            have V3 := V2.moved hg hr
                            clear hg hr V2
                            go_wp2_with fail
                            refine (peek_at V3.rd hn _ (by rw [HC2.out]) hltq).mono ?_
                            rintro e x4 ⟨rfl, hg, hr⟩
                            have V4 := V3.moved hg hr
                            clear hg hr V3
                            have hblk := res_blk HW.out (grown_trans N.gr V4.gr (fun _ hk => .inl hk)) h.lt
                            have c0 : x4.cell? ⟨w.heap.size, 0, none⟩ = some (.string ⟨#[]⟩) := by simp [World.cell?, hblk]
                            have c1 : x4.cell? ⟨w.heap.size, 1, none⟩ = some (.string ⟨#[]⟩) := by simp [World.cell?, hblk]
                            have c2 : x4.cell? ⟨w.heap.size, 2, none⟩ = some (.bool false) := by simp [World.cell?, hblk]
                            have f0 : x4.frozen? ⟨w.heap.size, 0, none⟩ = false := by simp [World.frozen?, hblk]
                            have f1 : x4.frozen? ⟨w.heap.size, 1, none⟩ = false := by simp [World.frozen?, hblk]
                            have f2 : x4.frozen? ⟨w.heap.size, 2, none⟩ = false := by simp [World.frozen?, hblk]
                            clear hblk
                            go_wp2
                            refine bodyPost_ret (v := .tuple #[.agg #[.string ⟨#[]⟩, .string ⟨#[]⟩, .bool false], .bool false]) (by simp [results, Try.results25, go_sem, c0, c1, c2]) rfl ?_
                            rw [HR.out]
                            exact ⟨rfl, header_fin HW.out h (grown_trans N.gr V4.gr (fun _ hk => .inl hk)) V4.rd (grown_set3 _ _ _ _ _)⟩
                      by_cases c92 : c = 92
                      · subst c92
                        cases us with
                        | nil =>
                          have HR : Hid (R = HR.fail q) := hR.symm
                          have hltq : ds.length ≤ q := hu'
                          clear hR hu' hl HM HQ hpq c10 c34
                          go_wp2_with fail
                          refine (peek_at V.rd hn 92 (by rw [HC.out]; rfl) hlt).mono ?_
                          rintro e x2 ⟨rfl, hg, hr⟩
                          have V2 := V.moved hg hr
                          clear hg hr V
                          go_wp2_with fail
                          refine (next_at V2.rd hn 92 (by rw [HC.out]; rfl) hlt _ HN.out).mono ?_
                          rintro e x3 ⟨rfl, hg, hr⟩
                          have V3 := V2.moved hg hr
                          clear hg hr V2
                          go_wp2_with fail
                          refine (peek_no V3.rd hn hltq).mono ?_
                          rintro e x4 ⟨rfl, hg, hr⟩
                          have V4 := V3.moved hg hr
                          clear hg hr V3
                          have hblk := res_blk HW.out (grown_trans N.gr V4.gr (fun _ hk => .inl hk)) h.lt
                          have c0 : x4.cell? ⟨w.heap.size, 0, none⟩ = some (.string ⟨#[]⟩) := by simp [World.cell?, hblk]
                          have c1 : x4.cell? ⟨w.heap.size, 1, none⟩ = some (.string ⟨#[]⟩) := by simp [World.cell?, hblk]
                          have c2 : x4.cell? ⟨w.heap.size, 2, none⟩ = some (.bool false) := by simp [World.cell?, hblk]
                          have f0 : x4.frozen? ⟨w.heap.size, 0, none⟩ = false := by simp [World.frozen?, hblk]
                          have f1 : x4.frozen? ⟨w.heap.size, 1, none⟩ = false := by simp [World.frozen?, hblk]
                          have f2 : x4.frozen? ⟨w.heap.size, 2, none⟩ = false := by simp [World.frozen?, hblk]
                          clear hblk
                          go_wp2
                          refine bodyPost_ret (v := .tuple #[.agg #[.string ⟨#[]⟩, .string ⟨#[]⟩, .bool false], .bool false]) (by simp [results, Try.results25, go_sem, c0, c1, c2]) rfl ?_
                          rw [HR.out]
                          exact ⟨rfl, header_fin HW.out h (grown_trans N.gr V4.gr (fun _ hk => .inl hk)) V4.rd (grown_set3 _ _ _ _ _)⟩
                        | cons dq us =>
                          obtain ⟨d, r⟩ := dq
                          obtain ⟨hltq, hC2, hN2, hu''⟩ := hu'
                          have hqr : q < r := by rw [← hN2]; exact nextP_gt hltq
                          have HC2 : Hid (peekC ds q = d) := hC2
                          have HN2 : Hid (nextP ds q = r) := hN2
                          clear hC2 hN2
                          rw [hdrSub, if_neg c10, if_neg c34, if_pos rfl] at hR
                          by_cases d10 : d = 10
                          · subst d10
                            rw [if_pos rfl] at hR
                            have HR : Hid (R = HR.fail q) := hR.symm
                            clear hR hl HM HQ hpq c10 c34 hu'' hqr HN2
                            go_wp2_with fail
                            refine (peek_at V.rd hn 92 (by rw [HC.out]; rfl) hlt).mono ?_
                            rintro e x2 ⟨rfl, hg, hr⟩
                            have V2 := V.moved hg hr
                            clear hg hr V
                            go_wp2_with fail
                            refine (next_at V2.rd hn 92 (by rw [HC.out]; rfl) hlt _ HN.out).mono ?_
                            rintro e x3 ⟨rfl, hg, hr⟩
                            have V3 := V2.moved hg hr
                            clear hg hr V2
                            go_wp2_with fail
                            refine (peek_at V3.rd hn 10 (by rw [HC2.out]; rfl) hltq).mono ?_
                            rintro e x4 ⟨rfl, hg, hr⟩
                            have V4 := V3.moved hg hr
                            clear hg hr V3
                            have hblk := res_blk HW.out (grown_trans N.gr V4.gr (fun _ hk => .inl hk)) h.lt
                            have c0 : x4.cell? ⟨w.heap.size, 0, none⟩ = some (.string ⟨#[]⟩) := by simp [World.cell?, hblk]
                            have c1 : x4.cell? ⟨w.heap.size, 1, none⟩ = some (.string ⟨#[]⟩) := by simp [World.cell?, hblk]
                            have c2 : x4.cell? ⟨w.heap.size, 2, none⟩ = some (.bool false) := by simp [World.cell?, hblk]
                            have f0 : x4.frozen? ⟨w.heap.size, 0, none⟩ = false := by simp [World.frozen?, hblk]
                            have f1 : x4.frozen? ⟨w.heap.size, 1, none⟩ = false := by simp [World.frozen?, hblk]
                            have f2 : x4.frozen? ⟨w.heap.size, 2, none⟩ = false := by simp [World.frozen?, hblk]
                            clear hblk
                            go_wp2
                            refine bodyPost_ret (v := .tuple #[.agg #[.string ⟨#[]⟩, .string ⟨#[]⟩, .bool false], .bool false]) (by simp [results, Try.results25, go_sem, c0, c1, c2]) rfl ?_
                            rw [HR.out]
                            exact ⟨rfl, header_fin HW.out h (grown_trans N.gr V4.gr (fun _ hk => .inl hk)) V4.rd (grown_set3 _ _ _ _ _)⟩
                          · rw [if_neg d10] at hR
                            have t10 : ((d.toNat : Int) == 10) = false := u8_ne' d10 rfl
                            have HL : Small (sub ++ [d]) := small_le (n := ds.length) (by simp only [List.length_append, List.length_cons, List.length_nil]; omega) hn
                            have HL2 : Hid ((sub ++ [d]).length ≤ r) := by
                              show _ ≤ r
                              simp only [List.length_append, List.length_cons, List.length_nil]; omega
                            have HP : Hid (hdrSub nm us (sub ++ [d]) r = R ∧ IsU ds r us ∧ p < r) := ⟨hR, hu'', by omega⟩
                            clear hR hl HQ hpq c10 c34 hu'' hqr d10
                            go_wp2_with fail
                            refine (peek_at V.rd hn 92 (by rw [HC.out]; rfl) hlt).mono ?_
                            rintro e x2 ⟨rfl, hg, hr⟩
                            have V2 := V.moved hg hr
                            clear hg hr V
                            go_wp2_with fail
                            refine (next_at V2.rd hn 92 (by rw [HC.out]; rfl) hlt _ HN.out).mono ?_
                            rintro e x3 ⟨rfl, hg, hr⟩
                            have V3 := V2.moved hg hr
                            clear hg hr V2
                            go_wp2_with fail
                            refine (peek_at V3.rd hn _ (by rw [HC2.out]) hltq).mono ?_
                            rintro e x4 ⟨rfl, hg, hr⟩
                            have V4 := V3.moved hg hr
                            clear hg hr V3
                            go_wp2_with fail
                            refine (next_at V4.rd hn _ (by rw [HC2.out]) hltq _ HN2.out).mono ?_
                            rintro e x5 ⟨rfl, hg, hr⟩
                            have V5 := V4.moved hg hr
                            clear hg hr V4
                            go_wp2_with (at_builtin; refine wpList_append_b rfl _ _ rfl _ _ _ rfl (V5.alloc _).own [d] (src1 d rfl rfl) (sub ++ [d]) rfl HL (V5.alloc _).size ?_; intro v' x6 ho6 hg6 _; have V6 := (V5.alloc _).appended ho6 hg6; clear ho6 hg6)
                            go_roundw
                            case rel => exact ⟨r, us, sub ++ [d], _, rfl, V6, HP.out.2.1, HL2.out, HP.out.1⟩
                            case measure =>
                              have h1 := HM.out
                              have h2 := HP.out.2.2
                              rw [V6.rd.pos, h1]; omega
                      · rw [hdrSub_ord c10 c34 c92] at hR
                        have t10 : ((c.toNat : Int) == 10) = false := u8_ne' c10 rfl
                        have t34 : ((c.toNat : Int) == 34) = false := u8_ne' c34 rfl
                        have t92 : ((c.toNat : Int) == 92) = false := u8_ne' c92 rfl
                        have HL : Small (sub ++ [c]) := small_le (n := ds.length) (by simp only [List.length_append, List.length_cons, List.length_nil]; omega) hn
                        have HL2 : Hid ((sub ++ [c]).length ≤ q) := by
                          show _ ≤ q
                          simp only [List.length_append, List.length_cons, List.length_nil]; omega
                        have HP : Hid (hdrSub nm us (sub ++ [c]) q = R ∧ IsU ds q us) := ⟨hR, hu'⟩
                        clear hR hl hpq c10 c34 c92 hu'
                        go_wp2_with fail
                        refine (peek_at V.rd hn _ (by rw [HC.out]) hlt).mono ?_
                        rintro e x2 ⟨rfl, hg, hr⟩
                        have V2 := V.moved hg hr
                        clear hg hr V
                        go_wp2_with fail
                        refine (next_at V2.rd hn _ (by rw [HC.out]) hlt _ HN.out).mono ?_
                        rintro e x3 ⟨rfl, hg, hr⟩
                        have V3 := V2.moved hg hr
                        clear hg hr V2
                        go_wp2_with (at_builtin; refine wpList_append_b rfl _ _ rfl _ _ _ rfl (V3.alloc _).own [c] (src1 c rfl rfl) (sub ++ [c]) rfl HL (V3.alloc _).size ?_; intro v' x6 ho6 hg6 _; have V6 := (V3.alloc _).appended ho6 hg6; clear ho6 hg6)
                        go_roundw
                        case rel => exact ⟨q, us, sub ++ [c], _, rfl, V6, HP.out.2, HL2.out, HP.out.1⟩
                        case measure =>
                          have h1 := HM.out
                          have h2 := HQ.out
                          rw [V6.rd.pos, h1]; omega
              · rw [if_neg h34] at hR
                have HR : Hid (R = HR.fail p2) := hR.symm
                have t34 : ((d.toNat : Int) == 34) = false := u8_ne' h34 rfl
                have n34 : ((d.toNat : Int) != 34) = true := by simp only [bne, t34, Bool.not_false]
                clear hR hu3 hC2 hN2 hpq2 hhd h34
                rcases hbb with rfl | rfl
                all_goals
                  have HK := HKK
                  clear hb h93 HKK
                  go_wp2_with fail
                  refine (HK.out _).mono ?_
                  rintro e w' ⟨rfl, rfl⟩
                  clear HK
                  go_wp2_with fail
                  refine (peek_at V.rd hn _ (by rw [HC.out]) hlt).mono ?_
                  rintro e w2 ⟨rfl, hg, hr⟩
                  have V2 := V.moved hg hr
                  clear hg hr V
                  go_wp2_with fail
                  refine (HSK.out _ V2.rd).mono ?_
                  rintro e w3 ⟨rfl, hg, hr⟩
                  have V3 := V2.moved hg hr
                  clear hg hr V2
                  go_wp2_with fail
                  refine (peek_at V3.rd hn _ (by rw [HC2.out]) hlt2).mono ?_
                  rintro e w4 ⟨rfl, hg, hr⟩
                  have V4 := V3.moved hg hr
                  clear hg hr V3
                  have hblk := res_blk HW.out (V4.gr) h.lt
                  have c0 : w4.cell? ⟨w.heap.size, 0, none⟩ = some (.string ⟨#[]⟩) := by simp [World.cell?, hblk]
                  have c1 : w4.cell? ⟨w.heap.size, 1, none⟩ = some (.string ⟨#[]⟩) := by simp [World.cell?, hblk]
                  have c2 : w4.cell? ⟨w.heap.size, 2, none⟩ = some (.bool false) := by simp [World.cell?, hblk]
                  have f0 : w4.frozen? ⟨w.heap.size, 0, none⟩ = false := by simp [World.frozen?, hblk]
                  have f1 : w4.frozen? ⟨w.heap.size, 1, none⟩ = false := by simp [World.frozen?, hblk]
                  have f2 : w4.frozen? ⟨w.heap.size, 2, none⟩ = false := by simp [World.frozen?, hblk]
                  clear hblk
                  go_wp2
                  refine bodyPost_ret (v := .tuple #[.agg #[.string ⟨#[]⟩, .string ⟨#[]⟩, .bool false], .bool false]) (by simp [results, Try.results25, go_sem, c0, c1, c2]) rfl ?_
                  rw [HR.out]
                  exact ⟨rfl, header_fin HW.out h (V4.gr) V4.rd (grown_set3 _ _ _ _ _)⟩
          · rw [if_neg hb] at hR
            have HR : Hid (R = HR.fail p) := hR.symm
            have hb' : isBl c = false := by simpa using hb
            have t32 : ((c.toNat : Int) == 32) = false := u8_ne' (isBl_f hb').1 rfl
            have t9 : ((c.toNat : Int) == 9) = false := u8_ne' (isBl_f hb').2 rfl
            have n32 : ((c.toNat : Int) != 32) = true := by simp only [bne, t32, Bool.not_false]
            have n9 : ((c.toNat : Int) != 9) = true := by simp only [bne, t9, Bool.not_false]
            have t93 : ((c.toNat : Int) == 93) = false := u8_ne' h93 rfl
            have t46 : ((c.toNat : Int) == 46) = false := u8_ne' h46 rfl
            have HK : Hid (∀ w, Calls Try.prog 31 #[.int .u8 (c.toNat : Int)] w fun e w' => e = .returned (.bool false) ∧ w' = w) := fun w => isKey_at hz w
            clear hR hu' hC hN hk hk' hz h46 hpq HQ HM HN hb hb' h93
            go_wp2_with fail
            refine (HK.out _).mono ?_
            rintro e w' ⟨rfl, rfl⟩
            clear HK
            go_wp2_with fail
            refine (peek_at V.rd hn _ (by rw [HC.out]) hlt).mono ?_
            rintro e w2 ⟨rfl, hg, hr⟩
            have V2 := V.moved hg hr
            clear hg hr V
            have hblk := res_blk HW.out (V2.gr) h.lt
            have c0 : w2.cell? ⟨w.heap.size, 0, none⟩ = some (.string ⟨#[]⟩) := by simp [World.cell?, hblk]
            have c1 : w2.cell? ⟨w.heap.size, 1, none⟩ = some (.string ⟨#[]⟩) := by simp [World.cell?, hblk]
            have c2 : w2.cell? ⟨w.heap.size, 2, none⟩ = some (.bool false) := by simp [World.cell?, hblk]
            have f0 : w2.frozen? ⟨w.heap.size, 0, none⟩ = false := by simp [World.frozen?, hblk]
            have f1 : w2.frozen? ⟨w.heap.size, 1, none⟩ = false := by simp [World.frozen?, hblk]
            have f2 : w2.frozen? ⟨w.heap.size, 2, none⟩ = false := by simp [World.frozen?, hblk]
            clear hblk
            go_wp2
            refine bodyPost_ret (v := .tuple #[.agg #[.string ⟨#[]⟩, .string ⟨#[]⟩, .bool false], .bool false]) (by simp [results, Try.results25, go_sem, c0, c1, c2]) rfl ?_
            rw [HR.out]
            exact ⟨rfl, header_fin HW.out h (V2.gr) V2.rd (grown_set3 _ _ _ _ _)⟩

end Go.Proofs.Qxb6601523a
