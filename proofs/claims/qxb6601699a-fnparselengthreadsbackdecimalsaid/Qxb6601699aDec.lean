import Derived.Test.Qxb6601699aDig
import Derived.Test.Qxb6601699aParse
namespace Go.Proofs.Qxb6601699a
open Go.RowKit

/-- The array of digits: l are its last cells. -/
structure Arr (w0 w : World) (g : Nat) (l : List UInt8) : Prop where
  ex : ∃ (cur : Array Value) (t : TypeId), w.heap[g]? = some (.cells cur t (0, 0)) ∧ cur.size = 20 ∧ cur.toList.drop (20 - l.length) = bcells l ∧ ∀ j, j < 20 → ∃ u : UInt8, cur[j]? = some (.int .u8 (u.toNat : Int))
  bel : Below w0.heap.size w0 w
  ge : w0.heap.size ≤ g
  len : l.length ≤ 20

theorem Arr.cell {w0 w : World} {g : Nat} {l : List UInt8} (h : Arr w0 w g l) (j : Nat) (hj : j < 20) : ∃ u : UInt8, w.cell? ⟨g, j, none⟩ = some (.int .u8 (u.toNat : Int)) := by
  obtain ⟨cur, t, h1, h2, h3, h4⟩ := h.ex
  obtain ⟨u, hu⟩ := h4 j hj
  exact ⟨u, by simp [World.cell?, h1, hu]⟩
theorem Arr.free {w0 w : World} {g : Nat} {l : List UInt8} (h : Arr w0 w g l) (j : Nat) : w.frozen? ⟨g, j, none⟩ = false := by
  obtain ⟨cur, t, h1, h2, h3, h4⟩ := h.ex
  simp [World.frozen?, h1]
theorem Arr.put {w0 w : World} {g : Nat} {l : List UInt8} (h : Arr w0 w g l) (c : UInt8) (j : Nat) (hj : j + 1 + l.length = 20) : Arr w0 (w.setCell ⟨g, j, none⟩ (.int .u8 (c.toNat : Int))) g (c :: l) := by
  obtain ⟨cur, t, h1, h2, h3, h4⟩ := h.ex
  refine ⟨⟨cur.setIfInBounds j (.int .u8 (c.toNat : Int)), t, by simp [World.setCell, Array.getElem?_modify, h1], by simpa using h2, ?_, ?_⟩, h.bel.setCell (p := ⟨g, j, none⟩) h.ge _, h.ge, by simp only [List.length_cons]; omega⟩
  · simp only [List.length_cons]
    rw [show 20 - (l.length + 1) = j from by omega, Array.toList_setIfInBounds, List.drop_eq_getElem_cons (by simp; omega)]
    rw [show 20 - l.length = j + 1 from by omega] at h3
    simp [bcells]
    rw [List.drop_set_of_lt (by omega), h3]
    simp [bcells]
  · intro i hi
    by_cases e : i = j
    · subst e
      exact ⟨c, by rw [Array.getElem?_setIfInBounds_self_of_lt (by omega)]⟩
    · obtain ⟨u, hu⟩ := h4 i hi
      exact ⟨u, by rw [Array.getElem?_setIfInBounds_ne (fun h => e h.symm), hu]⟩
theorem Arr.src {w0 w w' : World} {g : Nat} {l : List UInt8} (h : Arr w0 w g l) (hb : Below w.heap.size w w') (j : Nat) (hj : j + l.length = 20) (v : Value) (n c : Nat) (hv : v = .slice (some ⟨g, j, none⟩) n c) (hn : n = l.length) : SrcB w' v l := by
  obtain ⟨cur, t, h1, h2, h3, h4⟩ := h.ex
  subst hn hv
  refine .inr ⟨_, c, rfl, fun i u hu => ?_⟩
  have hlt : g < w.heap.size := lt_of_block h1
  have hadd : (⟨g, j, none⟩ : Addr).add i = ⟨g, j + i, none⟩ := by unfold Addr.add; split <;> simp_all
  rw [hadd]
  have hw' : w'.heap[g]? = some (.cells cur t (0, 0)) := by rw [hb.block g hlt]; exact h1
  rw [show 20 - l.length = j from by omega] at h3
  rw [← h3, List.getElem?_drop] at hu
  simp [World.cell?, hw']
  simpa using hu

theorem arr0 (w : World) : Arr w (w.alloc (.cells #[.int .u8 0, .int .u8 0, .int .u8 0, .int .u8 0, .int .u8 0, .int .u8 0, .int .u8 0, .int .u8 0, .int .u8 0, .int .u8 0, .int .u8 0, .int .u8 0, .int .u8 0, .int .u8 0, .int .u8 0, .int .u8 0, .int .u8 0, .int .u8 0, .int .u8 0, .int .u8 0] 41)) w.heap.size [] := by
  refine ⟨⟨_, 41, heap_alloc_new w _, rfl, rfl, fun j hj => ⟨0, ?_⟩⟩, (Below.refl _ w).alloc (Nat.le_refl _) _, Nat.le_refl _, Nat.zero_le _⟩
  have : ∀ j : Nat, j < 20 → (#[Value.int .u8 0, .int .u8 0, .int .u8 0, .int .u8 0, .int .u8 0, .int .u8 0, .int .u8 0, .int .u8 0, .int .u8 0, .int .u8 0, .int .u8 0, .int .u8 0, .int .u8 0, .int .u8 0, .int .u8 0, .int .u8 0, .int .u8 0, .int .u8 0, .int .u8 0, .int .u8 0])[j]? = some (.int .u8 ((0 : UInt8).toNat : Int)) := by
    intro j hj
    match j, hj with
    | 0, _ | 1, _ | 2, _ | 3, _ | 4, _ | 5, _ | 6, _ | 7, _ | 8, _ | 9, _ | 10, _ | 11, _ | 12, _ | 13, _ | 14, _ | 15, _ | 16, _ | 17, _ | 18, _ | 19, _ => rfl
    | n + 20, h => omega
  exact this j hj

theorem run_arr (w : World) (g j : Nat) (hj : j ≤ 19) : (Instr.sliceAt 41 (.pointer (some ⟨g, 0, none⟩)) (some (.int .i64 (j : Int))) none none).run Try.prog w = .ok (.slice (some ⟨g, j, none⟩) (20 - j) (20 - j)) w := by
  obtain ⟨i, hi, hz, hsize, hby⟩ := info_parts info5
  have ht : Try.prog.underlying 41 = some (.array 20 5) := by kernel_rfl
  have h1 : Try.prog.arrayLen 41 = 20 := by kernel_rfl
  have h2 : Try.prog.elem 41 = 5 := by kernel_rfl
  have hr := run_sliceAt_array_l (P := Try.prog) w 41 ⟨g, 0, none⟩ (by rw [h1, h2]; exact ht) .i64 (j : Int) (by omega) (by rw [h1]; omega)
  rw [hr, h1, h2]
  have hadd : (⟨g, 0, none⟩ : Addr).add (j * 1) = ⟨g, j, none⟩ := by unfold Addr.add; split <;> simp_all
  have hne : ¬ (20 = j) := by omega
  simp [sizeOf, typeInfo, hi, hsize, slicedAt, hne]
  simpa using hadd

theorem digsF_end {f m : Nat} {l : List UInt8} (h : m / 10 = 0) : digsF (f + 1) m l = dc m :: l := by rw [digsF, if_pos h]
theorem digsF_more {f m : Nat} {l : List UInt8} (h : ¬ m / 10 = 0) : digsF (f + 1) m l = digsF f (m / 10) (dc m :: l) := by rw [digsF, if_neg h]

set_option maxRecDepth 20000 in
set_option maxHeartbeats 2000000 in
theorem dec_pos (m0 z : Nat) (w : World) (hm : m0 < 1000000000000000000) (hz : z ≤ 20) :
    Calls Try.prog 12 #[.int .i64 ((m0 : Int)), .int .i64 (z : Int)] w fun e w' => ∃ v, e = .returned v ∧ OwnB w' w.heap.size v (text false z m0) ∧ Below w.heap.size w w' := by
  obtain ⟨D, hD⟩ : ∃ D, D = digs m0 := ⟨_, rfl⟩
  have HD : Hid (digs m0 = D) := hD.symm
  clear hD
  go_enter Try.func12, Try.ntmps12
  go_wp2
  go_loopw [6, 7] (fun i y wr => ∃ (l : List UInt8) (m f : Nat), f + l.length = 18 ∧ i = .int .i64 (20 - (l.length : Int)) ∧ y = .int .i64 (m : Int) ∧ Arr w wr w.heap.size l ∧ m < 10 ^ f ∧ m < 1000000000000000000 ∧ 1 ≤ f ∧ digsF f m l = D) (fun i _ _ => (intOf i).toNat)
  case atStart => exact ⟨[], m0, 18, rfl, rfl, by go_num, arr0 w, by simpa using hm, hm, by omega, HD.out⟩
  case round =>
    obtain ⟨l, m, f, hf, rfl, rfl, A, hmf, hmb, hf1, hdg⟩ := hrel
    obtain ⟨q, rfl⟩ : ∃ q, f = q + 1 := ⟨f - 1, by omega⟩
    obtain ⟨j, hj⟩ : ∃ j : Nat, j + 1 + l.length = 20 := ⟨19 - l.length, by omega⟩
    have ej : (20 : Int) - (l.length : Int) = (j : Int) + 1 := by omega
    rw [ej]
    obtain ⟨u, hc⟩ := A.cell j (by omega)
    have hfz := A.free j
    have HA := A.put (dc m) j hj
    have hv : (((dc m).toNat : Nat) : Int) = 48 + (m : Int) % 10 := by rw [dc_nat]; omega
    rw [hv] at HA
    have HA' : Hid (Arr w (wr.setCell ⟨w.heap.size, j, none⟩ (.int .u8 (48 + (m : Int) % 10))) w.heap.size (dc m :: l)) := HA
    have hj20 : (j : Int) < 20 := by omega
    have hj0 : (0 : Int) ≤ (j : Int) := by omega
    have ht1 : (m : Int).tmod 10 = (m : Int) % 10 := Int.tmod_eq_emod_of_nonneg (by omega)
    have ht2 : (m : Int).tdiv 10 = (m : Int) / 10 := Int.tdiv_eq_ediv_of_nonneg (by omega)
    clear A HA hv ej
    by_cases hend : m / 10 = 0
    · have hE : ((m : Int) / 10 == 0) = true := by simp; omega
      have HL : Hid (dc m :: l = D) := by show _ = _; rw [← hdg, digsF_end hend]
      obtain ⟨W1, hW1⟩ : ∃ W1, W1 = wr.setCell ⟨w.heap.size, j, none⟩ (.int .u8 (48 + (m : Int) % 10)) := ⟨_, rfl⟩
      have HW1 : Hid (W1 = wr.setCell ⟨w.heap.size, j, none⟩ (.int .u8 (48 + (m : Int) % 10))) := hW1
      have A1 := HA'.out
      rw [← hW1, HL.out] at A1
      have hjD : j + D.length = 20 := by rw [← HL.out, List.length_cons]; omega
      have HS45 : Hid (Small [45]) := by show _ ≤ _; simp
      have hj19 : j ≤ 19 := by omega
      clear hW1 HA' HL hdg hmf hj hf hf1 hmb
      go_wp2_with (at_make; refine wpList_make0_b _ rfl _ _ rfl _ (21 + z - j) rfl rfl (by omega) (by omega) ?_; intro v1 w2 B1; rw [← HW1.out] at B1)
      clear HW1 HS45 hc hfz hE ht1 ht2 hend
      go_loopw [8, 9] (fun v i wr => ∃ k : Nat, k ≤ z ∧ i = .int .i64 (k : Int) ∧ BI W1 wr v ([] ++ List.replicate k 48)) (fun _ i _ => z - (intOf i).toNat)
      case atStart => exact ⟨0, Nat.zero_le _, rfl, B1⟩
      case round =>
        clear B1
        obtain ⟨k, hk, rfl, B⟩ := hrel
        by_cases hlt : k < z
        · obtain ⟨d, hd⟩ : ∃ d : List UInt8, d = [] ++ List.replicate k 48 := ⟨_, rfl⟩
          obtain ⟨d2, hd2⟩ : ∃ d2 : List UInt8, d2 = [] ++ List.replicate (k + 1) 48 := ⟨_, rfl⟩
          have H1 : Hid (d2 = d ++ [48]) := by show _ = _; rw [hd, hd2, List.replicate_succ']; simp
          have HS : Small d2 := by unfold Small; rw [hd2]; simp; omega
          have H2 : Hid (d2 = [] ++ List.replicate (k + 1) 48) := hd2
          rw [← hd] at B
          clear hd hd2
          go_wp2_with (at_builtin; refine wpList_append_b rfl (.tmp 43) (.tmp 44) rfl _ _ _ rfl (B.alloc _).own [48] (src1 48 rfl rfl) d2 H1.out HS (B.alloc _).size ?_; intro v3 w4 ho4 hg4 _; have B3 := (B.alloc _).appended ho4 hg4; clear ho4 hg4)
          go_roundw
          case rel => exact ⟨k + 1, by omega, by go_num, H2.out ▸ B3⟩
          case measure => first | (simp [intOf]; done) | (simp [intOf]; omega)
        · obtain rfl : k = z := by omega
          obtain ⟨d, hd⟩ : ∃ d : List UInt8, d = [] ++ List.replicate k 48 := ⟨_, rfl⟩
          obtain ⟨d2, hd2⟩ : ∃ d2 : List UInt8, d2 = d ++ D := ⟨_, rfl⟩
          have H1 : Hid (d2 = d ++ D) := hd2
          have HS : Small d2 := by unfold Small; rw [hd2, hd]; simp; omega
          have HT : Hid (d2 = text false k m0) := by show _ = _; rw [hd2, hd, text, HD.out]; rfl
          rw [← hd] at B
          clear hd hd2
          have hsl := fun w' : World => run_arr w' w.heap.size j hj19
          go_wp2_with (at_builtin; refine wpList_append_b rfl (.tmp 46) (.tmp 48) rfl _ _ _ rfl B.own D (A1.src B.bel j hjD _ _ _ rfl (by omega)) d2 H1.out HS B.size ?_; intro v3 w4 ho4 hg4 _; have B4 := B.appended ho4 hg4; clear ho4 hg4)
          go_ret
          have hs := A1.bel.size
          exact ⟨_, rfl, HT.out ▸ (B4.own.mono hs), A1.bel.trans (bLower B4.bel hs)⟩
    · have hE : ((m : Int) / 10 == 0) = false := by simp; omega
      have HL : Hid (digsF q (m / 10) (dc m :: l) = D) := by show _ = _; rw [← hdg, digsF_more hend]
      have hq : m / 10 < 10 ^ q := by rw [Nat.pow_succ] at hmf; omega
      have hq1 : 1 ≤ q := by
        cases q with
        | zero => simp at hq; omega
        | succ q => omega
      have HQ : Hid (m / 10 < 10 ^ q) := hq
      clear hdg hmf hq
      go_wp2
      go_roundw
      case rel => exact ⟨dc m :: l, m / 10, q, by simp only [List.length_cons]; omega, by simp only [List.length_cons]; go_num, by go_num, HA'.out, HQ.out, by omega, hq1, HL.out⟩
      case measure => first | (simp [intOf]; done) | (simp [intOf]; omega)

set_option maxRecDepth 20000 in
set_option maxHeartbeats 2000000 in
theorem dec_neg (m0 z : Nat) (w : World) (hm : m0 < 1000000000000000000) (hz : z ≤ 20) (hp : 1 ≤ m0) :
    Calls Try.prog 12 #[.int .i64 (- (m0 : Int)), .int .i64 (z : Int)] w fun e w' => ∃ v, e = .returned v ∧ OwnB w' w.heap.size v (text true z m0) ∧ Below w.heap.size w w' := by
  obtain ⟨D, hD⟩ : ∃ D, D = digs m0 := ⟨_, rfl⟩
  have HD : Hid (digs m0 = D) := hD.symm
  clear hD
  go_enter Try.func12, Try.ntmps12
  go_wp2
  go_loopw [6, 7] (fun i y wr => ∃ (l : List UInt8) (m f : Nat), f + l.length = 18 ∧ i = .int .i64 (20 - (l.length : Int)) ∧ y = .int .i64 (m : Int) ∧ Arr w wr w.heap.size l ∧ m < 10 ^ f ∧ m < 1000000000000000000 ∧ 1 ≤ f ∧ digsF f m l = D) (fun i _ _ => (intOf i).toNat)
  case atStart => exact ⟨[], m0, 18, rfl, rfl, by go_num, arr0 w, by simpa using hm, hm, by omega, HD.out⟩
  case round =>
    obtain ⟨l, m, f, hf, rfl, rfl, A, hmf, hmb, hf1, hdg⟩ := hrel
    obtain ⟨q, rfl⟩ : ∃ q, f = q + 1 := ⟨f - 1, by omega⟩
    obtain ⟨j, hj⟩ : ∃ j : Nat, j + 1 + l.length = 20 := ⟨19 - l.length, by omega⟩
    have ej : (20 : Int) - (l.length : Int) = (j : Int) + 1 := by omega
    rw [ej]
    obtain ⟨u, hc⟩ := A.cell j (by omega)
    have hfz := A.free j
    have HA := A.put (dc m) j hj
    have hv : (((dc m).toNat : Nat) : Int) = 48 + (m : Int) % 10 := by rw [dc_nat]; omega
    rw [hv] at HA
    have HA' : Hid (Arr w (wr.setCell ⟨w.heap.size, j, none⟩ (.int .u8 (48 + (m : Int) % 10))) w.heap.size (dc m :: l)) := HA
    have hj20 : (j : Int) < 20 := by omega
    have hj0 : (0 : Int) ≤ (j : Int) := by omega
    have ht1 : (m : Int).tmod 10 = (m : Int) % 10 := Int.tmod_eq_emod_of_nonneg (by omega)
    have ht2 : (m : Int).tdiv 10 = (m : Int) / 10 := Int.tdiv_eq_ediv_of_nonneg (by omega)
    clear A HA hv ej
    by_cases hend : m / 10 = 0
    · have hE : ((m : Int) / 10 == 0) = true := by simp; omega
      have HL : Hid (dc m :: l = D) := by show _ = _; rw [← hdg, digsF_end hend]
      obtain ⟨W1, hW1⟩ : ∃ W1, W1 = wr.setCell ⟨w.heap.size, j, none⟩ (.int .u8 (48 + (m : Int) % 10)) := ⟨_, rfl⟩
      have HW1 : Hid (W1 = wr.setCell ⟨w.heap.size, j, none⟩ (.int .u8 (48 + (m : Int) % 10))) := hW1
      have A1 := HA'.out
      rw [← hW1, HL.out] at A1
      have hjD : j + D.length = 20 := by rw [← HL.out, List.length_cons]; omega
      have HS45 : Hid (Small [45]) := by show _ ≤ _; simp
      have hj19 : j ≤ 19 := by omega
      clear hW1 HA' HL hdg hmf hj hf hf1 hmb
      go_wp2_with (first
        | (at_make; refine wpList_make0_b _ rfl _ _ rfl _ (21 + z - j) rfl rfl (by omega) (by omega) ?_; intro v1 w2 B1; rw [← HW1.out] at B1)
        | (at_builtin; refine wpList_append_b rfl (.tmp 35) (.tmp 36) rfl _ _ _ rfl (B1.alloc _).own [45] (src1 45 rfl rfl) [45] rfl HS45.out (B1.alloc _).size ?_; intro v2 w3 ho3 hg3 _; have B2 := (B1.alloc _).appended ho3 hg3; clear ho3 hg3))
      clear HW1 HS45 hc hfz hE ht1 ht2 hend
      go_loopw [8, 9] (fun v i wr => ∃ k : Nat, k ≤ z ∧ i = .int .i64 (k : Int) ∧ BI W1 wr v ([45] ++ List.replicate k 48)) (fun _ i _ => z - (intOf i).toNat)
      case atStart => exact ⟨0, Nat.zero_le _, rfl, B2⟩
      case round =>
        clear B1 B2
        obtain ⟨k, hk, rfl, B⟩ := hrel
        by_cases hlt : k < z
        · obtain ⟨d, hd⟩ : ∃ d : List UInt8, d = [45] ++ List.replicate k 48 := ⟨_, rfl⟩
          obtain ⟨d2, hd2⟩ : ∃ d2 : List UInt8, d2 = [45] ++ List.replicate (k + 1) 48 := ⟨_, rfl⟩
          have H1 : Hid (d2 = d ++ [48]) := by show _ = _; rw [hd, hd2, List.replicate_succ']; simp
          have HS : Small d2 := by unfold Small; rw [hd2]; simp; omega
          have H2 : Hid (d2 = [45] ++ List.replicate (k + 1) 48) := hd2
          rw [← hd] at B
          clear hd hd2
          go_wp2_with (at_builtin; refine wpList_append_b rfl (.tmp 43) (.tmp 44) rfl _ _ _ rfl (B.alloc _).own [48] (src1 48 rfl rfl) d2 H1.out HS (B.alloc _).size ?_; intro v3 w4 ho4 hg4 _; have B3 := (B.alloc _).appended ho4 hg4; clear ho4 hg4)
          go_roundw
          case rel => exact ⟨k + 1, by omega, by go_num, H2.out ▸ B3⟩
          case measure => first | (simp [intOf]; done) | (simp [intOf]; omega)
        · obtain rfl : k = z := by omega
          obtain ⟨d, hd⟩ : ∃ d : List UInt8, d = [45] ++ List.replicate k 48 := ⟨_, rfl⟩
          obtain ⟨d2, hd2⟩ : ∃ d2 : List UInt8, d2 = d ++ D := ⟨_, rfl⟩
          have H1 : Hid (d2 = d ++ D) := hd2
          have HS : Small d2 := by unfold Small; rw [hd2, hd]; simp; omega
          have HT : Hid (d2 = text true k m0) := by show _ = _; rw [hd2, hd, text, HD.out]; rfl
          rw [← hd] at B
          clear hd hd2
          have hsl := fun w' : World => run_arr w' w.heap.size j hj19
          go_wp2_with (at_builtin; refine wpList_append_b rfl (.tmp 46) (.tmp 48) rfl _ _ _ rfl B.own D (A1.src B.bel j hjD _ _ _ rfl (by omega)) d2 H1.out HS B.size ?_; intro v3 w4 ho4 hg4 _; have B4 := B.appended ho4 hg4; clear ho4 hg4)
          go_ret
          have hs := A1.bel.size
          exact ⟨_, rfl, HT.out ▸ (B4.own.mono hs), A1.bel.trans (bLower B4.bel hs)⟩
    · have hE : ((m : Int) / 10 == 0) = false := by simp; omega
      have HL : Hid (digsF q (m / 10) (dc m :: l) = D) := by show _ = _; rw [← hdg, digsF_more hend]
      have hq : m / 10 < 10 ^ q := by rw [Nat.pow_succ] at hmf; omega
      have hq1 : 1 ≤ q := by
        cases q with
        | zero => simp at hq; omega
        | succ q => omega
      have HQ : Hid (m / 10 < 10 ^ q) := hq
      clear hdg hmf hq
      go_wp2
      go_roundw
      case rel => exact ⟨dc m :: l, m / 10, q, by simp only [List.length_cons]; omega, by simp only [List.length_cons]; go_num, by go_num, HA'.out, HQ.out, by omega, hq1, HL.out⟩
      case measure => first | (simp [intOf]; done) | (simp [intOf]; omega)

end Go.Proofs.Qxb6601699a
