import Derived.Test.Qxb6601523aParity
import Derived.Test.Qxb6601523aLower
import Derived.Deep.RegionHeld3
import Derived.Deep.CutRange
namespace Go.Proofs.Qxb6601523a
open Go.RowKit

theorem isU_len {ds : List UInt8} : ∀ (us : List (UInt8 × Nat)) (p : Nat), IsU ds p us → us.length ≤ ds.length - p
  | [], _, _ => Nat.zero_le _
  | (c, q) :: us, p, h => by
    obtain ⟨hlt, _, hN, hu⟩ := h
    have h1 := isU_len us q hu
    have h2 : p < q := by rw [← hN]; exact nextP_gt hlt
    simp only [List.length_cons]
    omega

theorem unitPos_at {p k : Nat} {us : List (UInt8 × Nat)} {ev : Value} {base : Nat} {w : World} {es : List Nat} (hev : OwnI w base ev es) (he : es = us.map (·.2)) (hk : k ≤ us.length) (hl : us.length ≤ 4294967296) (z : Int) (hz : z = (k : Int)) :
    Calls Try.prog 27 #[.int .i64 (p : Int), ev, .int .i64 z] w fun e w' => e = .returned (.int .i64 (posU p us k : Int)) ∧ w = w' := by
  subst he hz
  exact (unitPos_any p k us ev base w hev hk hl).mono fun _ _ ⟨a, b⟩ => ⟨a, b.symm⟩

theorem key_at {z : Int} {b : Bool} (h : keyZ z = b) (w : World) : Calls Try.prog 17 #[.int .u8 z] w fun e w' => e = .returned (.bool b) ∧ w = w' := by
  subst h
  exact (keyByte_any z w).mono fun _ _ ⟨a, b⟩ => ⟨a, b.symm⟩

theorem low_at (c : UInt8) (w : World) : Calls Try.prog 23 #[.int .u8 (c.toNat : Int)] w fun e w' => e = .returned (.int .u8 ((lowB c).toNat : Int)) ∧ w = w' := by
  rw [lowB_z]
  exact (lowerByte_any _ w ⟨by omega, by have := c.toNat_lt; omega⟩).mono fun _ _ ⟨a, b⟩ => ⟨a, b.symm⟩

theorem LX.later {W0 wr w' : World} {cv ev : Value} {cs : List UInt8} {es : List Nat} (h : LX W0 wr cv cs ev es) (hb : Below wr.heap.size wr w') : LX W0 w' cv cs ev es :=
  ⟨h.c.below hb, h.e.below hb, h.bel.trans (hb.mono h.size)⟩
theorem LX.drew {W0 wr : World} {cv ev : Value} {cs : List UInt8} {es : List Nat} (h : LX W0 wr cv cs ev es) : LX W0 wr.drew cv cs ev es := ⟨h.c.drew, h.e.drew, h.bel.drew⟩

theorem LX.res {w W0 wr : World} {cv ev : Value} {cs : List UInt8} {es : List Nat} {o : Obj} (h : LX W0 wr cv cs ev es) (hW : W0 = w.alloc o) : wr.heap[w.heap.size]? = some o := by
  rw [h.bel.block w.heap.size (by rw [hW]; simp), hW]
  show (w.heap.push o)[w.heap.size]? = _
  simp

theorem LX.old {w W0 wr : World} {cv ev : Value} {cs : List UInt8} {es : List Nat} {o : Obj} (h : LX W0 wr cv cs ev es) (hW : W0 = w.alloc o) : Below w.heap.size w wr := by
  have h1 : Below w.heap.size w W0 := by rw [hW]; exact (Below.refl _ w).alloc (Nat.le_refl _) o
  exact h1.trans (h.bel.mono h1.size)

theorem below_set3 {B : Nat} {w wr : World} (h : Below B w wr) (g : Nat) (hg : B ≤ g) (a b c : Value) : Below B w (((wr.setCell ⟨g, 0, none⟩ a).setCell ⟨g, 1, none⟩ b).setCell ⟨g, 2, none⟩ c) :=
  ((h.setCell (p := ⟨g, 0, none⟩) hg a).setCell (p := ⟨g, 1, none⟩) hg b).setCell (p := ⟨g, 2, none⟩) hg c

theorem keyDot_split (c : UInt8) : keyZ (c.toNat : Int) = true ∨ (keyZ (c.toNat : Int) = false ∧ c = 46) ∨ (keyZ (c.toNat : Int) = false ∧ c ≠ 46 ∧ keyDot c = false) := by
  cases hk : keyZ (c.toNat : Int) with
  | true => exact .inl rfl
  | false =>
    by_cases h : c = 46
    · exact .inr (.inl ⟨rfl, h⟩)
    · exact .inr (.inr ⟨rfl, h, by unfold keyDot; rw [hk, decide_eq_false h]; rfl⟩)
theorem keyDot_of {c : UInt8} (h : keyZ (c.toNat : Int) = true) : keyDot c = true := by unfold keyDot; rw [h]; rfl
theorem isBl_tt {c : UInt8} (h : isBl c = true) : c = 32 ∨ c = 9 := by simpa [isBl] using h
theorem isBl_ff {c : UInt8} (h : isBl c = false) : c ≠ 32 ∧ c ≠ 9 := by simpa [isBl] using h

theorem low_set (cs : List UInt8) (k m : Nat) (c : UInt8) (hc : cs[m]? = some c) (hm : m < k) (hk : k ≤ cs.length) :
    (((cs.take m).map lowB) ++ List.replicate (k - m) 0).set m (lowB c) = ((cs.take (m + 1)).map lowB) ++ List.replicate (k - (m + 1)) 0 := by
  have hlt : m < cs.length := by omega
  have hl : ((cs.take m).map lowB).length = m := by rw [List.length_map, List.length_take]; omega
  rw [List.set_append_right m _ (by omega), hl, Nat.sub_self, List.take_succ_eq_append_getElem hlt, List.map_append, List.append_assoc]
  congr 1
  rw [show k - m = (k - (m + 1)) + 1 from by omega, List.replicate_succ, show cs[m] = c from (List.getElem?_eq_some_iff.1 hc).2]
  rfl

/-- 'make([]int, n)'. -/
theorem wpList_make_i (w : World) {ops : Array Oper} {rest : List Oper} {o : Oper} {a : Act} {K : Exit → Act → World → Prop}
    (hg : o.guard = none) (l : Operand) (hop : o.op = Op.makeSlice 46 l l) (base : Nat) (L : Int) (n : Nat) (hl : a.eval l = .int .i64 L) (hL : L = (n : Int)) (hn : n ≤ 4294967297) (hb : base ≤ w.heap.size)
    (hK : ∀ w', OwnI w' base (.slice (some ⟨w.heap.size, 0, none⟩) n n) (List.replicate n 0) → w.grownBy w' none → wpList Try.prog ops K rest (a.put o.dst (.slice (some ⟨w.heap.size, 0, none⟩) n n)) w') :
    wpList Try.prog ops K (o :: rest) a w := by
  obtain ⟨i, hi, hz, hsize, hby⟩ := info_parts info3
  refine wpList_make_full w hg l l 46 hop base 3 i (.int .i64 0) 1 Try.underlying46 hi hz hsize .i64 .i64 L L n hl hl hL hL (by rw [hby]; omega) (by unfold maxLen; omega) hb ?_
  intro w' ho hgr
  refine hK w' ⟨?_⟩ hgr
  rw [show (Value.int .i64 0).cells = #[.int .i64 0] from rfl, Nat.mul_one, toList_madeCells_one] at ho
  simpa using ho

/-- The runs, as far as they are reckoned. -/
def RL (t : List UInt8) (w m : Nat) : List Nat := (List.range (w + 1)).map fun i => if i ≤ m then runF t i else 0
theorem RL_len (t : List UInt8) (w m : Nat) : (RL t w m).length = w + 1 := by simp [RL]
theorem RL_get (t : List UInt8) (w m i : Nat) (hi : i ≤ m) (hm : m ≤ w) : (RL t w m)[i]? = some (runF t i) := by
  unfold RL
  rw [List.getElem?_map, List.getElem?_range (by omega)]
  simp [hi]
theorem RL_zero (t : List UInt8) (w : Nat) : RL t w 0 = List.replicate (w + 1) 0 := by
  apply List.ext_getElem?
  intro i
  unfold RL
  by_cases h : i < w + 1
  · rw [List.getElem?_map, List.getElem?_range h, List.getElem?_replicate]
    simp only [Option.map_some, if_pos h]
    by_cases h0 : i = 0
    · subst h0; simp [runF]
    · rw [if_neg (by omega)]
  · rw [List.getElem?_eq_none (by simp; omega), List.getElem?_eq_none (by simp; omega)]
theorem RL_keep (t : List UInt8) (w m : Nat) (h : runF t (m + 1) = 0) : RL t w m = RL t w (m + 1) := by
  unfold RL
  apply List.map_congr_left
  intro i _
  by_cases h1 : i ≤ m
  · rw [if_pos h1, if_pos (by omega)]
  · by_cases h2 : i = m + 1
    · subst h2; rw [if_neg h1, if_pos (Nat.le_refl _), h]
    · rw [if_neg h1, if_neg (by omega)]
theorem RL_set (t : List UInt8) (w m : Nat) (hm : m < w) : (RL t w m).set (m + 1) (runF t (m + 1)) = RL t w (m + 1) := by
  apply List.ext_getElem?
  intro i
  rw [List.getElem?_set]
  by_cases h : m + 1 = i
  · subst h
    rw [if_pos rfl, if_pos (by rw [RL_len]; omega), RL_get t w (m + 1) (m + 1) (Nat.le_refl _) (by omega)]
  · rw [if_neg h]
    unfold RL
    by_cases hi : i < w + 1
    · rw [List.getElem?_map, List.getElem?_map, List.getElem?_range hi]
      simp only [Option.map_some]
      by_cases h1 : i ≤ m
      · rw [if_pos h1, if_pos (by omega)]
      · rw [if_neg h1, if_neg (by omega)]
    · rw [List.getElem?_eq_none (by simp; omega), List.getElem?_eq_none (by simp; omega)]

theorem subF_len (t : List UInt8) : ∀ j, (subF t j).length ≤ j
  | 0 => Nat.le_refl _
  | j + 1 => by
    have := subF_len t j
    unfold subF
    split
    · omega
    · rw [List.length_append]
      have : (t[j]?.toList).length ≤ 1 := by cases t[j]? <;> simp
      omega

/-- A store into another block leaves a row of bytes as it was. -/
theorem OwnB.setElse {w : World} {base : Nat} {v : Value} {xs : List UInt8} (h : OwnB w base v xs) {rb : Nat} (hne : v.ownBlock ≠ some rb) (j : Nat) (u : Value) : OwnB (w.setCell ⟨rb, j, none⟩ u) base v xs := by
  refine ⟨?_⟩
  rcases h.form with hn | ⟨g, cap, cur, fr, rfl, hb, hgg, rest⟩
  · exact .inl hn
  · refine .inr ⟨g, cap, cur, fr, rfl, hb, ?_, rest⟩
    have hr : rb ≠ g := fun e => hne (by simp [Value.ownBlock, e])
    simp [World.setCell, Array.getElem?_modify, hgg, hr]

/-- The conversion to a string behind the three stores into the result's block. -/
theorem run_str3 {w : World} {base : Nat} {v : Value} {xs : List UInt8} (h : OwnB w base v xs) {rb : Nat} (hne : v.ownBlock ≠ some rb) (a b c : Value) :
    (convert 22 9 v).run Try.prog (((w.setCell ⟨rb, 0, none⟩ a).setCell ⟨rb, 1, none⟩ b).setCell ⟨rb, 2, none⟩ c).drew = .ok (.string ⟨xs.toArray⟩) (((w.setCell ⟨rb, 0, none⟩ a).setCell ⟨rb, 1, none⟩ b).setCell ⟨rb, 2, none⟩ c).drew :=
  run_str _ _ _ _ (((h.setElse hne 0 a).setElse hne 1 b).setElse hne 2 c).drew

set_option maxRecDepth 40000 in
set_option maxHeartbeats 16000000 in
theorem model_any {w : World} {dv : Value} {ds : List UInt8} (h : OwnB w 0 dv ds) (hn : ds.length ≤ 4294967296) (p : Nat) (us : List (UInt8 × Nat)) (hu : IsU ds p us) (R : HR) (hR : hdrName us [] p = R) :
    Calls Try.prog 15 #[dv, .int .i64 (p : Int)] w fun e w' => e = .returned (.tuple #[.agg #[.string ⟨R.name.toArray⟩, .string ⟨R.sub.toArray⟩, .bool R.has], .bool R.ok, .int .i64 (R.pos : Int)]) ∧ Below w.heap.size w w' := by
  have hul : us.length ≤ 4294967296 := by have := isU_len us p hu; omega
  obtain ⟨W, hW⟩ : ∃ W, W = w.alloc (.cells #[.string ⟨#[]⟩, .string ⟨#[]⟩, .bool false] 29) := ⟨_, rfl⟩
  have HW : Hid (W = w.alloc (.cells #[.string ⟨#[]⟩, .string ⟨#[]⟩, .bool false] 29)) := hW
  have HLX : Hid (Calls Try.prog 26 #[dv, .int .i64 (p : Int)] W fun e w' => ∃ cv ev, e = .returned (.tuple #[cv, ev]) ∧ LX W w' cv (us.map (·.1)) ev (us.map (·.2))) := lex_any (by rw [hW]; exact h.alloc _) hn p us hu
  have HR0 : Hid (hdrName us [] p = R) := hR
  clear h hu hR
  obtain ⟨cs, hcs⟩ : ∃ cs, cs = us.map (·.1) := ⟨_, rfl⟩
  obtain ⟨es, hes⟩ : ∃ es, es = us.map (·.2) := ⟨_, rfl⟩
  rw [← hcs, ← hes] at HLX
  have HCS : Hid (cs = us.map (·.1)) := hcs
  have HES : Hid (es = us.map (·.2)) := hes
  have hlen : cs.length = us.length := by rw [hcs]; simp
  obtain ⟨L, hL⟩ : ∃ L, L = cs.length := ⟨_, rfl⟩
  have HL : Hid (L = cs.length) := hL
  have hLu : L ≤ us.length := by omega
  have hLu' : us.length ≤ L := by omega
  have hL32 : L ≤ 4294967296 := by omega
  clear hcs hes hlen
  go_enter Try.func15, Try.ntmps15
  go_wp2_with fail
  rw [← hW]
  clear hW
  refine HLX.out.mono ?_
  rintro e w1 ⟨cv, ev, rfl, X⟩
  clear HLX
  obtain ⟨ao, capc, hcv0, hcapc⟩ := X.c.slice
  rw [← hL] at hcv0
  subst hcv0
  clear hL hcapc
  go_wp2
  go_loop [9] (fun i => ∃ k : Nat, k ≤ L ∧ i = .int .i64 (k : Int) ∧ ∀ i, i < k → ∃ c, cs[i]? = some c ∧ keyDot c = true) (fun i => L - (intOf i).toNat)
  case atStart => exact ⟨0, Nat.zero_le _, rfl, fun i hi => absurd hi (Nat.not_lt_zero _)⟩
  case round =>
    obtain ⟨k, hk, rfl, hall⟩ := hrel
    have HA : Hid (∀ i, i < k → ∃ c, cs[i]? = some c ∧ keyDot c = true) := hall
    have HSP : Hid (R = hdrName (us.drop k) ((cs.take k).map lowB) (posU p us k)) := by
      show R = _
      rw [← HR0.out, HCS.out]
      exact span_name k (fun i hi => by rw [← HCS.out]; exact hall i hi)
    clear hall
    by_cases hlt : k < L
    · have HIN := List.getElem?_eq_getElem (show k < cs.length by have := HL.out; omega)
      obtain ⟨c, hcc⟩ : ∃ c, c = cs[k]'(by have := HL.out; omega) := ⟨_, rfl⟩
      rw [← hcc] at HIN
      clear hcc
      rcases X.c.shape with ⟨hnil, _⟩ | ⟨g, capg, hv, _⟩
      · simp at hnil; omega
      simp only [Value.slice.injEq] at hv
      obtain ⟨rfl, -, rfl⟩ := hv
      have hc := X.c.cellAt k c HIN
      have HC : Hid (cs[k]? = some c) := HIN
      have hki : (k : Int) < (L : Int) := by omega
      clear HIN
      rcases keyDot_split c with hz | ⟨hz, h46⟩ | ⟨hz, h46, hkd⟩
      · as_aux_lemma =>
          have HA2 : Hid (∀ i, i < k + 1 → ∃ c, cs[i]? = some c ∧ keyDot c = true) := by
            intro i hi
            by_cases e : i = k
            · subst e; exact ⟨_, HC.out, keyDot_of hz⟩
            · exact HA.out i (by omega)
          have HK : Hid (∀ w, Calls Try.prog 17 #[.int .u8 (c.toNat : Int)] w fun e w' => e = .returned (.bool true) ∧ w = w') := fun w => key_at hz w
          clear HSP HA hz 
          go_wp2_with (go_at_call 17; refine (HK.out _).mono ?_; rintro e w' ⟨rfl, rfl⟩)
          go_round
          case rel => exact ⟨k + 1, by omega, by go_num, HA2.out⟩
          case measure => simp [intOf]; omega
      · as_aux_lemma =>
          subst h46
          have HA2 : Hid (∀ i, i < k + 1 → ∃ c, cs[i]? = some c ∧ keyDot c = true) := by
            intro i hi
            by_cases e : i = k
            · subst e; exact ⟨_, HC.out, by decide⟩
            · exact HA.out i (by omega)
          have HK : Hid (∀ w, Calls Try.prog 17 #[.int .u8 46] w fun e w' => e = .returned (.bool false) ∧ w = w') := fun w => key_at hz w
          clear HSP HA hz 
          go_wp2_with (go_at_call 17; refine (HK.out _).mono ?_; rintro e w' ⟨rfl, rfl⟩)
          go_round
          case rel => exact ⟨k + 1, by omega, by go_num, HA2.out⟩
          case measure => simp [intOf]; omega
      · have HB0 : Hid (keyDot c = false) := hkd
        have t46 : ((c.toNat : Int) == 46) = false := u8_ne' h46 rfl
        have HK : Hid (∀ w, Calls Try.prog 17 #[.int .u8 (c.toNat : Int)] w fun e w' => e = .returned (.bool false) ∧ w = w') := fun w => key_at hz w
        obtain ⟨nm, hnm⟩ : ∃ nm, nm = (cs.take k).map lowB := ⟨_, rfl⟩
        have HNM : Hid (nm = (cs.take k).map lowB) := hnm
        obtain ⟨q, hq1, hq2⟩ : ∃ q, us[k]? = some (c, q) ∧ posU p us (k + 1) = q := fst_at (by rw [← HCS.out]; exact HC.out)
        have HSP2 : Hid (R = if c = 93 then ⟨true, nm, [], false, posU p us (k + 1)⟩ else if isBl c then hdrBl nm (us.drop k) (posU p us k) else .fail (posU p us k)) := by
          show R = _
          rw [HSP.out, ← hnm, drop_at hq1, hdrName, if_neg (by rw [hkd]; decide), hq2]
        clear hnm hq1 hq2 q HSP HA hz h46 hkd HR0
        have hne : ((k : Int) == (L : Int)) = false := by simp; omega
        go_wp2_with (first
          | (go_at_call 17; refine (HK.out _).mono ?_; rintro e w' ⟨rfl, rfl⟩)
          | (at_make; refine wpList_make_b _ rfl _ rfl w1.heap.size _ k rfl rfl (by omega) (Nat.le_refl _) ?_; intro w2 ho2 hg2; have hb2 : Below w1.heap.size w1 w2 := (Below.refl _ _).grown hg2 (Nat.le_refl _) (fun k hk => by cases hk); clear hg2))
        clear HK t46
        go_loopw [11] (fun i wr => ∃ m : Nat, m ≤ k ∧ i = .int .i64 (m : Int) ∧ OwnB wr w1.heap.size (.slice (some ⟨w1.heap.size, 0, none⟩) k k) (((cs.take m).map lowB) ++ List.replicate (k - m) 0) ∧ Below w1.heap.size w1 wr) (fun i _ => k - (intOf i).toNat)
        case atStart => exact ⟨0, Nat.zero_le _, rfl, by simpa using ho2, hb2⟩
        case round =>
          clear ho2 hb2
          obtain ⟨m, hm, rfl, ho, hbl⟩ := hrel
          by_cases hmk : m < k
          · as_aux_lemma =>
              have hmL : m < cs.length := by have := HL.out; omega
              have HIN := List.getElem?_eq_getElem hmL
              obtain ⟨d, hdd⟩ : ∃ d, d = cs[m] := ⟨_, rfl⟩
              rw [← hdd] at HIN
              have hcm := (X.later hbl).c.cellAt m d HIN
              have HO : Hid (OwnB (wr.setCell ⟨w1.heap.size, m, none⟩ (.int .u8 ((lowB d).toNat : Int))) w1.heap.size (.slice (some ⟨w1.heap.size, 0, none⟩) k k) (((cs.take (m + 1)).map lowB) ++ List.replicate (k - (m + 1)) 0)) := by
                have := ho.stored m (lowB d)
                rw [low_set cs k m d HIN hmk (by have := HL.out; omega)] at this
                exact this
              have hlen : (((cs.take m).map lowB) ++ List.replicate (k - m) 0).length = k := by
                rw [List.length_append, List.length_map, List.length_take, List.length_replicate]; omega
              obtain ⟨bk, hc'⟩ : ∃ bk : UInt8, wr.cell? ⟨w1.heap.size, m, none⟩ = some (.int .u8 (bk.toNat : Int)) := ⟨_, ho.cellAt m _ (List.getElem?_eq_getElem (by omega))⟩
              have hf := ho.freeAt m hmk
              have HT : Hid (∀ w, Calls Try.prog 23 #[.int .u8 (d.toNat : Int)] w fun e w' => e = .returned (.int .u8 ((lowB d).toNat : Int)) ∧ w = w') := fun w => low_at d w
              have hmi : (m : Int) < (k : Int) := by omega
              have hmi2 : (m : Int) < (L : Int) := by omega
              clear ho hlen HIN hdd hmL hc
              go_wp2_with (go_at_call 23; refine (HT.out _).mono ?_; rintro e w' ⟨rfl, rfl⟩)
              go_roundw
              case rel => exact ⟨m + 1, by omega, by go_num, HO.out, hbl.setCell (p := ⟨w1.heap.size, m, none⟩) (Nat.le_refl _) _⟩
              case measure => simp [intOf]; omega
          · obtain rfl : m = k := by omega
            rw [Nat.sub_self, List.replicate_zero, List.append_nil, ← HNM.out] at ho
            obtain ⟨w3, hw3⟩ : ∃ w3, w3 = wr := ⟨_, rfl⟩
            subst hw3
            have N := ho
            have X3 := X.later hbl
            have hc3 := X3.c.cellAt m c HC.out
            clear hm hmk hc ho X hbl
            as_aux_lemma =>
              by_cases h93 : c = 93
              · as_aux_lemma =>
                  have HR : Hid (R = ⟨true, nm, [], false, posU p us (m + 1)⟩) := by show R = _; rw [HSP2.out, if_pos h93]
                  subst h93
                  have hblk := (X3).res HW.out
                  have c0 : w3.cell? ⟨w.heap.size, 0, none⟩ = some (.string ⟨#[]⟩) := by simp [World.cell?, hblk]
                  have c1 : w3.cell? ⟨w.heap.size, 1, none⟩ = some (.string ⟨#[]⟩) := by simp [World.cell?, hblk]
                  have c2 : w3.cell? ⟨w.heap.size, 2, none⟩ = some (.bool false) := by simp [World.cell?, hblk]
                  have f0 : w3.frozen? ⟨w.heap.size, 0, none⟩ = false := by simp [World.frozen?, hblk]
                  have f1 : w3.frozen? ⟨w.heap.size, 1, none⟩ = false := by simp [World.frozen?, hblk]
                  have f2 : w3.frozen? ⟨w.heap.size, 2, none⟩ = false := by simp [World.frozen?, hblk]
                  clear hblk
                  have hcv := run_str _ _ _ _ N.drew
                  go_wp2
                  go_region_with (go_at_call 27; refine (unitPos_at (k := m + 1) (X3).drew.e HES.out (by omega) hul _ (by rw [IntWalk.i64_in _ ⟨by omega, by omega⟩]; omega)).mono ?_; rintro e w' ⟨rfl, rfl⟩)
                  all_goals go_wp2
                  all_goals
                    refine bodyPost_ret (v := .tuple #[.agg #[.string ⟨nm.toArray⟩, .string ⟨#[]⟩, .bool false], .bool true, .int .i64 (posU p us (m + 1) : Int)]) (by simp [results, Try.results15, go_sem, c0, c1, c2]) rfl ?_
                    rw [HR.out]
                    exact ⟨rfl, (below_set3 ((X3).old HW.out) _ (Nat.le_refl _) _ _ _).drew⟩
              have t93 : ((c.toNat : Int) == 93) = false := u8_ne' h93 rfl
              by_cases hb : isBl c = true
              · have HBL : Hid (R = hdrBl nm (us.drop m) (posU p us m)) := by show R = _; rw [HSP2.out, if_neg h93, if_pos hb]
                have HBC : Hid (isBl c = true) := hb
                have hcond : (((c.toNat : Int) != 32) = false) ∨ (((c.toNat : Int) != 32) = true ∧ ((c.toNat : Int) != 9) = false) := by
                  rcases isBl_tt hb with rfl | rfl
                  · exact .inl rfl
                  · exact .inr ⟨rfl, rfl⟩
                clear HSP2 h93 hb
                as_aux_lemma =>
                  go_upto_region 14 with (fail)
                  go_cut [96] from 22 (fun s wc => s = .bool false ∧ w3 = wc)
                  case first =>
                    rcases hcond with n32 | ⟨n32, n9⟩
                    all_goals
                      go_wp2
                      go_meet
                      case rel => exact ⟨rfl, rfl⟩
                  case rest =>
                    obtain ⟨rfl, rfl⟩ := hcut
                    go_wp2
                    go_loop [12] (fun i => ∃ b : Nat, m ≤ b ∧ b ≤ L ∧ i = .int .i64 (b : Int) ∧ ∀ i, m ≤ i → i < b → ∃ c, cs[i]? = some c ∧ isBl c = true) (fun i => L - (intOf i).toNat)
                    case atStart => exact ⟨m, Nat.le_refl _, by omega, rfl, fun i h1 h2 => absurd h2 (by omega)⟩
                    case round =>
                      obtain ⟨b, hmb, hbL, rfl, hall⟩ := hrel
                      have HA : Hid (∀ i, m ≤ i → i < b → ∃ c, cs[i]? = some c ∧ isBl c = true) := hall
                      have HSP : Hid (R = hdrBl nm (us.drop b) (posU p us b)) := by
                        show R = _
                        have h1 := span_bl (us := us) (p0 := p) nm m (b - m) (fun i hi => by rw [← HCS.out]; exact hall (m + i) (by omega) (by omega))
                        rw [show m + (b - m) = b from by omega] at h1
                        rw [HBL.out, h1]
                      clear hall hc3
                      by_cases hlt2 : b < L
                      · have hjL : b < cs.length := by have := HL.out; omega
                        have HIN := List.getElem?_eq_getElem hjL
                        obtain ⟨d, hdd⟩ : ∃ d, d = cs[b] := ⟨_, rfl⟩
                        rw [← hdd] at HIN
                        have hcj := X3.c.cellAt (b) d HIN
                        have HD : Hid (cs[b]? = some d) := HIN
                        have hji : (b : Int) < (L : Int) := by omega
                        clear HIN hdd hjL
                        by_cases hbl2 : isBl d = true
                        · as_aux_lemma =>
                            have HA2 : Hid (∀ i, m ≤ i → i < b + 1 → ∃ c, cs[i]? = some c ∧ isBl c = true) := by
                              intro i h1 h2
                              by_cases e : i = b
                              · subst e; exact ⟨_, HD.out, hbl2⟩
                              · exact HA.out i h1 (by omega)
                            clear HSP HA
                            rcases isBl_tt hbl2 with rfl | rfl
                            all_goals
                              clear hbl2
                              go_wp2
                              go_round
                              case rel => exact ⟨b + 1, by omega, by omega, by go_num, HA2.out⟩
                              case measure => simp [intOf]; omega
                        · have hbf : isBl d = false := by simpa using hbl2
                          obtain ⟨q, hq1, hq2⟩ : ∃ q, us[b]? = some (d, q) ∧ posU p us (b + 1) = q := fst_at (by rw [← HCS.out]; exact HD.out)
                          have HSP2 : Hid (R = if d = 34 then hdrSub nm (us.drop (b + 1)) [] (posU p us (b + 1)) else .fail (posU p us b)) := by
                            show R = _
                            rw [HSP.out, drop_at hq1, hdrBl, if_neg hbl2, hq2]
                          have t32 : ((d.toNat : Int) == 32) = false := u8_ne' (isBl_ff hbf).1 rfl
                          have t9 : ((d.toNat : Int) == 9) = false := u8_ne' (isBl_ff hbf).2 rfl
                          have hne2 : ((b : Int) == (L : Int)) = false := by simp; omega
                          clear hq1 hq2 q HSP HA hbl2 hbf
                          by_cases h34 : d = 34
                          · have HSUB : Hid (R = hdrSub nm (us.drop (b + 1)) [] (posU p us (b + 1))) := by show R = _; rw [HSP2.out, if_pos h34]
                            subst h34
                            clear HSP2 HD t32 t9
                            as_aux_lemma =>
                              obtain ⟨t, ht⟩ : ∃ t, t = cs.drop (b + 1) := ⟨_, rfl⟩
                              have HT : Hid (t = cs.drop (b + 1)) := ht
                              have HTA : Hid (∀ i, t[i]? = cs[b + 1 + i]?) := by intro i; rw [ht, List.getElem?_drop]
                              clear ht
                              go_upto_region 22 with (fail)
                              iterate 11 go_step
                              clear hcj hji
                              go_cut [14] from 22 (fun s wc => ∃ v : Nat, b + 1 + v ≤ L ∧ s = .int .i64 ((b : Int) + 1 + (v : Int)) ∧ w3 = wc ∧ (∀ i, i < v → t[i]? ≠ some 10) ∧ (b + 1 + v = us.length ∨ t[v]? = some 10))
                              case first =>
                                go_wp2
                                go_loop [14] (fun i => ∃ v : Nat, b + 1 + v ≤ L ∧ i = .int .i64 ((b + 1 + v : Nat) : Int) ∧ ∀ i, i < v → t[i]? ≠ some 10) (fun i => L - (intOf i).toNat)
                                case atStart => exact ⟨0, by omega, by go_num, fun i hi => absurd hi (Nat.not_lt_zero _)⟩
                                case round =>
                                  obtain ⟨v, hv, rfl, hall⟩ := hrel
                                  have HA : Hid (∀ i, i < v → t[i]? ≠ some 10) := hall
                                  have ev0 : ((b + 1 + v : Nat) : Int) = (b : Int) + 1 + (v : Int) := by omega
                                  rw [ev0]
                                  clear hall ev0
                                  have fin : (b + 1 + v < L ∧ t[v]? ≠ some 10) ∨ (b + 1 + v = L ∨ t[v]? = some 10) := by
                                    by_cases h1 : b + 1 + v = L
                                    · exact .inr (.inl h1)
                                    · by_cases h2 : t[v]? = some 10
                                      · exact .inr (.inr h2)
                                      · exact .inl ⟨by omega, h2⟩
                                  rcases fin with ⟨hvL, hv10⟩ | hend
                                  · as_aux_lemma =>
                                      have HA2 : Hid (∀ i, i < v + 1 → t[i]? ≠ some 10) := by
                                        intro i hi
                                        by_cases e : i = v
                                        · subst e; exact hv10
                                        · exact HA.out i (by omega)
                                      have hjL : b + 1 + v < cs.length := by have := HL.out; omega
                                      have HIN := List.getElem?_eq_getElem hjL
                                      obtain ⟨d, hdd⟩ : ∃ d, d = cs[b + 1 + v] := ⟨_, rfl⟩
                                      rw [← hdd] at HIN
                                      have hcj := X3.c.cellAt (b + 1 + v) d HIN
                                      have HD : Hid (cs[b + 1 + v]? = some d) := HIN
                                      have hji : (b : Int) + 1 + (v : Int) < (L : Int) := by omega
                                      clear HIN hdd hjL
                                      have d10 : d ≠ 10 := fun e => hv10 (by rw [HTA.out v, HD.out, e])
                                      have t10 : ((d.toNat : Int) == 10) = false := u8_ne' d10 rfl
                                      have n10 : ((d.toNat : Int) != 10) = true := by simp only [bne, t10, Bool.not_false]
                                      clear d10 hv10 HA
                                      go_wp2
                                      go_round
                                      case rel => exact ⟨v + 1, by omega, by go_num, HA2.out⟩
                                      case measure => simp [intOf]; omega
                                  · have HEND : Hid (b + 1 + v = us.length ∨ t[v]? = some 10) := by
                                      rcases hend with h | h
                                      · exact .inl (by omega)
                                      · exact .inr h
                                    have hcase : (decide ((b : Int) + 1 + (v : Int) < (L : Int)) = false) ∨ (((b : Int) + 1 + (v : Int) < (L : Int)) ∧ w3.cell? ⟨g, b + 1 + v, none⟩ = some (.int .u8 10)) := by
                                      by_cases h1 : b + 1 + v = L
                                      · exact .inl (by simp; omega)
                                      · have h2 : t[v]? = some 10 := by rcases hend with h | h; exact absurd h h1; exact h
                                        refine .inr ⟨by omega, ?_⟩
                                        exact X3.c.cellAt (b + 1 + v) 10 (by rw [← HTA.out v]; exact h2)
                                    clear hend
                                    rcases hcase with hnl | ⟨hji, hcj⟩
                                    all_goals
                                      go_wp2
                                      go_meet
                                      case rel => exact ⟨v, hv, rfl, rfl, HA.out, HEND.out⟩
                              case rest =>
                                obtain ⟨v, hv, rfl, rfl, hno10, hend⟩ := hcut
                                have HA : Hid (∀ i, i < v → t[i]? ≠ some 10) := hno10
                                have HEND : Hid (b + 1 + v = us.length ∨ t[v]? = some 10) := hend
                                clear hno10 hend
                                have hRL := RL_zero t v
                                go_wp2_with (at_make; refine wpList_make_i _ rfl _ rfl w3.heap.size _ (v + 1) rfl (by omega) (by omega) (Nat.le_refl _) ?_; intro w4 ho4 hg4; have hb4 : Below w3.heap.size w3 w4 := (Below.refl _ _).grown hg4 (Nat.le_refl _) (fun k hk => by cases hk); clear hg4)
                                rw [← hRL] at ho4
                                clear hRL
                                as_aux_lemma =>
                                  go_loopw [17] (fun i wx => ∃ j : Nat, j ≤ v ∧ i = .int .i64 ((j + 1 : Nat) : Int) ∧ OwnI wx w3.heap.size (.slice (some ⟨w3.heap.size, 0, none⟩) (v + 1) (v + 1)) (RL t v j) ∧ Below w3.heap.size w3 wx) (fun i _ => v + 1 - (intOf i).toNat)
                                  case atStart => exact ⟨0, Nat.zero_le _, by go_num, ho4, hb4⟩
                                  case round =>
                                    clear ho4 hb4
                                    obtain ⟨j, hj, rfl, ho, hbx⟩ := hrel
                                    have ej0 : ((j + 1 : Nat) : Int) = (j : Int) + 1 := by omega
                                    rw [ej0]
                                    clear ej0
                                    have X4 := X3.later hbx
                                    by_cases hjv : j < v
                                    · have hjL : b + 1 + j < cs.length := by have := HL.out; omega
                                      have HIN := List.getElem?_eq_getElem hjL
                                      obtain ⟨d, hdd⟩ : ∃ d, d = cs[b + 1 + j] := ⟨_, rfl⟩
                                      rw [← hdd] at HIN
                                      have hcj := X4.c.cellAt (b + 1 + j) d HIN
                                      have HD : Hid (cs[b + 1 + j]? = some d) := HIN
                                      have hji : (b : Int) + 1 + (j : Int) < (L : Int) := by omega
                                      clear HIN hdd hjL
                                      have HTD : Hid (t[j]? = some d) := by show t[j]? = some d; rw [HTA.out j]; exact HD.out
                                      have hjv2 : (j : Int) + 1 ≤ (v : Int) := by omega
                                      have hjv3 : (j : Int) < (v : Int) + 1 := by omega
                                      have hjv4 : (j : Int) + 1 < (v : Int) + 1 := by omega
                                      have hrl := runF_le t j
                                      by_cases d92 : d = 92
                                      · as_aux_lemma =>
                                          have hr1 : runF t (j + 1) = runF t j + 1 := by rw [runF, if_pos (by rw [HTD.out, d92])]
                                          have HO : Hid (OwnI (wr.setCell ⟨w3.heap.size, j + 1, none⟩ (.int .i64 ((runF t j : Int) + 1))) w3.heap.size (.slice (some ⟨w3.heap.size, 0, none⟩) (v + 1) (v + 1)) (RL t v (j + 1))) := by
                                            have h1 := ho.stored (j + 1) (runF t (j + 1))
                                            rw [RL_set t v j hjv, hr1, show ((runF t j + 1 : Nat) : Int) = (runF t j : Int) + 1 from by omega] at h1
                                            exact h1
                                          have hrj := ho.cellAt j (runF t j) (RL_get t v j j (Nat.le_refl _) hj)
                                          obtain ⟨old, hrj1⟩ : ∃ old : Nat, wr.cell? ⟨w3.heap.size, j + 1, none⟩ = some (.int .i64 (old : Int)) := ⟨_, ho.cellAt (j + 1) _ (List.getElem?_eq_getElem (by rw [RL_len]; omega))⟩
                                          have hfj := ho.freeAt (j + 1)
                                          obtain ⟨rj, hrr⟩ : ∃ rj, rj = runF t j := ⟨_, rfl⟩
                                          rw [← hrr] at hrj HO hrl
                                          subst d92
                                          clear ho hr1 hrr HTD HD
                                          go_wp2
                                          go_roundw
                                          case rel => exact ⟨j + 1, by omega, by go_num, HO.out, hbx.setCell (p := ⟨w3.heap.size, j + 1, none⟩) (Nat.le_refl _) _⟩
                                          case measure => simp [intOf]; omega
                                      · as_aux_lemma =>
                                          have hr1 : runF t (j + 1) = 0 := by rw [runF, if_neg (by rw [HTD.out]; intro e; exact d92 (Option.some.inj e))]
                                          have HO : Hid (OwnI wr w3.heap.size (.slice (some ⟨w3.heap.size, 0, none⟩) (v + 1) (v + 1)) (RL t v (j + 1))) := by
                                            have h1 := ho
                                            rw [RL_keep t v j hr1] at h1
                                            exact h1
                                          have t92 : ((d.toNat : Int) == 92) = false := u8_ne' d92 rfl
                                          clear ho hr1 HTD HD d92
                                          go_wp2
                                          go_roundw
                                          case rel => exact ⟨j + 1, by omega, by go_num, HO.out, hbx⟩
                                          case measure => simp [intOf]; omega
                                    · obtain rfl : j = v := by omega
                                      have hjv2 : ¬ ((j : Int) + 1 ≤ (j : Int)) := by omega
                                      clear hj hjv
                                      obtain ⟨w5, hw5⟩ : ∃ w5, w5 = wr := ⟨_, rfl⟩
                                      subst hw5
                                      have RO := ho
                                      have N5 := N.below hbx
                                      clear X3 ho hbx
                                      as_aux_lemma =>
                                        go_upto_region 32 with (fail)
                                        iterate 8 go_step
                                        clear hjv2
                                        go_cut [18, 19] from 22 (fun sq sj wc => w5 = wc ∧ ((sq = .int .i64 (-1) ∧ ∀ i, i < j → ¬ (t[i]? = some 34 ∧ runF t i % 2 = 0)) ∨ ∃ f : Nat, f < j ∧ sq = .int .i64 ((b : Int) + 1 + (f : Int)) ∧ t[f]? = some 34 ∧ runF t f % 2 = 0 ∧ ∀ i, i < f → ¬ (t[i]? = some 34 ∧ runF t i % 2 = 0)))
                                        case first =>
                                          go_wp2
                                          go_loop [18, 19] (fun q i => ∃ k : Nat, k ≤ j ∧ i = .int .i64 (k : Int) ∧ ((q = .int .i64 (-1) ∧ ∀ i, i < k → ¬ (t[i]? = some 34 ∧ runF t i % 2 = 0)) ∨ ∃ f : Nat, k = f + 1 ∧ q = .int .i64 ((b : Int) + 1 + (f : Int)) ∧ t[f]? = some 34 ∧ runF t f % 2 = 0 ∧ ∀ i, i < f → ¬ (t[i]? = some 34 ∧ runF t i % 2 = 0))) (fun _ i => j - (intOf i).toNat)
                                          case atStart => exact ⟨0, Nat.zero_le _, rfl, .inl ⟨rfl, fun i hi => absurd hi (Nat.not_lt_zero _)⟩⟩
                                          case round =>
                                            obtain ⟨k, hkj, rfl, hst⟩ := hrel
                                            rcases hst with ⟨rfl, hno⟩ | ⟨f, rfl, rfl, hf34, hfe, hfno⟩
                                            · have HNO : Hid (∀ i, i < k → ¬ (t[i]? = some 34 ∧ runF t i % 2 = 0)) := hno
                                              clear hno
                                              by_cases hkv : k < j
                                              · have hjL : b + 1 + k < cs.length := by have := HL.out; omega
                                                have HIN := List.getElem?_eq_getElem hjL
                                                obtain ⟨d, hdd⟩ : ∃ d, d = cs[b + 1 + k] := ⟨_, rfl⟩
                                                rw [← hdd] at HIN
                                                have hcj := X4.c.cellAt (b + 1 + k) d HIN
                                                have HD : Hid (cs[b + 1 + k]? = some d) := HIN
                                                have hji : (b : Int) + 1 + (k : Int) < (L : Int) := by omega
                                                clear HIN hdd hjL
                                                have HTD : Hid (t[k]? = some d) := by show t[k]? = some d; rw [HTA.out k]; exact HD.out
                                                have hkv2 : (k : Int) < (j : Int) := by omega
                                                have hkv3 : (k : Int) < (j : Int) + 1 := by omega
                                                have hrk := RO.cellAt k (runF t k) (RL_get t j j k (by omega) (Nat.le_refl _))
                                                have hrl := runF_le t k
                                                obtain ⟨rk, hrr⟩ : ∃ rk, rk = runF t k := ⟨_, rfl⟩
                                                have HRR : Hid (rk = runF t k) := hrr
                                                rw [← hrr] at hrk hrl
                                                clear hrr
                                                by_cases d34 : d = 34
                                                · subst d34
                                                  by_cases hev : rk % 2 = 0
                                                  · as_aux_lemma =>
                                                      have te : ((rk : Int) % 2 == 0) = true := by simp; omega
                                                      have HP : Hid (t[k]? = some 34 ∧ runF t k % 2 = 0) := ⟨HTD.out, by rw [← HRR.out]; exact hev⟩
                                                      clear hev HTD HRR HD
                                                      go_wp2
                                                      go_round
                                                      case rel => exact ⟨k + 1, by omega, by go_num, .inr ⟨k, rfl, by go_num, HP.out.1, HP.out.2, HNO.out⟩⟩
                                                      case measure => simp [intOf]; omega
                                                  · as_aux_lemma =>
                                                      have te : ((rk : Int) % 2 == 0) = false := by simp; omega
                                                      have HP : Hid (∀ i, i < k + 1 → ¬ (t[i]? = some 34 ∧ runF t i % 2 = 0)) := by
                                                        intro i hi
                                                        by_cases e : i = k
                                                        · subst e; intro h; exact hev (by rw [HRR.out]; exact h.2)
                                                        · exact HNO.out i (by omega)
                                                      clear hev HTD HRR HD HNO
                                                      go_wp2
                                                      go_round
                                                      case rel => exact ⟨k + 1, by omega, by go_num, .inl ⟨rfl, HP.out⟩⟩
                                                      case measure => simp [intOf]; omega
                                                · as_aux_lemma =>
                                                    have t34 : ((d.toNat : Int) == 34) = false := u8_ne' d34 rfl
                                                    have HP : Hid (∀ i, i < k + 1 → ¬ (t[i]? = some 34 ∧ runF t i % 2 = 0)) := by
                                                      intro i hi
                                                      by_cases e : i = k
                                                      · subst e; intro h; rw [HTD.out] at h; exact d34 (Option.some.inj h.1)
                                                      · exact HNO.out i (by omega)
                                                    clear HTD HRR HD HNO d34
                                                    go_wp2
                                                    go_round
                                                    case rel => exact ⟨k + 1, by omega, by go_num, .inl ⟨rfl, HP.out⟩⟩
                                                    case measure => simp [intOf]; omega
                                              · as_aux_lemma =>
                                                  obtain rfl : k = j := by omega
                                                  have hnd : decide ((k : Int) < (k : Int)) = false := by simp
                                                  clear hkv hkj
                                                  go_wp2
                                                  go_meet
                                                  case rel => exact ⟨rfl, .inl ⟨rfl, HNO.out⟩⟩
                                            · have HF : Hid (t[f]? = some 34 ∧ runF t f % 2 = 0 ∧ ∀ i, i < f → ¬ (t[i]? = some 34 ∧ runF t i % 2 = 0)) := ⟨hf34, hfe, hfno⟩
                                              have hcase : ((f : Int) + 1 < (j : Int)) ∨ (decide ((f : Int) + 1 < (j : Int)) = false) := by
                                                by_cases h : (f : Int) + 1 < (j : Int)
                                                · exact .inl h
                                                · exact .inr (decide_eq_false h)
                                              have ef0 : ((f + 1 : Nat) : Int) = (f : Int) + 1 := by omega
                                              rw [ef0]
                                              clear hf34 hfe hfno ef0
                                              rcases hcase with hc1 | hc1
                                              all_goals go_wp2
                                              all_goals
                                                go_meet
                                                case rel => exact ⟨rfl, .inr ⟨f, by omega, rfl, HF.out⟩⟩
                                        case rest =>
                                          obtain ⟨rfl, hst⟩ := hcut
                                          rcases hst with ⟨rfl, hno⟩ | ⟨f, hfj, rfl, hf34, hfe, hfno⟩
                                          · as_aux_lemma =>
                                              have HR : Hid (R = HR.fail (posU p us (b + 1 + j))) := by
                                                show R = _
                                                rw [HSUB.out]
                                                exact sub_none nm (b + 1) j t (by rw [← HCS.out]; exact HT.out) (by omega) HEND.out HA.out hno
                                              clear hno HA HEND HSUB
                                              have hblk := (X4).res HW.out
                                              have c0 : w5.cell? ⟨w.heap.size, 0, none⟩ = some (.string ⟨#[]⟩) := by simp [World.cell?, hblk]
                                              have c1 : w5.cell? ⟨w.heap.size, 1, none⟩ = some (.string ⟨#[]⟩) := by simp [World.cell?, hblk]
                                              have c2 : w5.cell? ⟨w.heap.size, 2, none⟩ = some (.bool false) := by simp [World.cell?, hblk]
                                              have f0 : w5.frozen? ⟨w.heap.size, 0, none⟩ = false := by simp [World.frozen?, hblk]
                                              have f1 : w5.frozen? ⟨w.heap.size, 1, none⟩ = false := by simp [World.frozen?, hblk]
                                              have f2 : w5.frozen? ⟨w.heap.size, 2, none⟩ = false := by simp [World.frozen?, hblk]
                                              clear hblk
                                              go_wp2_with (go_at_call 27; refine (unitPos_at (k := b + 1 + j) (X4).e HES.out (by omega) hul _ (by omega)).mono ?_; rintro e w' ⟨rfl, rfl⟩)
                                              refine bodyPost_ret (v := .tuple #[.agg #[.string ⟨#[]⟩, .string ⟨#[]⟩, .bool false], .bool false, .int .i64 (posU p us (b + 1 + j) : Int)]) (by simp [results, Try.results15, go_sem, c0, c1, c2]) rfl ?_
                                              rw [HR.out]
                                              exact ⟨rfl, below_set3 ((X4).old HW.out) _ (Nat.le_refl _) _ _ _⟩
                                          · have HSQ : Hid (R = if cs[b + 1 + f + 1]? = some 93 then ⟨true, nm, subF t f, true, posU p us (b + 1 + f + 2)⟩ else .fail (posU p us (b + 1 + f + 1))) := by
                                              show R = _
                                              rw [HSUB.out, HCS.out]
                                              exact sub_quote nm (b + 1) f t (by rw [← HCS.out]; exact HT.out) hf34 hfe (fun i hi => HA.out i (by omega)) hfno
                                            clear HSUB HA HEND hf34 hfe hfno
                                            go_wp2
                                            as_aux_lemma =>
                                              go_loopw [20, 21] (fun sv i wx => ∃ (x : Nat) (s0 : Value), s0 = sv ∧ x ≤ f ∧ i = .int .i64 (x : Int) ∧ OwnB wx w5.heap.size s0 (subF t x) ∧ Below w5.heap.size w5 wx) (fun _ i _ => f - (intOf i).toNat)
                                              case atStart => exact ⟨0, _, rfl, Nat.zero_le _, rfl, OwnB.nil _ _, Below.refl _ _⟩
                                              case round =>
                                                obtain ⟨x, sv, rfl, hxf, rfl, SO, hbx⟩ := hrel
                                                have X6 := X4.later hbx
                                                by_cases hxlt : x < f
                                                · have hjL : b + 1 + x < cs.length := by have := HL.out; omega
                                                  have HIN := List.getElem?_eq_getElem hjL
                                                  obtain ⟨d, hdd⟩ : ∃ d, d = cs[b + 1 + x] := ⟨_, rfl⟩
                                                  rw [← hdd] at HIN
                                                  have hcj := X6.c.cellAt (b + 1 + x) d HIN
                                                  have HD : Hid (cs[b + 1 + x]? = some d) := HIN
                                                  have hji : (b : Int) + 1 + (x : Int) < (L : Int) := by omega
                                                  clear HIN hdd hjL
                                                  have HTD : Hid (t[x]? = some d) := by show t[x]? = some d; rw [HTA.out x]; exact HD.out
                                                  have hxf2 : (x : Int) < (f : Int) := by omega
                                                  have hxf3 : (x : Int) < (j : Int) + 1 := by omega
                                                  have hrk := (RO.below hbx).cellAt x (runF t x) (RL_get t j j x (by omega) (Nat.le_refl _))
                                                  have hrl := runF_le t x
                                                  obtain ⟨rk, hrr⟩ : ∃ rk, rk = runF t x := ⟨_, rfl⟩
                                                  have HRR : Hid (rk = runF t x) := hrr
                                                  rw [← hrr] at hrk hrl
                                                  clear hrr
                                                  by_cases hdrop : d = 92 ∧ rk % 2 = 0
                                                  · as_aux_lemma =>
                                                      have te : ((rk : Int) % 2 == 0) = true := by simp; omega
                                                      have HS : Hid (subF t (x + 1) = subF t x) := by show _ = _; rw [subF, if_pos ⟨by rw [HTD.out, hdrop.1], by rw [← HRR.out]; exact hdrop.2⟩]
                                                      obtain ⟨rfl, -⟩ := hdrop
                                                      clear HTD HRR HD
                                                      go_wp2
                                                      go_roundw
                                                      case rel => exact ⟨x + 1, _, rfl, by omega, by go_num, HS.out ▸ SO, hbx⟩
                                                      case measure => simp [intOf]; omega
                                                  · have HS : Hid (subF t (x + 1) = subF t x ++ [d]) := by show _ = _; rw [subF, if_neg (by rw [HTD.out, ← HRR.out]; intro h; exact hdrop ⟨Option.some.inj h.1, h.2⟩), HTD.out]; rfl
                                                    obtain ⟨sl, hsl⟩ : ∃ sl, sl = subF t x := ⟨_, rfl⟩
                                                    have hsll := subF_len t x
                                                    rw [← hsl] at HS SO hsll
                                                    have HSM : Small (sl ++ [d]) := by unfold Small; simp only [List.length_append, List.length_cons, List.length_nil]; omega
                                                    clear hsl hsll
                                                    have hcases : (((d.toNat : Int) == 92) = false) ∨ (((d.toNat : Int) == 92) = true ∧ ((rk : Int) % 2 == 0) = false) := by
                                                      by_cases d92 : d = 92
                                                      · refine .inr ⟨by rw [d92]; rfl, ?_⟩
                                                        have : ¬ (rk % 2 = 0) := fun e => hdrop ⟨d92, e⟩
                                                        simp; omega
                                                      · exact .inl (u8_ne' d92 rfl)
                                                    clear HTD HRR HD hdrop
                                                    rcases hcases with t92 | ⟨t92, te⟩
                                                    · as_aux_lemma =>
                                                        go_wp2_with (at_builtin; refine wpList_append_b rfl _ _ rfl _ _ _ rfl (SO.alloc _) [d] (src1 d rfl rfl) (sl ++ [d]) rfl HSM (by have := hbx.size; simp; omega) ?_; intro v' x6 ho6 hg6 _; have hb6 : Below w5.heap.size w5 x6 := below_grown (hbx.alloc hbx.size _) (SO.alloc _) hg6 (by have := hbx.size; simp; omega); clear hg6)
                                                        go_roundw
                                                        case rel => exact ⟨x + 1, _, rfl, by omega, by go_num, HS.out ▸ ho6, hb6⟩
                                                        case measure => simp [intOf]; omega
                                                    · as_aux_lemma =>
                                                        go_wp2_with (at_builtin; refine wpList_append_b rfl _ _ rfl _ _ _ rfl (SO.alloc _) [d] (src1 d rfl rfl) (sl ++ [d]) rfl HSM (by have := hbx.size; simp; omega) ?_; intro v' x6 ho6 hg6 _; have hb6 : Below w5.heap.size w5 x6 := below_grown (hbx.alloc hbx.size _) (SO.alloc _) hg6 (by have := hbx.size; simp; omega); clear hg6)
                                                        go_roundw
                                                        case rel => exact ⟨x + 1, _, rfl, by omega, by go_num, HS.out ▸ ho6, hb6⟩
                                                        case measure => simp [intOf]; omega
                                                · obtain rfl : x = f := by omega
                                                  obtain ⟨w7, hw7⟩ : ∃ w7, w7 = wr := ⟨_, rfl⟩
                                                  subst hw7
                                                  have N7 := N5.below hbx
                                                  clear hxlt hxf RO X4
                                                  by_cases hqL : b + 1 + x + 1 < L
                                                  · have hjL : b + 1 + x + 1 < cs.length := by have := HL.out; omega
                                                    have HIN := List.getElem?_eq_getElem hjL
                                                    obtain ⟨d, hdd⟩ : ∃ d, d = cs[b + 1 + x + 1] := ⟨_, rfl⟩
                                                    rw [← hdd] at HIN
                                                    have hcj := X6.c.cellAt (b + 1 + x + 1) d HIN
                                                    have HD : Hid (cs[b + 1 + x + 1]? = some d) := HIN
                                                    have hji : (b : Int) + 1 + (x : Int) + 1 < (L : Int) := by omega
                                                    clear HIN hdd hjL
                                                    by_cases d93 : d = 93
                                                    · as_aux_lemma =>
                                                        have HR : Hid (R = ⟨true, nm, subF t x, true, posU p us (b + 1 + x + 2)⟩) := by show R = _; rw [HSQ.out, if_pos (by rw [HD.out, d93])]
                                                        subst d93
                                                        clear HSQ HD
                                                        have hblk := (X6).res HW.out
                                                        have c0 : w7.cell? ⟨w.heap.size, 0, none⟩ = some (.string ⟨#[]⟩) := by simp [World.cell?, hblk]
                                                        have c1 : w7.cell? ⟨w.heap.size, 1, none⟩ = some (.string ⟨#[]⟩) := by simp [World.cell?, hblk]
                                                        have c2 : w7.cell? ⟨w.heap.size, 2, none⟩ = some (.bool false) := by simp [World.cell?, hblk]
                                                        have f0 : w7.frozen? ⟨w.heap.size, 0, none⟩ = false := by simp [World.frozen?, hblk]
                                                        have f1 : w7.frozen? ⟨w.heap.size, 1, none⟩ = false := by simp [World.frozen?, hblk]
                                                        have f2 : w7.frozen? ⟨w.heap.size, 2, none⟩ = false := by simp [World.frozen?, hblk]
                                                        have q1 := N7.ne hblk (by decide)
                                                        have q2 := SO.ne hblk (by decide)
                                                        have HKP : Hid (∀ a b c, (fun w' => (convert 22 9 (.slice (some ⟨w1.heap.size, 0, none⟩) m m)).run Try.prog w' = .ok (.string ⟨nm.toArray⟩) w' ∧ (convert 22 9 sv).run Try.prog w' = .ok (.string ⟨(subF t x).toArray⟩) w') (((w7.setCell ⟨w.heap.size, 0, none⟩ a).setCell ⟨w.heap.size, 1, none⟩ b).setCell ⟨w.heap.size, 2, none⟩ c).drew) := fun a b c => ⟨run_str3 N7 q1 a b c, run_str3 SO q2 a b c⟩
                                                        clear hblk q1 q2
                                                        have hcv := run_str _ _ _ _ N7.drew
                                                        have hcs := run_str _ _ _ _ SO.drew
                                                        go_wp2
                                                        go_region_held3 (fun w' => (convert 22 9 (.slice (some ⟨w1.heap.size, 0, none⟩) m m)).run Try.prog w' = .ok (.string ⟨nm.toArray⟩) w' ∧ (convert 22 9 sv).run Try.prog w' = .ok (.string ⟨(subF t x).toArray⟩) w') (first | exact ⟨hcv, hcs⟩ | exact HKP.out _ _ _)
                                                          ((go_at_call 27; refine (unitPos_at (k := b + 1 + x + 2) (X6).drew.e HES.out (by omega) hul _ (by rw [IntWalk.i64_in _ ⟨by omega, by omega⟩]; omega)).mono ?_; rintro e w' ⟨rfl, rfl⟩))
                                                        all_goals go_wp2
                                                        all_goals
                                                          refine bodyPost_ret (v := .tuple #[.agg #[.string ⟨nm.toArray⟩, .string ⟨(subF t x).toArray⟩, .bool true], .bool true, .int .i64 (posU p us (b + 1 + x + 2) : Int)]) (by simp [results, Try.results15, go_sem, c0, c1, c2]) rfl ?_
                                                          rw [HR.out]
                                                          exact ⟨rfl, (below_set3 ((X6).old HW.out) _ (Nat.le_refl _) _ _ _).drew⟩
                                                    · as_aux_lemma =>
                                                        have HR : Hid (R = HR.fail (posU p us (b + 1 + x + 1))) := by show R = _; rw [HSQ.out, if_neg (by rw [HD.out]; intro e; exact d93 (Option.some.inj e))]
                                                        have t93 : ((d.toNat : Int) == 93) = false := u8_ne' d93 rfl
                                                        clear HSQ HD d93
                                                        have hblk := (X6).res HW.out
                                                        have c0 : w7.cell? ⟨w.heap.size, 0, none⟩ = some (.string ⟨#[]⟩) := by simp [World.cell?, hblk]
                                                        have c1 : w7.cell? ⟨w.heap.size, 1, none⟩ = some (.string ⟨#[]⟩) := by simp [World.cell?, hblk]
                                                        have c2 : w7.cell? ⟨w.heap.size, 2, none⟩ = some (.bool false) := by simp [World.cell?, hblk]
                                                        have f0 : w7.frozen? ⟨w.heap.size, 0, none⟩ = false := by simp [World.frozen?, hblk]
                                                        have f1 : w7.frozen? ⟨w.heap.size, 1, none⟩ = false := by simp [World.frozen?, hblk]
                                                        have f2 : w7.frozen? ⟨w.heap.size, 2, none⟩ = false := by simp [World.frozen?, hblk]
                                                        clear hblk
                                                        go_wp2_with (go_at_call 27; refine (unitPos_at (k := b + 1 + x + 1) (X6).e HES.out (by omega) hul _ (by omega)).mono ?_; rintro e w' ⟨rfl, rfl⟩)
                                                        refine bodyPost_ret (v := .tuple #[.agg #[.string ⟨#[]⟩, .string ⟨#[]⟩, .bool false], .bool false, .int .i64 (posU p us (b + 1 + x + 1) : Int)]) (by simp [results, Try.results15, go_sem, c0, c1, c2]) rfl ?_
                                                        rw [HR.out]
                                                        exact ⟨rfl, below_set3 ((X6).old HW.out) _ (Nat.le_refl _) _ _ _⟩
                                                  · as_aux_lemma =>
                                                      have HR : Hid (R = HR.fail (posU p us (b + 1 + x + 1))) := by show R = _; rw [HSQ.out, if_neg (by rw [List.getElem?_eq_none (by have := HL.out; omega)]; simp)]
                                                      have hnl : decide ((b : Int) + 1 + (x : Int) + 1 < (L : Int)) = false := by simp; omega
                                                      clear HSQ
                                                      have hblk := (X6).res HW.out
                                                      have c0 : w7.cell? ⟨w.heap.size, 0, none⟩ = some (.string ⟨#[]⟩) := by simp [World.cell?, hblk]
                                                      have c1 : w7.cell? ⟨w.heap.size, 1, none⟩ = some (.string ⟨#[]⟩) := by simp [World.cell?, hblk]
                                                      have c2 : w7.cell? ⟨w.heap.size, 2, none⟩ = some (.bool false) := by simp [World.cell?, hblk]
                                                      have f0 : w7.frozen? ⟨w.heap.size, 0, none⟩ = false := by simp [World.frozen?, hblk]
                                                      have f1 : w7.frozen? ⟨w.heap.size, 1, none⟩ = false := by simp [World.frozen?, hblk]
                                                      have f2 : w7.frozen? ⟨w.heap.size, 2, none⟩ = false := by simp [World.frozen?, hblk]
                                                      clear hblk
                                                      go_wp2_with (go_at_call 27; refine (unitPos_at (k := b + 1 + x + 1) (X6).e HES.out (by omega) hul _ (by omega)).mono ?_; rintro e w' ⟨rfl, rfl⟩)
                                                      refine bodyPost_ret (v := .tuple #[.agg #[.string ⟨#[]⟩, .string ⟨#[]⟩, .bool false], .bool false, .int .i64 (posU p us (b + 1 + x + 1) : Int)]) (by simp [results, Try.results15, go_sem, c0, c1, c2]) rfl ?_
                                                      rw [HR.out]
                                                      exact ⟨rfl, below_set3 ((X6).old HW.out) _ (Nat.le_refl _) _ _ _⟩
                          · as_aux_lemma =>
                              have HR : Hid (R = HR.fail (posU p us b)) := by show R = _; rw [HSP2.out, if_neg h34]
                              have t34 : ((d.toNat : Int) == 34) = false := u8_ne' h34 rfl
                              have n34 : ((d.toNat : Int) != 34) = true := by simp only [bne, t34, Bool.not_false]
                              clear h34 HSP2
                              have hblk := (X3).res HW.out
                              have c0 : w3.cell? ⟨w.heap.size, 0, none⟩ = some (.string ⟨#[]⟩) := by simp [World.cell?, hblk]
                              have c1 : w3.cell? ⟨w.heap.size, 1, none⟩ = some (.string ⟨#[]⟩) := by simp [World.cell?, hblk]
                              have c2 : w3.cell? ⟨w.heap.size, 2, none⟩ = some (.bool false) := by simp [World.cell?, hblk]
                              have f0 : w3.frozen? ⟨w.heap.size, 0, none⟩ = false := by simp [World.frozen?, hblk]
                              have f1 : w3.frozen? ⟨w.heap.size, 1, none⟩ = false := by simp [World.frozen?, hblk]
                              have f2 : w3.frozen? ⟨w.heap.size, 2, none⟩ = false := by simp [World.frozen?, hblk]
                              clear hblk
                              go_wp2_with (go_at_call 27; refine (unitPos_at (k := b) (X3).e HES.out (by omega) hul _ (by omega)).mono ?_; rintro e w' ⟨rfl, rfl⟩)
                              refine bodyPost_ret (v := .tuple #[.agg #[.string ⟨#[]⟩, .string ⟨#[]⟩, .bool false], .bool false, .int .i64 (posU p us (b) : Int)]) (by simp [results, Try.results15, go_sem, c0, c1, c2]) rfl ?_
                              rw [HR.out]
                              exact ⟨rfl, below_set3 ((X3).old HW.out) _ (Nat.le_refl _) _ _ _⟩
                      · as_aux_lemma =>
                          have HR : Hid (R = HR.fail (posU p us b)) := by
                            show R = _
                            rw [HSP.out, List.drop_eq_nil_of_le (by omega)]
                            rfl
                          have heq : ((b : Int) == (L : Int)) = true := by simp; omega
                          have hnl : decide ((b : Int) < (L : Int)) = false := by simp; omega
                          clear HSP HA
                          have hblk := (X3).res HW.out
                          have c0 : w3.cell? ⟨w.heap.size, 0, none⟩ = some (.string ⟨#[]⟩) := by simp [World.cell?, hblk]
                          have c1 : w3.cell? ⟨w.heap.size, 1, none⟩ = some (.string ⟨#[]⟩) := by simp [World.cell?, hblk]
                          have c2 : w3.cell? ⟨w.heap.size, 2, none⟩ = some (.bool false) := by simp [World.cell?, hblk]
                          have f0 : w3.frozen? ⟨w.heap.size, 0, none⟩ = false := by simp [World.frozen?, hblk]
                          have f1 : w3.frozen? ⟨w.heap.size, 1, none⟩ = false := by simp [World.frozen?, hblk]
                          have f2 : w3.frozen? ⟨w.heap.size, 2, none⟩ = false := by simp [World.frozen?, hblk]
                          clear hblk
                          go_wp2_with (go_at_call 27; refine (unitPos_at (k := b) (X3).e HES.out (by omega) hul _ (by omega)).mono ?_; rintro e w' ⟨rfl, rfl⟩)
                          refine bodyPost_ret (v := .tuple #[.agg #[.string ⟨#[]⟩, .string ⟨#[]⟩, .bool false], .bool false, .int .i64 (posU p us (b) : Int)]) (by simp [results, Try.results15, go_sem, c0, c1, c2]) rfl ?_
                          rw [HR.out]
                          exact ⟨rfl, below_set3 ((X3).old HW.out) _ (Nat.le_refl _) _ _ _⟩
              · as_aux_lemma =>
                  have hb' : isBl c = false := by simpa using hb
                  have HR : Hid (R = HR.fail (posU p us m)) := by show R = _; rw [HSP2.out, if_neg h93, if_neg hb]
                  have t32 : ((c.toNat : Int) == 32) = false := u8_ne' (isBl_ff hb').1 rfl
                  have t9 : ((c.toNat : Int) == 9) = false := u8_ne' (isBl_ff hb').2 rfl
                  have n32 : ((c.toNat : Int) != 32) = true := by simp only [bne, t32, Bool.not_false]
                  have n9 : ((c.toNat : Int) != 9) = true := by simp only [bne, t9, Bool.not_false]
                  clear hb hb' h93
                  have hblk := (X3).res HW.out
                  have c0 : w3.cell? ⟨w.heap.size, 0, none⟩ = some (.string ⟨#[]⟩) := by simp [World.cell?, hblk]
                  have c1 : w3.cell? ⟨w.heap.size, 1, none⟩ = some (.string ⟨#[]⟩) := by simp [World.cell?, hblk]
                  have c2 : w3.cell? ⟨w.heap.size, 2, none⟩ = some (.bool false) := by simp [World.cell?, hblk]
                  have f0 : w3.frozen? ⟨w.heap.size, 0, none⟩ = false := by simp [World.frozen?, hblk]
                  have f1 : w3.frozen? ⟨w.heap.size, 1, none⟩ = false := by simp [World.frozen?, hblk]
                  have f2 : w3.frozen? ⟨w.heap.size, 2, none⟩ = false := by simp [World.frozen?, hblk]
                  clear hblk
                  go_wp2_with (go_at_call 27; refine (unitPos_at (k := m) (X3).e HES.out (by omega) hul _ (by omega)).mono ?_; rintro e w' ⟨rfl, rfl⟩)
                  refine bodyPost_ret (v := .tuple #[.agg #[.string ⟨#[]⟩, .string ⟨#[]⟩, .bool false], .bool false, .int .i64 (posU p us (m) : Int)]) (by simp [results, Try.results15, go_sem, c0, c1, c2]) rfl ?_
                  rw [HR.out]
                  exact ⟨rfl, below_set3 ((X3).old HW.out) _ (Nat.le_refl _) _ _ _⟩
    · as_aux_lemma =>
        have hkL : k = L := by omega
        have HR : Hid (R = HR.fail (posU p us k)) := by
          show R = _
          rw [HSP.out, List.drop_eq_nil_of_le (by omega)]
          rfl
        have heq : ((k : Int) == (L : Int)) = true := by simp; omega
        clear hkL HSP HA HR0
        have hblk := (X).res HW.out
        have c0 : w1.cell? ⟨w.heap.size, 0, none⟩ = some (.string ⟨#[]⟩) := by simp [World.cell?, hblk]
        have c1 : w1.cell? ⟨w.heap.size, 1, none⟩ = some (.string ⟨#[]⟩) := by simp [World.cell?, hblk]
        have c2 : w1.cell? ⟨w.heap.size, 2, none⟩ = some (.bool false) := by simp [World.cell?, hblk]
        have f0 : w1.frozen? ⟨w.heap.size, 0, none⟩ = false := by simp [World.frozen?, hblk]
        have f1 : w1.frozen? ⟨w.heap.size, 1, none⟩ = false := by simp [World.frozen?, hblk]
        have f2 : w1.frozen? ⟨w.heap.size, 2, none⟩ = false := by simp [World.frozen?, hblk]
        clear hblk
        go_wp2_with (go_at_call 27; refine (unitPos_at (k := k) (X).e HES.out (by omega) hul _ (by omega)).mono ?_; rintro e w' ⟨rfl, rfl⟩)
        refine bodyPost_ret (v := .tuple #[.agg #[.string ⟨#[]⟩, .string ⟨#[]⟩, .bool false], .bool false, .int .i64 (posU p us (k) : Int)]) (by simp [results, Try.results15, go_sem, c0, c1, c2]) rfl ?_
        rw [HR.out]
        exact ⟨rfl, below_set3 ((X).old HW.out) _ (Nat.le_refl _) _ _ _⟩

end Go.Proofs.Qxb6601523a
