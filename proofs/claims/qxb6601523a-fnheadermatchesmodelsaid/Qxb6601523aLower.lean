import Derived.Test.Qxb6601523aQuote
import Derived.Test.Qxb6601523aBuild
import Derived.Test.Qxb6601523aBytes
namespace Go.Proofs.Qxb6601523a
open Go.RowKit

theorem OwnB.stored {w : World} {base g n cap : Nat} {xs : List UInt8} (h : OwnB w base (.slice (some ⟨g, 0, none⟩) n cap) xs) (j : Nat) (b : UInt8) :
    OwnB (w.setCell ⟨g, j, none⟩ (.int .u8 (b.toNat : Int))) base (.slice (some ⟨g, 0, none⟩) n cap) (xs.set j b) := by
  rcases h.form with ⟨hv, _⟩ | ⟨g', cap', cur, fr, hv, hb, hgg, hfr, hl, hm, hs, ht⟩
  · simp at hv
  · simp at hv
    obtain ⟨rfl, rfl, rfl⟩ := hv
    refine ⟨.inr ⟨g, cap, cur.setIfInBounds j (.int .u8 (b.toNat : Int)), fr, by rw [List.length_set], hb, by simp [World.setCell, Array.getElem?_modify, hgg], by simpa using hfr, by rw [List.length_set]; exact hl, hm, by simpa using hs, ?_⟩⟩
    rw [Array.toList_setIfInBounds, List.length_set, List.take_set, ht]
    simp [bcells, List.map_set]

/-- 'make([]byte, n)'. -/
theorem wpList_make_b (w : World) {ops : Array Oper} {rest : List Oper} {o : Oper} {a : Act} {K : Exit → Act → World → Prop}
    (hg : o.guard = none) (l : Operand) (hop : o.op = Op.makeSlice 22 l l) (base : Nat) (L : Int) (n : Nat) (hl : a.eval l = .int .i64 L) (hL : L = (n : Int)) (hn : n ≤ 4294967296) (hb : base ≤ w.heap.size)
    (hK : ∀ w', OwnB w' base (.slice (some ⟨w.heap.size, 0, none⟩) n n) (List.replicate n 0) → w.grownBy w' none → wpList Try.prog ops K rest (a.put o.dst (.slice (some ⟨w.heap.size, 0, none⟩) n n)) w') :
    wpList Try.prog ops K (o :: rest) a w := by
  obtain ⟨i, hi, hz, hsize, hby⟩ := info_parts info5
  refine wpList_make_full w hg l l 22 hop base 5 i (.int .u8 0) 1 Try.underlying22 hi hz hsize .i64 .i64 L L n hl hl hL hL (by rw [hby]; omega) (by unfold maxLen; omega) hb ?_
  intro w' ho hgr
  refine hK w' (ownB_of_row ho rfl ?_) hgr
  rw [show (Value.int .u8 0).cells = #[.int .u8 0] from rfl, toList_madeCells_one]
  simp [bcells]

theorem lower_snoc (s : ByteArray) (k : Nat) (hk : k < s.size) :
    (((s.data.toList.take k).map lowB) ++ List.replicate (s.size - k) 0).set k (lowB s[k]) = ((s.data.toList.take (k + 1)).map lowB) ++ List.replicate (s.size - (k + 1)) 0 := by
  have hl : ((s.data.toList.take k).map lowB).length = k := by
    rw [List.length_map, List.length_take, Array.length_toList]
    have : s.data.size = s.size := rfl
    omega
  rw [List.set_append_right k _ (by omega), hl, Nat.sub_self, take_snoc s k hk, List.map_append, List.append_assoc]
  congr 1
  rw [show s.size - k = (s.size - (k + 1)) + 1 from by omega, List.replicate_succ]
  rfl

set_option maxHeartbeats 1000000 in
theorem lowerAll_any (s : ByteArray) (w : World) (hs : s.size ≤ 1048576) :
    Calls Try.prog 19 #[.string s] w fun e w' => e = .returned (.string ⟨(s.data.toList.map lowB).toArray⟩) ∧ Below w.heap.size w w' := by
  have hsl : s.data.toList.length = s.size := by rw [Array.length_toList]; rfl
  have HB : Hid (∀ (c : UInt8) (w : World), Calls Try.prog 23 #[.int .u8 (c.toNat : Int)] w fun e w' => e = .returned (.int .u8 ((lowB c).toNat : Int)) ∧ w' = w) := fun c w => by
    rw [lowB_z]
    exact lowerByte_any _ w ⟨by omega, by have := c.toNat_lt; omega⟩
  go_enter Try.func19, Try.ntmps19
  go_wp2_with (at_make; refine wpList_make_b w rfl _ rfl w.heap.size _ s.size rfl (by omega) (by omega) (Nat.le_refl _) ?_; intro w1 ho1 hg1)
  have hb1 : Below w.heap.size w w1 := (Below.refl _ _).grown hg1 (Nat.le_refl _) (fun k hk => by cases hk)
  go_loopw [4] (fun i wr => ∃ k : Nat, k ≤ s.size ∧ i = .int .i64 k ∧ OwnB wr w.heap.size (.slice (some ⟨w.heap.size, 0, none⟩) s.size s.size) (((s.data.toList.take k).map lowB) ++ List.replicate (s.size - k) 0) ∧ Below w.heap.size w wr) (fun i _ => s.size - (intOf i).toNat)
  case atStart => exact ⟨0, Nat.zero_le _, rfl, by simpa using ho1, hb1⟩
  case round =>
    clear ho1 hg1 hb1
    obtain ⟨k, hk, rfl, ho, hbl⟩ := hrel
    by_cases hlt : k < s.size
    · have HO : Hid (OwnB (wr.setCell ⟨w.heap.size, k, none⟩ (.int .u8 ((lowB s[k]).toNat : Int))) w.heap.size (.slice (some ⟨w.heap.size, 0, none⟩) s.size s.size) (((s.data.toList.take (k + 1)).map lowB) ++ List.replicate (s.size - (k + 1)) 0)) := by
        have := ho.stored k (lowB s[k])
        rw [lower_snoc s k hlt] at this
        exact this
      have hlen : (((s.data.toList.take k).map lowB) ++ List.replicate (s.size - k) 0).length = s.size := by
        rw [List.length_append, List.length_map, List.length_take, List.length_replicate]; omega
      obtain ⟨bk, hc⟩ : ∃ bk : UInt8, wr.cell? ⟨w.heap.size, k, none⟩ = some (.int .u8 (bk.toNat : Int)) := ⟨_, ho.cellAt k _ (List.getElem?_eq_getElem (by omega))⟩
      have hf := ho.freeAt k hlt
      have HBK := HB.out s[k]
      have HBK' : Hid (∀ (w : World), Calls Try.prog 23 #[.int .u8 (s[k].toNat : Int)] w fun e w' => e = .returned (.int .u8 ((lowB s[k]).toNat : Int)) ∧ w' = w) := HBK
      clear ho hlen HBK
      go_wp2_with (go_at_call 23; refine (HBK'.out _).mono ?_; rintro e w' ⟨rfl, rfl⟩)
      go_roundw
      case rel => exact ⟨k + 1, by omega, by go_num, HO.out, hbl.setCell (p := ⟨w.heap.size, k, none⟩) (Nat.le_refl _) _⟩
      case measure => simp [intOf]; omega
    · have e : s.data.toList.take k = s.data.toList := List.take_of_length_le (by omega)
      rw [e, show s.size - k = 0 from by omega, List.replicate_zero, List.append_nil] at ho
      have hcv := run_str _ _ _ _ ho
      go_wp2
      go_ret
      exact ⟨rfl, hbl⟩

/-- One byte of a subsection, as git writes it between quotes. -/
def qs (c : UInt8) : List UInt8 := if c = 34 ∨ c = 92 then [92, c] else [c]
def QS (s : List UInt8) : List UInt8 := s.flatMap qs
theorem qs_len (c : UInt8) : (qs c).length ≤ 2 := by unfold qs; split <;> simp
theorem QS_len (s : List UInt8) : (QS s).length ≤ 2 * s.length := by
  induction s with
  | nil => simp [QS]
  | cons c s ih => have := qs_len c; simp only [QS, List.flatMap_cons, List.length_append, List.length_cons] at ih ⊢; omega
theorem QS_snoc (s : List UInt8) (c : UInt8) : QS (s ++ [c]) = QS s ++ qs c := by simp [QS]
theorem small_pre {a b : List UInt8} (h : Small (a ++ b)) : Small a := by unfold Small at *; rw [List.length_append] at h; omega

set_option maxHeartbeats 2000000 in
theorem quoteSub_any (w0 : World) (v : Value) (xs : List UInt8) (s : ByteArray) (w : World) (hs : s.size ≤ 1048576) (hx : xs.length ≤ 1048576) (hB : BI w0 w v xs) :
    Calls Try.prog 18 #[v, .string s] w fun e w' => ∃ v', e = .returned v' ∧ BI w0 w' v' (xs ++ QS s.data.toList) := by
  go_enter Try.func18, Try.ntmps18
  go_wp2
  go_loopw [0, 5] (fun v i wr => ∃ k : Nat, k ≤ s.size ∧ i = .int .i64 k ∧ BI w0 wr v (xs ++ QS (s.data.toList.take k))) (fun _ i _ => s.size - (intOf i).toNat)
  case atStart => exact ⟨0, Nat.zero_le _, rfl, by simpa [QS] using hB⟩
  case round =>
    clear hB
    obtain ⟨k, hk, rfl, B⟩ := hrel
    by_cases hlt : k < s.size
    · have hts := take_snoc s k hlt
      have HL : Small (xs ++ QS (s.data.toList.take (k + 1))) := by
        have h1 := QS_len (s.data.toList.take (k + 1))
        have h2 : (s.data.toList.take (k + 1)).length ≤ k + 1 := List.length_take_le _ _
        unfold Small
        rw [List.length_append]; omega
      obtain ⟨d0, hd0⟩ : ∃ d0, d0 = xs ++ QS (s.data.toList.take k) := ⟨_, rfl⟩
      obtain ⟨d2, hd2⟩ : ∃ d2, d2 = xs ++ QS (s.data.toList.take (k + 1)) := ⟨_, rfl⟩
      rw [← hd0] at B
      rw [← hd2] at HL
      have HD : Hid (d2 = xs ++ QS (s.data.toList.take (k + 1))) := hd2
      by_cases hq : s[k] = 34 ∨ s[k] = 92
      · have h2 : d2 = d0 ++ [92] ++ [s[k]] := by rw [hd2, hts, QS_snoc, ← List.append_assoc, ← hd0, qs, if_pos hq]; simp
        obtain ⟨d1, hd1⟩ : ∃ d1, d1 = d0 ++ [92] := ⟨_, rfl⟩
        rw [← hd1] at h2
        have HL1 : Small d1 := small_pre (h2 ▸ HL)
        have H1 : Hid (d1 = d0 ++ [92]) := hd1
        have H2 : Hid (d2 = d1 ++ [s[k]]) := h2
        clear hd0 hd1 hd2 h2 hts
        rcases hq with hq | hq
        · have t34 : ((s[k].toNat : Int) == 34) = true := by rw [hq]; rfl
          clear hq
          go_wp2_with (first
            | (at_builtin; refine wpList_append_b rfl (.tmp 22) (.tmp 23) rfl _ _ _ rfl (B.alloc _).own [92] (src1 92 rfl rfl) d1 H1.out HL1 (B.alloc _).size ?_; intro v1 w1 ho1 hg1 _; have B1 := (B.alloc _).appended ho1 hg1; clear ho1 hg1)
            | (at_builtin; refine wpList_append_b rfl (.tmp 25) (.tmp 29) rfl _ _ _ rfl (B1.alloc _).own [s[k]] (src1 s[k] rfl rfl) d2 H2.out HL (B1.alloc _).size ?_; intro v2 w2 ho2 hg2 _; have B2 := (B1.alloc _).appended ho2 hg2; clear ho2 hg2))
          go_roundw
          case rel => exact ⟨k + 1, by omega, by go_num, HD.out ▸ B2⟩
          case measure => simp [intOf]; omega
        · have t34 : ((s[k].toNat : Int) == 34) = false := by rw [hq]; rfl
          have t92 : ((s[k].toNat : Int) == 92) = true := by rw [hq]; rfl
          clear hq
          go_wp2_with (first
            | (at_builtin; refine wpList_append_b rfl (.tmp 22) (.tmp 23) rfl _ _ _ rfl (B.alloc _).own [92] (src1 92 rfl rfl) d1 H1.out HL1 (B.alloc _).size ?_; intro v1 w1 ho1 hg1 _; have B1 := (B.alloc _).appended ho1 hg1; clear ho1 hg1)
            | (at_builtin; refine wpList_append_b rfl (.tmp 25) (.tmp 29) rfl _ _ _ rfl (B1.alloc _).own [s[k]] (src1 s[k] rfl rfl) d2 H2.out HL (B1.alloc _).size ?_; intro v2 w2 ho2 hg2 _; have B2 := (B1.alloc _).appended ho2 hg2; clear ho2 hg2))
          go_roundw
          case rel => exact ⟨k + 1, by omega, by go_num, HD.out ▸ B2⟩
          case measure => simp [intOf]; omega
      · have h2 : d2 = d0 ++ [s[k]] := by rw [hd2, hts, QS_snoc, ← List.append_assoc, ← hd0, qs, if_neg hq]
        have t34 : ((s[k].toNat : Int) == 34) = false := u8_ne' (fun e => hq (.inl e)) rfl
        have t92 : ((s[k].toNat : Int) == 92) = false := u8_ne' (fun e => hq (.inr e)) rfl
        have H2 : Hid (d2 = d0 ++ [s[k]]) := h2
        clear hd0 hd2 h2 hts hq
        go_wp2_with (at_builtin; refine wpList_append_b rfl (.tmp 25) (.tmp 29) rfl _ _ _ rfl (B.alloc _).own [s[k]] (src1 s[k] rfl rfl) d2 H2.out HL (B.alloc _).size ?_; intro v2 w2 ho2 hg2 _; have B2 := (B.alloc _).appended ho2 hg2; clear ho2 hg2)
        go_roundw
        case rel => exact ⟨k + 1, by omega, by go_num, HD.out ▸ B2⟩
        case measure => simp [intOf]; omega
    · have e : s.data.toList.take k = s.data.toList := List.take_of_length_le (by rw [Array.length_toList]; show s.size ≤ k; omega)
      rw [e] at B
      go_wp2
      go_ret
      exact ⟨_, rfl, B⟩

end Go.Proofs.Qxb6601523a
