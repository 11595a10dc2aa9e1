import Derived.Test.Qxb6601523aModel
import Derived.Test.Qxb6601523aZZHeader
import Derived.Test.Qxb6601523aLower
import Derived.Laws.CopyOwn
namespace Go.Proofs.Qxb6601523a
open Go.RowKit

theorem zzb13 (ao : Option Addr) (n cap : Nat) (z : Int) (w : World) (hn : n ≤ maxLen) :
    Calls Try.prog 13 #[.slice ao n cap, .int .i64 z] w fun e w' => (∃ r, e = .returned (.bool r)) ∧ w = w' := by
  unfold maxLen at hn
  go_enter Try.func13, Try.ntmps13
  go_wp2
  all_goals go_ret
  all_goals exact ⟨⟨_, rfl⟩, rfl⟩

/-- A new row of n bytes, as 'make' lays it. -/
structure NewB (w0 w : World) (g n : Nat) : Prop where
  ex : ∃ cur : List Value, w.heap[g]? = some (.cells cur.toArray 5 (0, 0)) ∧ cur.length = n
  bel : Below w0.heap.size w0 w
  ge : w0.heap.size ≤ g

theorem wpList_make_n (w : World) {ops : Array Oper} {rest : List Oper} {o : Oper} {a : Act} {K : Exit → Act → World → Prop}
    (hg : o.guard = none) (l : Operand) (hop : o.op = Op.makeSlice 22 l l) (L : Int) (n : Nat) (hl : a.eval l = .int .i64 L) (hL : L = (n : Int)) (hn : n ≤ 4294967296)
    (hK : ∀ g w', NewB w w' g n → wpList Try.prog ops K rest (a.put o.dst (.slice (some ⟨g, 0, none⟩) n n)) w') :
    wpList Try.prog ops K (o :: rest) a w := by
  obtain ⟨i, hi, hz, hsize, hby⟩ := info_parts info5
  refine wpList_make_full w hg l l 22 hop w.heap.size 5 i (.int .u8 0) 1 Try.underlying22 hi hz hsize .i64 .i64 L L n hl hl hL hL (by rw [hby]; omega) (by unfold maxLen; omega) (Nat.le_refl _) ?_
  intro w' ho hgr
  refine hK _ w' ⟨?_, (Below.refl _ _).grown hgr (Nat.le_refl _) (fun k hk => by cases hk), Nat.le_refl _⟩
  rcases ho.2 with ⟨hv, _⟩ | ⟨g, cap, cur, hv, hb, hgg, _, _, hs, _⟩
  · simp at hv
  · simp at hv
    obtain ⟨rfl, rfl⟩ := hv
    exact ⟨cur.toList, by simpa using hgg, by simpa using hs⟩

theorem splice_all {α : Type} (L cs : List α) (h : cs.length = L.length) : splice L 0 cs = cs := by
  unfold splice
  simp [h]

theorem wpList_copy_n {w0 w : World} {ops : Array Oper} {rest : List Oper} {o : Oper} {a : Act} {K : Exit → Act → World → Prop} (hgd : o.guard = none) (d s : Operand)
    (ho : o.op = .call { callee := .builtin .copy, args := #[d, s], argTypes := #[22, 22] }) (g n : Nat) (hN : NewB w0 w g n) (hd : a.eval d = .slice (some ⟨g, 0, none⟩) n n)
    (news : List UInt8) (hs : SrcB w (a.eval s) news) (hn : news.length = n) (hm : n ≤ 4294967296)
    (h : ∀ w', OwnB w' w0.heap.size (.slice (some ⟨g, 0, none⟩) n n) news → Below w0.heap.size w0 w' → wpList Try.prog ops K rest (a.put o.dst (goInt (n : Int))) w') : wpList Try.prog ops K (o :: rest) a w := by
  subst hn
  obtain ⟨⟨cur, hg, hcl⟩, hbel, hge⟩ := hN
  have hsz : (Try.prog.info? 5).map (·.size) = some 1 := by
    obtain ⟨i, hi, hz, hsize, hby⟩ := info_parts info5
    rw [hi]; simp [hsize]
  have hcl2 : (bcells news).length = cur.length := by rw [bcells_length, hcl]
  have fin : ∀ w', Hid (w'.heap[g]? = some (.cells (splice cur 0 (bcells news)).toArray 5 (0, 0))) → OwnB w' w0.heap.size (.slice (some ⟨g, 0, none⟩) news.length news.length) news := by
    intro w' hw'
    refine ⟨.inr ⟨g, news.length, (bcells news).toArray, (0, 0), rfl, hge, ?_, .inl rfl, Nat.le_refl _, by unfold maxLen; omega, by simp [bcells_length], ?_⟩⟩
    · have := hw'.out
      rw [splice_all _ _ hcl2] at this
      exact this
    · exact List.take_of_length_le (by rw [bcells_length]; exact Nat.le_refl _)
  rcases hs with ⟨he, rfl⟩ | ⟨ad, c, he, hc⟩
  · refine wpList_copy_splice hgd d s 22 22 ho 5 Try.underlying22 hsz _ _ _ _ _ _ hd he g 0 cur 5 hg (bcells []) (by simp [bcells]) (fun h0 => by simp [bcells] at h0) (by rw [hcl2]; omega) (bcells_one _) w0.heap.size w0 hbel hge ?_
    intro w' hw' hb
    exact h w' (fin w' hw') hb
  · refine wpList_copy_splice hgd d s 22 22 ho 5 Try.underlying22 hsz _ _ _ _ _ _ hd he g 0 cur 5 hg (bcells news) (by rw [bcells_length]; simp) (fun _ => ⟨rfl, ad, rfl, hc⟩) (by rw [hcl2]; omega) (bcells_one _) w0.heap.size w0 hbel hge ?_
    intro w' hw' hb
    have := h w' (fin w' hw') hb
    rw [bcells_length]
    exact this

theorem fhm_out (a0 : Option Addr) (len0 cap0 : Nat) (z : Int) (w : World) (hl : len0 ≤ maxLen) (ho : 1048576 < len0 ∨ (len0 ≤ 1048576 ∧ z < 0)) :
    Calls Try.prog 5 #[.slice a0 len0 cap0, .int .i64 z] w fun e w' => e = .returned (.bool true) ∧ Below w.heap.size w w' := by
  rcases ho with h | ⟨h, h'⟩
  all_goals
    go_enter Try.func5, Try.ntmps5
    go_wp2_with fail
    refine (zzb13 _ _ _ _ _ hl).mono ?_
    rintro e w1 ⟨⟨r, rfl⟩, rfl⟩
    cases r with
    | false =>
      go_wp2
      go_ret
      exact ⟨rfl, Below.refl _ _⟩
    | true =>
      unfold maxLen at hl
      go_wp2
      go_ret
      exact ⟨rfl, Below.refl _ _⟩

theorem sec_cells {w w2 : World} {a b c : Value} (hb : Below (w.alloc (.cells #[a, b, c] 29)).heap.size (w.alloc (.cells #[a, b, c] 29)) w2) :
    w.heap.size < w2.heap.size ∧ w2.cell? ⟨w.heap.size, 0, none⟩ = some a ∧ w2.cell? ⟨w.heap.size, 1, none⟩ = some b ∧ w2.cell? ⟨w.heap.size, 2, none⟩ = some c ∧ Below w.heap.size w w2 := by
  have hs := hb.size
  have e : (w.alloc (.cells #[a, b, c] 29)).heap.size = w.heap.size + 1 := by simp
  have h : w2.heap[w.heap.size]? = some (.cells #[a, b, c] 29 (0, 0)) := by
    rw [hb.block _ (by omega)]
    exact heap_alloc_new w _
  refine ⟨by omega, by simp [World.cell?, h], by simp [World.cell?, h], by simp [World.cell?, h], ?_⟩
  exact ((Below.refl _ w).alloc (Nat.le_refl _) _).trans ⟨hb.os, hb.tape, hb.output, hb.size, fun k hk => hb.block k (by omega)⟩

theorem bLower {B C : Nat} {a b : World} (h : Below B a b) (hc : C ≤ B) : Below C a b := ⟨h.os, h.tape, h.output, h.size, fun k hk => h.block k (by omega)⟩

set_option maxRecDepth 20000 in
set_option maxHeartbeats 2000000 in
theorem fhm_nil (p : Nat) (w : World) :
    Calls Try.prog 5 #[.slice none 0 0, .int .i64 (p : Int)] w fun e w' => e = .returned (.bool true) ∧ Below w.heap.size w w' := by
  have hO : OwnB w 0 (.slice none 0 0) [] := OwnB.nil w 0
  obtain ⟨us, hu⟩ := isU_ex [] 0 p (by simp)
  obtain ⟨R, hR⟩ : ∃ R, R = hdrName us [] p := ⟨_, rfl⟩
  have HZ : Hid (∀ w, OwnB w 0 (.slice none 0 0) [] → Calls Try.prog 14 #[.slice none 0 0, .int .i64 (p : Int)] w fun e w' => e = .returned (.tuple #[.agg #[.string ⟨R.name.toArray⟩, .string ⟨R.sub.toArray⟩, .bool R.has], .bool R.ok, .int .i64 (R.pos : Int)]) ∧ Below w.heap.size w w') := fun w h => zzheader_any h (by simp) p us hu R hR.symm
  have HM : Hid (∀ w, OwnB w 0 (.slice none 0 0) [] → Calls Try.prog 15 #[.slice none 0 0, .int .i64 (p : Int)] w fun e w' => e = .returned (.tuple #[.agg #[.string ⟨R.name.toArray⟩, .string ⟨R.sub.toArray⟩, .bool R.has], .bool R.ok, .int .i64 (R.pos : Int)]) ∧ Below w.heap.size w w') := fun w h => model_any h (by simp) p us hu R hR.symm
  obtain ⟨nm, hnm⟩ : ∃ nm : ByteArray, nm = ⟨R.name.toArray⟩ := ⟨_, rfl⟩
  obtain ⟨sb, hsb⟩ : ∃ sb : ByteArray, sb = ⟨R.sub.toArray⟩ := ⟨_, rfl⟩
  obtain ⟨has, hhas⟩ : ∃ b, b = R.has := ⟨_, rfl⟩
  obtain ⟨ok, hok⟩ : ∃ b, b = R.ok := ⟨_, rfl⟩
  obtain ⟨q, hq⟩ : ∃ q, q = R.pos := ⟨_, rfl⟩
  rw [← hnm, ← hsb, ← hhas, ← hok, ← hq] at HZ HM
  clear hnm hsb hhas hok hq hR hu
  have hne := fun w : World => run_neq_slice_nil_any (P := Try.prog) w 22 5 none 0 0 0 0 Try.underlying22
  go_enter Try.func5, Try.ntmps5
  go_wp2_with fail
  refine (zzb13 _ _ _ _ _ (Nat.zero_le _)).mono ?_
  rintro e w1 ⟨⟨r, rfl⟩, rfl⟩
  cases r with
  | false =>
    go_wp2
    go_ret
    exact ⟨rfl, Below.refl _ _⟩
  | true =>
    go_wp2_with fail
    refine (HZ.out _ hO).mono ?_
    rintro e w1 ⟨rfl, hb1⟩
    go_wp2_with fail
    refine (HM.out _ (OwnB.nil _ 0)).mono ?_
    rintro e w2 ⟨rfl, hb2⟩
    have hs1 := hb1.size
    obtain ⟨hlt, c0, c1, c2, hbb⟩ := sec_cells hb2
    have hbel := hb1.trans (bLower hbb hs1)
    clear hb1 hb2 hbb hO HZ HM hs1
    go_wp2
    go_ret
    exact ⟨rfl, hbel.alloc hbel.size _⟩

set_option maxRecDepth 20000 in
set_option maxHeartbeats 2000000 in
theorem fhm_some (ad : Addr) (cap0 p : Nat) (ds : List UInt8) (w : World) (hsrc : SrcB w (.slice (some ad) ds.length cap0) ds) (hl : ds.length ≤ 1048576) :
    Calls Try.prog 5 #[.slice (some ad) ds.length cap0, .int .i64 (p : Int)] w fun e w' => e = .returned (.bool true) ∧ Below w.heap.size w w' := by
  obtain ⟨us, hu⟩ := isU_ex ds (ds.length - p) p (Nat.le_refl _)
  obtain ⟨R, hR⟩ : ∃ R, R = hdrName us [] p := ⟨_, rfl⟩
  have HZ : Hid (∀ (w : World) (v : Value), OwnB w 0 v ds → Calls Try.prog 14 #[v, .int .i64 (p : Int)] w fun e w' => e = .returned (.tuple #[.agg #[.string ⟨R.name.toArray⟩, .string ⟨R.sub.toArray⟩, .bool R.has], .bool R.ok, .int .i64 (R.pos : Int)]) ∧ Below w.heap.size w w') := fun w v h => zzheader_any h (by omega) p us hu R hR.symm
  have HM : Hid (∀ (w : World) (v : Value), OwnB w 0 v ds → Calls Try.prog 15 #[v, .int .i64 (p : Int)] w fun e w' => e = .returned (.tuple #[.agg #[.string ⟨R.name.toArray⟩, .string ⟨R.sub.toArray⟩, .bool R.has], .bool R.ok, .int .i64 (R.pos : Int)]) ∧ Below w.heap.size w w') := fun w v h => model_any h (by omega) p us hu R hR.symm
  obtain ⟨nm, hnm⟩ : ∃ nm : ByteArray, nm = ⟨R.name.toArray⟩ := ⟨_, rfl⟩
  obtain ⟨sb, hsb⟩ : ∃ sb : ByteArray, sb = ⟨R.sub.toArray⟩ := ⟨_, rfl⟩
  obtain ⟨has, hhas⟩ : ∃ b, b = R.has := ⟨_, rfl⟩
  obtain ⟨ok, hok⟩ : ∃ b, b = R.ok := ⟨_, rfl⟩
  obtain ⟨q, hq⟩ : ∃ q, q = R.pos := ⟨_, rfl⟩
  rw [← hnm, ← hsb, ← hhas, ← hok, ← hq] at HZ HM
  clear hnm hsb hhas hok hq hR hu
  have hne := fun w : World => run_neq_slice_nil_any (P := Try.prog) w 22 5 (some ad) ds.length cap0 0 0 Try.underlying22
  obtain ⟨n, hn⟩ : ∃ n, n = ds.length := ⟨_, rfl⟩
  have HN : Hid (ds.length = n) := hn.symm
  rw [← hn] at hl hne hsrc ⊢
  clear hn
  go_enter Try.func5, Try.ntmps5
  go_wp2_with fail
  refine (zzb13 _ _ _ _ _ (by unfold maxLen; omega)).mono ?_
  rintro e w1 ⟨⟨r, rfl⟩, rfl⟩
  cases r with
  | false =>
    go_wp2
    go_ret
    exact ⟨rfl, Below.refl _ _⟩
  | true =>
    go_wp2_with (first
      | (at_make; refine wpList_make_n w rfl _ rfl _ n rfl rfl (by omega) ?_; intro g w1 hN1)
      | (refine wpList_copy_n rfl (.tmp 26) (.tmp 27) rfl g n hN1 rfl ds (hsrc.below hN1.bel) HN.out (by omega) ?_; intro w2 hO2 hb2)
      | fail)
    go_wp2_with fail
    refine (HZ.out _ _ (hO2.mono (Nat.zero_le _))).mono ?_
    rintro e w3 ⟨rfl, hb3⟩
    go_wp2_with fail
    refine (HM.out _ _ (((hO2.below hb3).alloc _).mono (Nat.zero_le _))).mono ?_
    rintro e w4 ⟨rfl, hb4⟩
    have hs2 := hb2.size
    have hs3 := hb3.size
    obtain ⟨hlt, c0, c1, c2, hbb⟩ := sec_cells hb4
    have hbel := (hb2.trans (bLower hb3 hs2)).trans (bLower hbb (Nat.le_trans hs2 hs3))
    clear hb2 hb3 hb4 hbb hO2 HZ HM hs2 hs3 hsrc
    go_wp2
    go_ret
    exact ⟨rfl, hbel.alloc hbel.size _⟩

theorem fhm_walk (a0 : Option Addr) (len0 cap0 : Nat) (ds : List UInt8) (z : Int) (w : World) (hl : len0 ≤ maxLen) (hds : ds.length = len0) (hsrc : SrcB w (.slice a0 len0 cap0) ds) :
    Calls Try.prog 5 #[.slice a0 len0 cap0, .int .i64 z] w fun e w' => e = .returned (.bool true) ∧ Below w.heap.size w w' := by
  by_cases h1 : 1048576 < len0
  · exact fhm_out _ _ _ _ _ hl (.inl h1)
  · by_cases h2 : z < 0
    · exact fhm_out _ _ _ _ _ hl (.inr ⟨by omega, h2⟩)
    · obtain ⟨p, rfl⟩ := Int.eq_ofNat_of_zero_le (Int.not_lt.1 h2)
      subst hds
      cases a0 with
      | none =>
        rcases hsrc with ⟨he, hd⟩ | ⟨ad, c, he, _⟩
        · subst hd
          simp at he
          subst he
          exact fhm_nil p w
        · simp at he
      | some ad => exact fhm_some ad cap0 p ds w hsrc (by omega)

end Go.Proofs.Qxb6601523a
