import Derived.Test.Qxb6601523aUnits
import Derived.Test.Qxb6601523aBuild
import Derived.Test.Qxb6601523aQuote
namespace Go.Proofs.Qxb6601523a
open Go.RowKit

theorem info3 : (Try.prog.info? 3).map (fun i => (i.zero, i.size, i.bytes)) = some (some (.int .i64 0), 1, 8) := by kernel_rfl

/-- A slice value that owns a row of ints. -/
structure OwnI (w : World) (base : Nat) (v : Value) (xs : List Nat) : Prop where
  row : w.ownsRow base 3 1 v xs.length (xs.map fun n : Nat => Value.int .i64 (n : Int))

section
variable {w w' : World} {base : Nat} {v : Value} {xs : List Nat}
theorem OwnI.nil (w : World) (base : Nat) : OwnI w base (.slice none 0 0) [] := ⟨World.ownsRow_nil w base 3 1⟩
theorem OwnI.lt (h : OwnI w base v xs) : ∀ k, v.ownBlock = some k → base ≤ k ∧ k < w.heap.size := h.row.lt
theorem OwnI.kept {row : Option Nat} (h : OwnI w base v xs) (hg : w.grownBy w' row) (hne : v.ownBlock = none ∨ v.ownBlock ≠ row) : OwnI w' base v xs := ⟨h.row.kept hg hne⟩
theorem OwnI.alloc (h : OwnI w base v xs) (o : Obj) : OwnI (w.alloc o) base v xs := ⟨h.row.alloc o⟩
theorem OwnI.drew (h : OwnI w base v xs) : OwnI w.drew base v xs := ⟨h.row⟩
theorem OwnI.shape (h : OwnI w base v xs) : (v = .slice none 0 0 ∧ xs = []) ∨ ∃ g cap, v = .slice (some ⟨g, 0, none⟩) xs.length cap ∧ xs.length ≤ cap := by
  rcases h.row.2 with ⟨rfl, h0⟩ | ⟨g, cap, cur, rfl, _, _, hn, _⟩
  · exact .inl ⟨rfl, List.eq_nil_of_length_eq_zero h0⟩
  · exact .inr ⟨g, cap, rfl, hn⟩
theorem OwnI.block (h : OwnI w base v xs) {g : Nat} (hg : v.ownBlock = some g) : ∃ cur fr, w.heap[g]? = some (.cells cur 3 fr) ∧ base ≤ g := by
  rcases h.row.2 with ⟨rfl, _⟩ | ⟨g', cap, cur, rfl, hb, hgg, _⟩
  · simp [Value.ownBlock] at hg
  · simp [Value.ownBlock] at hg
    subst hg
    exact ⟨cur, _, hgg, hb⟩
theorem OwnI.cellAt {g n cap : Nat} (h : OwnI w base (.slice (some ⟨g, 0, none⟩) n cap) xs) (j : Nat) (b : Nat) (hb : xs[j]? = some b) : w.cell? ⟨g, j, none⟩ = some (.int .i64 (b : Int)) := by
  have hj : j < xs.length := (List.getElem?_eq_some_iff.1 hb).1
  have hn : n = xs.length := by
    rcases h.shape with ⟨hv, _⟩ | ⟨g', cap', hv, _⟩
    · simp at hv
    · simp at hv; exact hv.2.1
  subst hn
  rw [h.row.cellAt j (by simpa using hj), List.getElem?_map, hb]
  rfl
theorem OwnI.stored {g n cap : Nat} (h : OwnI w base (.slice (some ⟨g, 0, none⟩) n cap) xs) (j b : Nat) : OwnI (w.setCell ⟨g, j, none⟩ (.int .i64 (b : Int))) base (.slice (some ⟨g, 0, none⟩) n cap) (xs.set j b) := by
  have hn : n = xs.length := by
    rcases h.shape with ⟨hv, _⟩ | ⟨g', cap', hv, _⟩
    · simp at hv
    · simp at hv; exact hv.2.1
  subst hn
  have := h.row.stored j (.int .i64 (b : Int))
  refine ⟨?_⟩
  rw [List.length_set, List.map_set]
  exact this.1
theorem OwnI.freeAt {g n cap : Nat} (h : OwnI w base (.slice (some ⟨g, 0, none⟩) n cap) xs) (j : Nat) : w.frozen? ⟨g, j, none⟩ = false := by
  have hn : n = xs.length := by
    rcases h.shape with ⟨hv, _⟩ | ⟨g', cap', hv, _⟩
    · simp at hv
    · simp at hv; exact hv.2.1
  subst hn
  exact h.row.frozenAt j
end

/-- What owns its block keeps it while nothing below the heap's size turns. -/
theorem OwnB.below {W w' : World} {base : Nat} {v : Value} {xs : List UInt8} (h : OwnB W base v xs) (hb : Below W.heap.size W w') : OwnB w' base v xs :=
  h.kept (row := none) ⟨hb.os, hb.tape, hb.output, hb.size, fun k hk _ => hb.block k hk⟩ (by cases hv : v.ownBlock <;> simp)
theorem OwnI.below {W w' : World} {base : Nat} {v : Value} {xs : List Nat} (h : OwnI W base v xs) (hb : Below W.heap.size W w') : OwnI w' base v xs :=
  h.kept (row := none) ⟨hb.os, hb.tape, hb.output, hb.size, fun k hk _ => hb.block k hk⟩ (by cases hv : v.ownBlock <;> simp)
theorem ownBI_ne {w : World} {b b' : Nat} {v v' : Value} {xs : List UInt8} {ys : List Nat} (h : OwnB w b v xs) (h' : OwnI w b' v' ys) : v.ownBlock = none ∨ v.ownBlock ≠ v'.ownBlock := by
  cases hv : v.ownBlock with
  | none => exact .inl rfl
  | some g =>
    refine .inr fun e => ?_
    obtain ⟨cur, fr, h1, _⟩ := h.block hv
    obtain ⟨cur', fr', h2, _⟩ := h'.block e.symm
    rw [h1] at h2
    simp at h2

def SmallI (l : List Nat) : Prop := l.length ≤ 1099511627776

/-- 'append(ends, i)'. -/
theorem wpList_append_i {w : World} {ops : Array Oper} {rest : List Oper} {o : Oper} {a : Act} {K : Exit → Act → World → Prop} (hgd : o.guard = none) (s x : Operand)
    (ho : o.op = .call { callee := .builtin .append, args := #[s, x], argTypes := #[46, 46] })
    (base : Nat) (v : Value) (xs : List Nat) (hs : a.eval s = v) (hown : OwnI w base v xs) (ad : Addr) (z : Int) (n : Nat) (hz : z = (n : Int)) (hx : a.eval x = .slice (some ad) 1 1) (hc : ∀ j u, [Value.int .i64 z][j]? = some u → w.cell? (ad.add j) = some u)
    (ys : List Nat) (hy : ys = xs ++ [n]) (hlen : SmallI ys) (hbase : base ≤ w.heap.size)
    (h : ∀ v' w', OwnI w' base v' ys → w.grownBy w' v.ownBlock → wpList Try.prog ops K rest (a.put o.dst v') w') : wpList Try.prog ops K (o :: rest) a w := by
  obtain ⟨i0, hi, hz0, hz1, hz2⟩ := info_parts info3
  subst hy
  unfold SmallI at hlen
  rw [List.length_append, List.length_singleton] at hlen
  refine wpList_append_own w hgd s x 46 ho base 3 i0 (.int .i64 0) 1 8 Try.underlying46 hi hz0 hz1 hz2 rfl (by decide) v xs.length _ hs hown.row ad 1 1 [.int .i64 z] hx rfl hc (by intro u hu; simp at hu; subst hu; rfl) (by unfold maxLen; omega) (by omega) hbase ?_
  intro v' w' ho' hg _
  refine h v' w' ⟨?_⟩ hg
  rw [List.length_append, List.map_append, List.length_singleton]
  subst hz
  exact ho'

theorem src_one (w : World) (x : Value) (t : TypeId) : ∀ j u, [x][j]? = some u → (w.alloc (.cells #[x] t)).cell? ((⟨w.heap.size, 0, none⟩ : Addr).add j) = some u := cell_one_new w x t


/-- Where unit k begins. -/
def posU (p : Nat) (us : List (UInt8 × Nat)) (k : Nat) : Nat := if k = 0 then p else (us[k - 1]?.map (·.2)).getD 0

theorem posU_zero (p : Nat) (us : List (UInt8 × Nat)) : posU p us 0 = p := rfl
theorem posU_succ {p k : Nat} {us : List (UInt8 × Nat)} {u : UInt8 × Nat} (h : us[k]? = some u) : posU p us (k + 1) = u.2 := by unfold posU; simp [h]

theorem unitPos_any (p k : Nat) (us : List (UInt8 × Nat)) (ev : Value) (base : Nat) (w : World) (hev : OwnI w base ev (us.map (·.2))) (hk : k ≤ us.length) (hl : us.length ≤ 4294967296) :
    Calls Try.prog 27 #[.int .i64 (p : Int), ev, .int .i64 (k : Int)] w fun e w' => e = .returned (.int .i64 (posU p us k : Int)) ∧ w' = w := by
  by_cases h0 : k = 0
  · subst h0
    have e0 : posU p us 0 = p := rfl
    rw [e0]
    go_enter Try.func27, Try.ntmps27
    go_wp2
    go_ret
    exact ⟨rfl, rfl⟩
  · obtain ⟨j, rfl⟩ : ∃ j, k = j + 1 := ⟨k - 1, by omega⟩
    have hj : j < us.length := by omega
    have e1 : us[j]? = some us[j] := List.getElem?_eq_getElem hj
    rw [posU_succ e1]
    rcases hev.shape with ⟨rfl, hnil⟩ | ⟨g, cap, rfl, hcap⟩
    · have : us.length = 0 := by simpa using congrArg List.length hnil
      omega
    · have hc := hev.cellAt j us[j].2 (by rw [List.getElem?_map, e1]; rfl)
      obtain ⟨x, hx⟩ : ∃ x, x = us[j].2 := ⟨_, rfl⟩
      rw [← hx] at hc ⊢
      obtain ⟨n, hn⟩ : ∃ n, n = (us.map (·.2)).length := ⟨_, rfl⟩
      rw [← hn]
      have hjn : (j : Int) < (n : Int) := by rw [hn, List.length_map]; omega
      have hj3 : (j : Int) ≤ 4294967296 := by omega
      clear hn hx e1 hev hk hcap
      have ek : ((j + 1 : Nat) : Int) = (j : Int) + 1 := by omega
      rw [ek]
      clear ek h0
      go_enter Try.func27, Try.ntmps27
      go_wp2
      go_ret
      exact ⟨rfl, rfl⟩

/-- The two rows that 'cfgb1LexUnits' gathers. -/
structure LX (w wr : World) (cv : Value) (cs : List UInt8) (ev : Value) (es : List Nat) : Prop where
  c : OwnB wr w.heap.size cv cs
  e : OwnI wr w.heap.size ev es
  bel : Below w.heap.size w wr

section
variable {w wr w' : World} {cv ev v' : Value} {cs ys : List UInt8} {es zs : List Nat}
theorem LX.size (h : LX w wr cv cs ev es) : w.heap.size ≤ wr.heap.size := h.bel.size
theorem LX.alloc (h : LX w wr cv cs ev es) (o : Obj) : LX w (wr.alloc o) cv cs ev es := ⟨h.c.alloc o, h.e.alloc o, h.bel.alloc h.size o⟩
theorem LX.appC (h : LX w wr cv cs ev es) (ho : OwnB w' w.heap.size v' ys) (hg : wr.grownBy w' cv.ownBlock) : LX w w' v' ys ev es := by
  refine ⟨ho, h.e.kept hg ?_, h.bel.grown hg h.size fun k hk => (h.c.lt k hk).1⟩
  rcases ownBI_ne h.c h.e with h1 | h1
  · rw [h1]; cases hv : ev.ownBlock <;> simp
  · exact .inr fun e => h1 e.symm
theorem LX.appE (h : LX w wr cv cs ev es) (ho : OwnI w' w.heap.size v' zs) (hg : wr.grownBy w' ev.ownBlock) : LX w w' cv cs v' zs :=
  ⟨h.c.kept hg (ownBI_ne h.c h.e), ho, h.bel.grown hg h.size fun k hk => (h.e.lt k hk).1⟩
end

set_option maxRecDepth 20000 in
set_option maxHeartbeats 4000000 in
theorem lex_any {w : World} {dv : Value} {ds : List UInt8} (h : OwnB w 0 dv ds) (hn : ds.length ≤ 4294967296) (p : Nat) (us : List (UInt8 × Nat)) (hu : IsU ds p us) :
    Calls Try.prog 26 #[dv, .int .i64 (p : Int)] w fun e w' => ∃ cv ev, e = .returned (.tuple #[cv, ev]) ∧ LX w w' cv (us.map (·.1)) ev (us.map (·.2)) := by
  have HU : Hid (IsU ds p us) := hu
  clear hu
  obtain ⟨ao, cap, hdv, _⟩ := h.slice
  have HO : Hid (OwnB w 0 (.slice ao ds.length cap) ds) := hdv ▸ h
  subst hdv
  clear h
  go_enter Try.func26, Try.ntmps26
  go_wp2
  go_loopw [6, 7, 8] (fun cv ev i wr => ∃ (p : Nat) (us1 us2 : List (UInt8 × Nat)) (c0 e0 : Value), c0 = cv ∧ e0 = ev ∧ i = .int .i64 (p : Int) ∧ us = us1 ++ us2 ∧ IsU ds p us2 ∧ us1.length ≤ p ∧ LX w wr c0 (us1.map (·.1)) e0 (us1.map (·.2))) (fun _ _ i _ => ds.length - (intOf i).toNat)
  case atStart => exact ⟨p, [], us, _, _, rfl, rfl, rfl, rfl, HU.out, Nat.zero_le _, OwnB.nil _ _, OwnI.nil _ _, Below.refl _ _⟩
  case round =>
    clear HU
    obtain ⟨p, us1, us2, cv, ev, rfl, rfl, rfl, hus, hu, hl, X⟩ := hrel
    cases us2 with
    | nil =>
      have hp : ds.length ≤ p := hu
      have hx : us1 = us := by rw [hus]; simp
      rw [hx] at X
      clear hus hx hu HO
      go_wp2
      go_ret2
      exact ⟨_, _, rfl, X⟩
    | cons cq us3 =>
      obtain ⟨c, q⟩ := cq
      obtain ⟨hlt, hC, hN, hu'⟩ := hu
      have HOr := HO.out.below X.bel
      rcases HOr.shape with ⟨_, hnil⟩ | ⟨g, cap', hv, _⟩
      · rw [hnil] at hlt; simp at hlt
      · simp only [Value.slice.injEq] at hv
        obtain ⟨rfl, _, rfl⟩ := hv
        have e1 : ds[p]? = some ds[p] := List.getElem?_eq_getElem hlt
        have hcp := HOr.cellAt p _ e1
        obtain ⟨x, hx⟩ : ∃ x, x = ds[p] := ⟨_, rfl⟩
        rw [← hx] at hcp e1
        clear hx
        obtain ⟨cs1, hcs⟩ : ∃ l, l = us1.map (·.1) := ⟨_, rfl⟩
        obtain ⟨es1, hes⟩ : ∃ l, l = us1.map (·.2) := ⟨_, rfl⟩
        have lc : cs1.length = us1.length := by rw [hcs]; simp
        have le : es1.length = us1.length := by rw [hes]; simp
        rw [← hcs, ← hes] at X
        have HCS : Hid (cs1 = us1.map (·.1)) := hcs
        have HES : Hid (es1 = us1.map (·.2)) := hes
        have HS1 : ∀ y : UInt8, Small (cs1 ++ [y]) := fun y => by unfold Small; simp only [List.length_append, List.length_cons, List.length_nil]; omega
        have HS2 : ∀ y : Nat, SmallI (es1 ++ [y]) := fun y => by unfold SmallI; simp only [List.length_append, List.length_cons, List.length_nil]; omega
        have HUS : Hid (us = us1 ++ (c, q) :: us3) := hus
        have HU : Hid (IsU ds q us3) := hu'
        have hi : (p : Int) < (ds.length : Int) := by omega
        clear hcs hes hus hu' lc le
        by_cases h13 : x = 13
        · by_cases hp1 : p + 1 < ds.length
          · have e2 : ds[p + 1]? = some ds[p + 1] := List.getElem?_eq_getElem hp1
            have hcq := HOr.cellAt (p + 1) _ e2
            obtain ⟨y, hy⟩ : ∃ y, y = ds[p + 1] := ⟨_, rfl⟩
            rw [← hy] at hcq e2
            clear hy HOr
            have hi2 : (p : Int) + 1 < (ds.length : Int) := by omega
            have t13 : ((x.toNat : Int) == 13) = true := by rw [h13]; rfl
            by_cases h10 : y = 10
            · have t10 : ((y.toNat : Int) == 10) = true := by rw [h10]; rfl
              have hc : c = 10 := by rw [← hC]; unfold peekC; rw [if_pos ⟨by rw [e1, h13], by rw [e2, h10]⟩]
              have hq : q = p + 2 := by rw [← hN]; unfold nextP; rw [if_pos ⟨by rw [e1, h13], by rw [e2, h10]⟩]
              subst hc hq
              replace HS1 := HS1 10
              replace HS2 := HS2 (p + 2)
              clear hC hN e1 e2 h13 h10 hp1
              go_wp2_with (first
                | (at_builtin; refine wpList_append_b rfl (.tmp 34) (.tmp 35) rfl _ _ _ rfl (X.alloc _).c [10] (src1 10 rfl rfl) (cs1 ++ [10]) rfl HS1 (X.alloc _).size ?_; intro v1 w1 ho1 hg1 _; have X1 := (X.alloc _).appC ho1 hg1; clear ho1 hg1)
                | (at_builtin; refine wpList_append_i rfl (.tmp 48) (.tmp 50) rfl _ _ _ rfl (X1.alloc _).e ⟨_, 0, none⟩ _ (p + 2) (by omega) rfl (src_one _ _ _) (es1 ++ [p + 2]) rfl HS2 (X1.alloc _).size ?_; intro v2 w2 ho2 hg2; have X2 := (X1.alloc _).appE ho2 hg2; clear ho2 hg2))
              go_roundw
              case rel => exact ⟨p + 2, us1 ++ [(10, p + 2)], us3, _, _, rfl, rfl, by go_num, by rw [HUS.out]; simp, HU.out, by simp only [List.length_append, List.length_cons, List.length_nil]; omega, by rw [List.map_append, List.map_append, ← HCS.out, ← HES.out]; exact X2⟩
              case measure => simp [intOf]; omega
            · have t10 : ((y.toNat : Int) == 10) = false := u8_ne' h10 rfl
              have hnc : ¬ (ds[p]? = some 13 ∧ ds[p + 1]? = some 10) := by rw [e2]; intro hh; exact h10 (Option.some.inj hh.2)
              have hc : c = x := by rw [← hC]; unfold peekC; rw [if_neg hnc, e1]; rfl
              have hq : q = p + 1 := by rw [← hN]; unfold nextP; rw [if_neg hnc, if_pos hlt]
              subst hc hq
              replace HS1 := HS1 c
              replace HS2 := HS2 (p + 1)
              clear hC hN e1 e2 h13 h10 hp1 hnc
              go_wp2_with (first
                | (at_builtin; refine wpList_append_b rfl (.tmp 39) (.tmp 44) rfl _ _ _ rfl (X.alloc _).c [c] (src1 c rfl rfl) (cs1 ++ [c]) rfl HS1 (X.alloc _).size ?_; intro v1 w1 ho1 hg1 _; have X1 := (X.alloc _).appC ho1 hg1; clear ho1 hg1)
                | (at_builtin; refine wpList_append_i rfl (.tmp 48) (.tmp 50) rfl _ _ _ rfl (X1.alloc _).e ⟨_, 0, none⟩ _ (p + 1) (by omega) rfl (src_one _ _ _) (es1 ++ [p + 1]) rfl HS2 (X1.alloc _).size ?_; intro v2 w2 ho2 hg2; have X2 := (X1.alloc _).appE ho2 hg2; clear ho2 hg2))
              go_roundw
              case rel => exact ⟨p + 1, us1 ++ [(c, p + 1)], us3, _, _, rfl, rfl, by go_num, by rw [HUS.out]; simp, HU.out, by simp only [List.length_append, List.length_cons, List.length_nil]; omega, by rw [List.map_append, List.map_append, ← HCS.out, ← HES.out]; exact X2⟩
              case measure => simp [intOf]; omega
          · have hi2 : ¬ ((p : Int) + 1 < (ds.length : Int)) := by omega
            have hd2 : decide ((p : Int) + 1 < (ds.length : Int)) = false := decide_eq_false hi2
            have t13 : ((x.toNat : Int) == 13) = true := by rw [h13]; rfl
            have hnc : ¬ (ds[p]? = some 13 ∧ ds[p + 1]? = some 10) := by rw [List.getElem?_eq_none (by omega : ds.length ≤ p + 1)]; simp
            have hc : c = x := by rw [← hC]; unfold peekC; rw [if_neg hnc, e1]; rfl
            have hq : q = p + 1 := by rw [← hN]; unfold nextP; rw [if_neg hnc, if_pos hlt]
            subst hc hq
            replace HS1 := HS1 c
            replace HS2 := HS2 (p + 1)
            clear hC hN e1 h13 hp1 hnc HOr
            go_wp2_with (first
              | (at_builtin; refine wpList_append_b rfl (.tmp 39) (.tmp 44) rfl _ _ _ rfl (X.alloc _).c [c] (src1 c rfl rfl) (cs1 ++ [c]) rfl HS1 (X.alloc _).size ?_; intro v1 w1 ho1 hg1 _; have X1 := (X.alloc _).appC ho1 hg1; clear ho1 hg1)
              | (at_builtin; refine wpList_append_i rfl (.tmp 48) (.tmp 50) rfl _ _ _ rfl (X1.alloc _).e ⟨_, 0, none⟩ _ (p + 1) (by omega) rfl (src_one _ _ _) (es1 ++ [p + 1]) rfl HS2 (X1.alloc _).size ?_; intro v2 w2 ho2 hg2; have X2 := (X1.alloc _).appE ho2 hg2; clear ho2 hg2))
            go_roundw
            case rel => exact ⟨p + 1, us1 ++ [(c, p + 1)], us3, _, _, rfl, rfl, by go_num, by rw [HUS.out]; simp, HU.out, by simp only [List.length_append, List.length_cons, List.length_nil]; omega, by rw [List.map_append, List.map_append, ← HCS.out, ← HES.out]; exact X2⟩
            case measure => simp [intOf]; omega
        · have t13 : ((x.toNat : Int) == 13) = false := u8_ne' h13 rfl
          have hnc : ¬ (ds[p]? = some 13 ∧ ds[p + 1]? = some 10) := by rw [e1]; intro hh; exact h13 (Option.some.inj hh.1)
          have hc : c = x := by rw [← hC]; unfold peekC; rw [if_neg hnc, e1]; rfl
          have hq : q = p + 1 := by rw [← hN]; unfold nextP; rw [if_neg hnc, if_pos hlt]
          subst hc hq
          replace HS1 := HS1 c
          replace HS2 := HS2 (p + 1)
          clear hC hN e1 h13 hnc HOr
          go_wp2_with (first
            | (at_builtin; refine wpList_append_b rfl (.tmp 39) (.tmp 44) rfl _ _ _ rfl (X.alloc _).c [c] (src1 c rfl rfl) (cs1 ++ [c]) rfl HS1 (X.alloc _).size ?_; intro v1 w1 ho1 hg1 _; have X1 := (X.alloc _).appC ho1 hg1; clear ho1 hg1)
            | (at_builtin; refine wpList_append_i rfl (.tmp 48) (.tmp 50) rfl _ _ _ rfl (X1.alloc _).e ⟨_, 0, none⟩ _ (p + 1) (by omega) rfl (src_one _ _ _) (es1 ++ [p + 1]) rfl HS2 (X1.alloc _).size ?_; intro v2 w2 ho2 hg2; have X2 := (X1.alloc _).appE ho2 hg2; clear ho2 hg2))
          go_roundw
          case rel => exact ⟨p + 1, us1 ++ [(c, p + 1)], us3, _, _, rfl, rfl, by go_num, by rw [HUS.out]; simp, HU.out, by simp only [List.length_append, List.length_cons, List.length_nil]; omega, by rw [List.map_append, List.map_append, ← HCS.out, ← HES.out]; exact X2⟩
          case measure => simp [intOf]; omega

end Go.Proofs.Qxb6601523a
