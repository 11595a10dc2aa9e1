import Derived.Test.Qxb6601699aProg
import Derived.WalkKit
import Derived.Laws.CopyOwn
import Derived.OpenShut
import Derived.BigQuiet
import Derived.WalkSpells
import Derived.WalkLawsBesides
import Derived.Laws.IdiomStrings
namespace Go.Proofs.Qxb6601699a
open Go.RowKit

/-- The cells of a row of bytes. -/
def bcells (l : List UInt8) : List Value := l.map fun b => Value.int .u8 (b.toNat : Int)
theorem bcells_length (l : List UInt8) : (bcells l).length = l.length := by simp [bcells]
theorem bcells_append (a b : List UInt8) : bcells (a ++ b) = bcells a ++ bcells b := by simp [bcells]
theorem bcells_get (l : List UInt8) (j : Nat) : (bcells l)[j]? = l[j]?.map fun b => Value.int .u8 (b.toNat : Int) := by simp [bcells]
theorem bcells_one (l : List UInt8) : ∀ u ∈ bcells l, u.oneCell' = true := by
  intro u hu
  simp only [bcells, List.mem_map] at hu
  obtain ⟨b, _, rfl⟩ := hu
  rfl

/-- A slice value that owns a row of bytes, from its head on: nil, or a block of bytes of which no cell is frozen. -/
structure OwnB (w : World) (base : Nat) (v : Value) (xs : List UInt8) : Prop where
  form : (v = .slice none 0 0 ∧ xs = []) ∨ ∃ g cap cur fr, v = .slice (some ⟨g, 0, none⟩) xs.length cap ∧ base ≤ g ∧ w.heap[g]? = some (.cells cur 5 fr) ∧
    (fr = (0, 0) ∨ fr = (cur.size, cur.size + 1)) ∧ xs.length ≤ cap ∧ cap ≤ maxLen ∧ cur.size = cap ∧ cur.toList.take xs.length = bcells xs

section
variable {w w' : World} {base : Nat} {v : Value} {xs : List UInt8}

theorem OwnB.nil (w : World) (base : Nat) : OwnB w base (.slice none 0 0) [] := ⟨.inl ⟨rfl, rfl⟩⟩

theorem OwnB.block (h : OwnB w base v xs) {g : Nat} (hg : v.ownBlock = some g) : ∃ cur fr, w.heap[g]? = some (.cells cur 5 fr) ∧ base ≤ g := by
  rcases h.form with ⟨rfl, _⟩ | ⟨g', cap, cur, fr, rfl, hb, hgg, _⟩
  · simp [Value.ownBlock] at hg
  · simp [Value.ownBlock] at hg
    subst hg
    exact ⟨cur, fr, hgg, hb⟩

theorem OwnB.lt (h : OwnB w base v xs) : ∀ k, v.ownBlock = some k → base ≤ k ∧ k < w.heap.size := by
  intro k hk
  obtain ⟨cur, fr, hc, hb⟩ := h.block hk
  exact ⟨hb, lt_of_block hc⟩

theorem OwnB.kept {row : Option Nat} (h : OwnB w base v xs) (hg : w.grownBy w' row) (hne : v.ownBlock = none ∨ v.ownBlock ≠ row) : OwnB w' base v xs := by
  refine ⟨?_⟩
  rcases h.form with hn | ⟨g, cap, cur, fr, rfl, hb, hgg, rest⟩
  · exact .inl hn
  · refine .inr ⟨g, cap, cur, fr, rfl, hb, ?_, rest⟩
    rw [hg.block g (lt_of_block hgg) (by simpa [Value.ownBlock] using hne)]
    exact hgg

theorem OwnB.alloc (h : OwnB w base v xs) (o : Obj) : OwnB (w.alloc o) base v xs :=
  h.kept (World.grownBy_alloc w o .none) (by cases hv : v.ownBlock <;> simp)
theorem OwnB.drewN (h : OwnB w base v xs) (m : Nat) : OwnB (w.drewN m) base v xs := ⟨h.form⟩
theorem OwnB.drew (h : OwnB w base v xs) : OwnB w.drew base v xs := ⟨h.form⟩
theorem OwnB.mono {base' : Nat} (h : OwnB w base v xs) (hb : base' ≤ base) : OwnB w base' v xs := by
  refine ⟨?_⟩
  rcases h.form with hn | ⟨g, cap, cur, fr, rfl, hg, rest⟩
  · exact .inl hn
  · exact .inr ⟨g, cap, cur, fr, rfl, by omega, rest⟩

/-- A row of bytes is no block of another kind. -/
theorem OwnB.ne (h : OwnB w base v xs) {rb : Nat} {cs : Array Value} {t : TypeId} {z : Nat × Nat} (hb : w.heap[rb]? = some (.cells cs t z)) (ht : t ≠ 5) : v.ownBlock ≠ some rb := by
  intro e
  obtain ⟨cur, fr, hc, _⟩ := h.block e
  rw [hb] at hc
  simp at hc
  exact ht hc.2.1

theorem OwnB.shape (h : OwnB w base v xs) : (v = .slice .none 0 0 ∧ xs = []) ∨ ∃ g cap, v = .slice (some ⟨g, 0, .none⟩) xs.length cap ∧ xs.length ≤ cap := by
  rcases h.form with hn | ⟨g, cap, cur, fr, rfl, _, _, _, hl, _⟩
  · exact .inl hn
  · exact .inr ⟨g, cap, rfl, hl⟩

/-- .. and in one form. -/
theorem OwnB.slice (h : OwnB w base v xs) : ∃ ao cap, v = .slice ao xs.length cap ∧ xs.length ≤ cap := by
  rcases h.shape with ⟨rfl, rfl⟩ | ⟨g, cap, rfl, hl⟩
  · exact ⟨.none, 0, rfl, Nat.le_refl _⟩
  · exact ⟨_, cap, rfl, hl⟩

theorem OwnB.cellAt {g n cap : Nat} (h : OwnB w base (.slice (some ⟨g, 0, .none⟩) n cap) xs) (j : Nat) (b : UInt8) (hb : xs[j]? = some b) : w.cell? ⟨g, j, .none⟩ = some (.int .u8 (b.toNat : Int)) := by
  rcases h.form with ⟨hv, _⟩ | ⟨g', cap', cur, fr, hv, _, hgg, _, _, _, _, ht⟩
  · simp at hv
  · simp at hv
    obtain ⟨rfl, rfl, rfl⟩ := hv
    have hj : j < xs.length := (List.getElem?_eq_some_iff.1 hb).1
    have h2 : (cur.toList.take xs.length)[j]? = some (.int .u8 (b.toNat : Int)) := by rw [ht, bcells_get, hb]; rfl
    rw [List.getElem?_take, if_pos hj] at h2
    simp [World.cell?, hgg]
    simpa using h2

theorem OwnB.freeAt {g n cap : Nat} (h : OwnB w base (.slice (some ⟨g, 0, .none⟩) n cap) xs) (j : Nat) (hj : j < cap) : w.frozen? ⟨g, j, .none⟩ = false := by
  rcases h.form with ⟨hv, _⟩ | ⟨g', cap', cur, fr, hv, _, hgg, hfr, _, _, hs, ht⟩
  · simp at hv
  · simp at hv
    obtain ⟨rfl, rfl, rfl⟩ := hv
    rcases hfr with rfl | rfl <;> simp [World.frozen?, hgg]
    omega

theorem ownB_of_row {e : TypeId} {n : Nat} {cs : List Value} (h : w.ownsRow base e 1 v n cs) (he : e = 5) (hc : cs = bcells xs) : OwnB w base v xs := by
  subst he hc
  have hl := h.1
  rw [bcells_length, Nat.mul_one] at hl
  subst hl
  refine ⟨?_⟩
  rcases h.2 with ⟨rfl, h0⟩ | ⟨g, cap, cur, rfl, hb, hg, hn, hm, hs, ht⟩
  · exact .inl ⟨rfl, List.eq_nil_of_length_eq_zero h0⟩
  · exact .inr ⟨g, cap, cur, (0, 0), rfl, hb, hg, .inl rfl, hn, hm, by simpa using hs, by simpa using ht⟩
end

theorem grown_drewN (w : World) (m : Nat) (row : Option Nat) : w.grownBy (w.drewN m) row := ⟨rfl, rfl, rfl, Nat.le_refl _, fun _ _ _ => rfl⟩

theorem heap_setCell_blk {w : World} {rb : Nat} {a b : Value} {t : TypeId} (h : w.heap[rb]? = some (.cells #[a, b] t (0, 0))) (u : Value) :
    (w.setCell ⟨rb, 1, none⟩ u).heap[rb]? = some (.cells #[a, u] t (0, 0)) := by
  simp [World.setCell, Array.getElem?_modify, h]

theorem grown_setCell (w : World) (rb o : Nat) (u : Value) : w.grownBy (w.setCell ⟨rb, o, none⟩ u) (some rb) :=
  ⟨rfl, rfl, rfl, by simp [World.setCell], fun k _ hk => Below.heap_setCell _ _ _ _ (by intro e; exact hk (by rw [e]))⟩

theorem grown_trans {w a b : World} {r r' : Option Nat} (h1 : w.grownBy a r) (h2 : a.grownBy b r') (hr : ∀ k, r' = some k → r = some k ∨ w.heap.size ≤ k) : w.grownBy b r :=
  ⟨h2.os.trans h1.os, h2.tape.trans h1.tape, h2.output.trans h1.output, Nat.le_trans h1.size h2.size, fun k hk hne =>
    (h2.block k (Nat.lt_of_lt_of_le hk h1.size) (fun e => by rcases hr k e.symm with h | h; exact hne h.symm; omega)).trans (h1.block k hk hne)⟩

theorem grown_setCells (g : Nat) : ∀ (vs : List Value) (o : Nat) (w : World), w.grownBy (w.setCells g o vs) (some g)
  | [], _, w => World.grownBy.refl w _
  | v :: r, o, w => grown_trans (grown_setCell w g o v) (grown_setCells g r (o + 1) _) fun _ hk => .inl hk

theorem heap_setCells (g : Nat) (t : TypeId) (fr : Nat × Nat) : ∀ (vs : List Value) (o : Nat) (w : World) (cur : Array Value), w.heap[g]? = some (.cells cur t fr) → o + vs.length ≤ cur.size →
    ∃ cur', (w.setCells g o vs).heap[g]? = some (.cells cur' t fr) ∧ cur'.size = cur.size ∧ cur'.toList.take (o + vs.length) = cur.toList.take o ++ vs
  | [], o, w, cur, hg, hl => ⟨cur, hg, rfl, by simp⟩
  | v :: r, o, w, cur, hg, hl => by
    simp only [List.length_cons] at hl
    have h1 : (w.setCell ⟨g, o, none⟩ v).heap[g]? = some (.cells (cur.setIfInBounds o v) t fr) := by simp [World.setCell, Array.getElem?_modify, hg]
    obtain ⟨cur', h2, h3, h4⟩ := heap_setCells g t fr r (o + 1) _ _ h1 (by simp; omega)
    refine ⟨cur', h2, by simpa using h3, ?_⟩
    rw [List.length_cons, show o + (r.length + 1) = o + 1 + r.length from by omega, h4, Array.toList_setIfInBounds, List.take_set, List.take_succ_eq_append_getElem (by simp; omega)]
    have hlo : (cur.toList.take o).length = o := by simp; omega
    rw [List.set_append_right (s := cur.toList.take o) o v (by omega), hlo, Nat.sub_self]
    simp


theorem info5 : (Try.prog.info? 5).map (fun i => (i.zero, i.size, i.bytes)) = some (some (.int .u8 0), 1, 1) := by kernel_rfl

/-- What is appended: nothing (a nil slice), or a slice whose cells are these bytes. -/
def SrcB (w : World) (x : Value) (news : List UInt8) : Prop :=
  (x = .slice none 0 0 ∧ news = []) ∨ ∃ ad c, x = .slice (some ad) news.length c ∧ ∀ j u, (bcells news)[j]? = some u → w.cell? (ad.add j) = some u

theorem run_append_b (w : World) (ty : TypeId) (base : Nat) (v : Value) (xs : List UInt8) (hown : OwnB w base v xs) (x : Value) (news : List UInt8) (hx : SrcB w x news)
    (hlen : (xs ++ news).length ≤ 1099511627776) (hbase : base ≤ w.heap.size) :
    ∃ v' w', (Builtin.append_ #[22, 22] ty #[v, x]).run Try.prog w = .ok v' w' ∧ OwnB w' base v' (xs ++ news) ∧ w.grownBy w' v.ownBlock ∧ (v'.ownBlock = v.ownBlock ∨ ∃ g, v'.ownBlock = some g ∧ w.heap.size ≤ g) := by
  obtain ⟨i, hi, hz, hsize, hby⟩ := info_parts info5
  have ht := Try.underlying22
  rcases hx with ⟨rfl, rfl⟩ | ⟨a, c, rfl, hnews⟩
  · refine ⟨v, w, ?_, by rw [List.append_nil]; exact hown, World.grownBy.refl w _, .inl rfl⟩
    rcases hown.shape with ⟨rfl, rfl⟩ | ⟨g, cap, rfl, hcap⟩
    · simp [Builtin.append_, run_underlying ht, sizeOf, typeInfo, hi, Builtin.lenOf, Builtin.firstCells]
    · simp [Builtin.append_, run_underlying ht, sizeOf, typeInfo, hi, Builtin.lenOf, Builtin.firstCells, hcap, storeCells]
  · rw [List.length_append] at hlen
    have hl : (bcells news).length = news.length * i.size := by rw [hsize, bcells_length, Nat.mul_one]
    have hml : xs.length + news.length ≤ maxLen := by unfold maxLen; omega
    have grown : ∀ (old : Nat) (row : Option Nat), 
        OwnB (w.drew.alloc (.cells ((bcells xs).toArray ++ (bcells news).toArray ++ Builtin.zeroCells (Value.int .u8 0).cells (grownCap w (xs.length + news.length) old 5 - (xs.length + news.length))) 5)) base
          (.slice (some ⟨w.heap.size, 0, none⟩) (xs.length + news.length) (grownCap w (xs.length + news.length) old 5)) (xs ++ news) ∧
        w.grownBy (w.drew.alloc (.cells ((bcells xs).toArray ++ (bcells news).toArray ++ Builtin.zeroCells (Value.int .u8 0).cells (grownCap w (xs.length + news.length) old 5 - (xs.length + news.length))) 5)) row := by
      intro old row
      have hge := grownCap_ge w (xs.length + news.length) old 5
      have hcm := grownCap_le_maxLen w (xs.length + news.length) old 5 hml
      refine ⟨⟨.inr ⟨w.heap.size, _, _, (0, 0), by rw [List.length_append], hbase, heap_alloc_new w.drew _, .inl rfl, by rw [List.length_append]; exact hge, hcm, ?_, ?_⟩⟩, ⟨rfl, rfl, rfl, by simp, fun k hk _ => Below.heap_alloc w.drew _ k hk⟩⟩
      · simp only [Array.size_append, List.size_toArray, size_zeroCells, bcells_length]
        simp [Value.cells]
        omega
      · simp only [Array.toList_append]
        rw [← bcells_append, ← bcells_length (xs ++ news)]
        exact List.take_left
    rcases hown.form with ⟨rfl, rfl⟩ | ⟨g, cap, cur, fr, rfl, hbg, hg, hfr, hnc, hcm, hcs, htake⟩
    · by_cases hm : news.length = 0
      · have hn : news = [] := List.eq_nil_of_length_eq_zero hm
        subst hn
        refine ⟨.slice none 0 0, w, ?_, OwnB.nil w base, World.grownBy.refl w _, .inl rfl⟩
        simp [Builtin.append_, run_underlying ht, sizeOf, typeInfo, hi, Builtin.lenOf, Builtin.firstCells, loadCells, loadCellsFrom]
      · have hr := run_append_nil (P := Try.prog) w 22 ty 5 i (.int .u8 0) ht hi hz a news.length c (bcells news) hl hnews (by omega) (by simp at hlen; omega) (by rw [hby]; simp at hlen; omega)
        have hgr := grown 0 (Value.ownBlock (.slice none 0 0))
        simp only [List.length_nil, Nat.zero_add, List.nil_append] at hgr ⊢
        rw [show (bcells []).toArray ++ (bcells news).toArray = (bcells news).toArray from by simp [bcells]] at hgr
        exact ⟨_, _, hr, hgr.1, hgr.2, .inr ⟨w.heap.size, rfl, Nat.le_refl _⟩⟩
    · have hcell : ∀ j, j < cap → (w.cell? ⟨g, j, none⟩).isSome = true := by
        intro j hj
        simp [World.cell?, hg]
        omega
      by_cases hroom : xs.length + news.length ≤ cap
      · have hr := run_append_room_cells (P := Try.prog) w 22 ty 5 i ht hi g 0 xs.length cap a news.length c (bcells news) hl hnews (bcells_one _) hroom
          (fun j hj => by rw [hsize, bcells_length] at *; exact hcell _ (by omega)) (fun j hj => by rw [hsize, bcells_length] at *; exact hown.freeAt _ (by omega))
        obtain ⟨cur', h1, h2, h3⟩ := heap_setCells g 5 fr (bcells news) (0 + xs.length * i.size) w cur hg (by rw [hsize, bcells_length]; omega)
        refine ⟨_, _, hr, ⟨.inr ⟨g, cap, cur', fr, by rw [List.length_append], hbg, h1, by rw [h2]; exact hfr, by rw [List.length_append]; exact hroom, hcm, by omega, ?_⟩⟩, grown_setCells g _ _ w, .inl rfl⟩
        rw [hsize, bcells_length, Nat.mul_one, Nat.zero_add, htake] at h3
        rw [List.length_append, bcells_append]
        exact h3
      · have hr := run_append_grow (P := Try.prog) w 22 ty 5 i (.int .u8 0) ht hi hz ⟨g, 0, none⟩ xs.length cap (bcells xs) (by rw [hsize, bcells_length, Nat.mul_one]) (fun j u hj => by
            rw [bcells_get] at hj
            obtain ⟨b, hb, rfl⟩ := Option.map_eq_some_iff.1 hj
            have hadd : (⟨g, 0, none⟩ : Addr).add j = ⟨g, j, none⟩ := by unfold Addr.add; split <;> simp_all
            rw [hadd]
            exact hown.cellAt j b hb)
          a news.length c (bcells news) hl hnews (by omega) (by omega) (growslice_fits (by omega) (by rw [hby]; omega))
        have hgr := grown cap (Value.ownBlock (.slice (some ⟨g, 0, none⟩) xs.length cap))
        exact ⟨_, _, hr, hgr.1, hgr.2, .inr ⟨w.heap.size, rfl, Nat.le_refl _⟩⟩

/-- A list that is short enough to grow (a word that the walk leaves alone). -/
def Small (l : List UInt8) : Prop := l.length ≤ 1099511627776

/-- 'append(row, bytes...)' onto a row of bytes of the call's own, the source anywhere in memory: as a law for the walk. -/
theorem wpList_append_b {w : World} {ops : Array Oper} {rest : List Oper} {o : Oper} {a : Act} {K : Exit → Act → World → Prop} (hgd : o.guard = none) (s x : Operand)
    (ho : o.op = .call { callee := .builtin .append, args := #[s, x], argTypes := #[22, 22] })
    (base : Nat) (v : Value) (xs : List UInt8) (hs : a.eval s = v) (hown : OwnB w base v xs)
    (news : List UInt8) (hx : SrcB w (a.eval x) news) (ys : List UInt8) (hy : ys = xs ++ news) (hlen : Small ys) (hbase : base ≤ w.heap.size)
    (h : ∀ v' w', OwnB w' base v' ys → w.grownBy w' v.ownBlock → (v'.ownBlock = v.ownBlock ∨ ∃ g, v'.ownBlock = some g ∧ w.heap.size ≤ g) → wpList Try.prog ops K rest (a.put o.dst v') w') : wpList Try.prog ops K (o :: rest) a w := by
  subst hy
  obtain ⟨v', w', hr, h2, h3, h4⟩ := run_append_b w o.type base v xs hown (a.eval x) news hx hlen hbase
  refine wpList_plain hgd fun J hJ => ?_
  unfold Oper.wp execOp
  simp only [ho, resolve, invoke, builtin, Sem.run_bind, Sem.run_pure, Result.andThen_ok, List.map_toArray, List.map_cons, List.map_nil, hs, hr]
  exact hJ _ _ (h v' w' h2 h3 h4)

theorem below_grown {base : Nat} {w0 w w' : World} {v : Value} {xs : List UInt8} (h : Below base w0 w) (hown : OwnB w base v xs) (hg : w.grownBy w' v.ownBlock) (hb : base ≤ w.heap.size) : Below base w0 w' :=
  h.grown hg hb fun k hk => (hown.lt k hk).1

/-- The one-element slice that the translation lays ahead of 'append(x, c)'. -/
theorem src1 {w : World} {W : World} {g : Nat} (b : UInt8) (hw : W = w.alloc (.cells #[.int .u8 (b.toNat : Int)] 5)) (hg : g = w.heap.size) : SrcB W (.slice (some ⟨g, 0, none⟩) 1 1) [b] := by
  subst hw hg
  exact .inr ⟨_, 1, rfl, fun j u hu => cell_one_new w _ 5 j u hu⟩

theorem SrcB.drew {w : World} {x : Value} {l : List UInt8} (h : SrcB w x l) : SrcB w.drew x l := h
theorem src1d {w : World} {W : World} {g : Nat} (b : UInt8) (hw : W = (w.alloc (.cells #[.int .u8 (b.toNat : Int)] 5)).drew) (hg : g = w.heap.size) : SrcB W (.slice (some ⟨g, 0, none⟩) 1 1) [b] := by
  subst hw
  exact (src1 b rfl hg).drew

theorem src2 {w : World} {W : World} {g : Nat} (a b : UInt8) (hw : W = w.alloc (.cells #[.int .u8 (a.toNat : Int), .int .u8 (b.toNat : Int)] 5)) (hg : g = w.heap.size) : SrcB W (.slice (some ⟨g, 0, none⟩) 2 2) [a, b] := by
  subst hw hg
  exact .inr ⟨_, 2, rfl, fun j u hu => cell_two_new w _ _ 5 j u hu⟩

theorem below_drewN {B : Nat} {a w : World} (h : Below B a w) (n : Nat) : Below B a (w.drewN n) := h.trans ⟨rfl, rfl, rfl, Nat.le_refl _, fun _ _ => rfl⟩

/-- A call that builds a row of bytes of its own: nothing that was there has turned. -/
structure BI (w wr : World) (v : Value) (xs : List UInt8) : Prop where
  own : OwnB wr w.heap.size v xs
  bel : Below w.heap.size w wr

section
variable {w wr w' : World} {v v' : Value} {xs ys : List UInt8}
theorem BI.start (w : World) : BI w w (.slice none 0 0) [] := ⟨OwnB.nil _ _, Below.refl _ _⟩
theorem BI.size (h : BI w wr v xs) : w.heap.size ≤ wr.heap.size := h.bel.size
theorem BI.alloc (h : BI w wr v xs) (o : Obj) : BI w (wr.alloc o) v xs := ⟨h.own.alloc o, h.bel.alloc h.size o⟩
theorem BI.drewN (h : BI w wr v xs) (m : Nat) : BI w (wr.drewN m) v xs := ⟨h.own.drewN m, below_drewN h.bel m⟩
theorem BI.drew (h : BI w wr v xs) : BI w wr.drew v xs := ⟨h.own.drew, h.bel.drew⟩
theorem BI.appended (h : BI w wr v xs) (ho : OwnB w' w.heap.size v' ys) (hg : wr.grownBy w' v.ownBlock) : BI w w' v' ys := ⟨ho, below_grown h.bel h.own hg h.size⟩
theorem BI.called {zs : List UInt8} (h : BI w wr v xs) (ho : OwnB w' w.heap.size v' zs) (hb : Below w.heap.size wr w') (hz : ys = zs) : BI w w' v' ys := ⟨hz ▸ ho, h.bel.trans hb⟩
theorem BI.own0 (h : BI w wr v xs) : OwnB wr 0 v xs := h.own.mono (Nat.zero_le _)
end

theorem SrcB.below {w w' : World} {x : Value} {l : List UInt8} (h : SrcB w x l) (hb : Below w.heap.size w w') : SrcB w' x l := by
  rcases h with h | ⟨ad, c, rfl, hc⟩
  · exact .inl h
  · exact .inr ⟨ad, c, rfl, fun j u hu => by
      have h1 := hc j u hu
      rw [hb.cell (World.block_lt_of_cell? w _ h1)]
      exact h1⟩

/-- A slice of bytes that came in, as bytes. -/
theorem src_of_row {w : World} {a : Option Addr} {len cap : Nat} {zs : List Int} (h : (a = none ∧ len = 0 ∧ cap = 0 ∧ zs = []) ∨
    ∃ x, a = some x ∧ len ≤ cap ∧ cap ≤ maxLen ∧ zs.length = cap ∧ (∀ i, i < zs.length → w.cell? (x.add i) = some (.int .u8 (zs.getD i 0))) ∧ ∀ n ∈ zs, (Lit.int .u8 n).wf = true) :
    len ≤ maxLen ∧ ∃ tail : List UInt8, tail.length = len ∧ SrcB w (.slice a len cap) tail := by
  rcases h with ⟨rfl, rfl, rfl, rfl⟩ | ⟨x, rfl, hl, hm, hz, hc, hw⟩
  · exact ⟨Nat.zero_le _, [], rfl, .inl ⟨rfl, rfl⟩⟩
  · refine ⟨by omega, (zs.take len).map fun n => UInt8.ofNat n.toNat, by simp; omega, .inr ⟨x, cap, by simp; omega, fun j u hu => ?_⟩⟩
    simp only [bcells, List.map_map, List.getElem?_map, Option.map_eq_some_iff] at hu
    obtain ⟨n, hn, rfl⟩ := hu
    rw [List.getElem?_take] at hn
    split at hn
    · rename_i hj
      have hj2 : j < zs.length := by omega
      have hn' : zs[j] = n := by rw [List.getElem?_eq_getElem hj2] at hn; exact Option.some.inj hn
      have hb := bounds_u8 (hw n (by rw [← hn']; exact List.getElem_mem hj2))
      rw [hc j hj2]
      have e1 : zs.getD j 0 = n := by simp [List.getD, List.getElem?_eq_getElem hj2, hn']
      rw [e1]
      have e2 : ((UInt8.ofNat n.toNat).toNat : Int) = n := by
        rw [UInt8.toNat_ofNat']
        omega
      show some (Value.int .u8 n) = some (Value.int .u8 ((UInt8.ofNat n.toNat).toNat : Int))
      rw [e2]
    · cases hn


theorem OwnB.below {W w' : World} {base : Nat} {v : Value} {xs : List UInt8} (h : OwnB W base v xs) (hb : Below W.heap.size W w') : OwnB w' base v xs :=
  h.kept (row := none) ⟨hb.os, hb.tape, hb.output, hb.size, fun k hk _ => hb.block k hk⟩ (by cases hv : v.ownBlock <;> simp)

/-- 'make([]byte, 0, n)'. -/
theorem wpList_make0_b (w : World) {ops : Array Oper} {rest : List Oper} {o : Oper} {a : Act} {K : Exit → Act → World → Prop}
    (hg : o.guard = none) (l c : Operand) (hop : o.op = Op.makeSlice 22 l c) (L : Int) (n : Nat) (hl : a.eval l = .int .i64 0) (hc : a.eval c = .int .i64 L) (hL : L = (n : Int)) (hn : n ≤ 4294967296)
    (hK : ∀ v' w', BI w w' v' [] → wpList Try.prog ops K rest (a.put o.dst v') w') :
    wpList Try.prog ops K (o :: rest) a w := by
  obtain ⟨i, hi, hz, hsize, hby⟩ := info_parts info5
  refine wpList_make_own w hg l c 22 hop w.heap.size 5 i (.int .u8 0) 1 Try.underlying22 hi hz hsize .i64 .i64 L n hl hc hL (by rw [hby]; omega) (by unfold maxLen; omega) (Nat.le_refl _) ?_
  intro w' ho hgr
  exact hK _ w' ⟨ownB_of_row ho rfl rfl, (Below.refl _ _).grown hgr (Nat.le_refl _) (fun k hk => by cases hk)⟩

theorem bLower {B C : Nat} {a b : World} (h : Below B a b) (hc : C ≤ B) : Below C a b := ⟨h.os, h.tape, h.output, h.size, fun k hk => h.block k (by omega)⟩

/-- A new row of n bytes, as 'make' lays it. -/
structure NewB (w0 w : World) (g n : Nat) : Prop where
  ex : ∃ cur : List Value, w.heap[g]? = some (.cells cur.toArray 5 (0, 0)) ∧ cur.length = n
  bel : Below w0.heap.size w0 w
  ge : w0.heap.size ≤ g

theorem wpList_make_n (w : World) {ops : Array Oper} {rest : List Oper} {o : Oper} {a : Act} {K : Exit → Act → World → Prop}
    (hg : o.guard = none) (l : Operand) (hop : o.op = Op.makeSlice 22 l l) (L : Int) (n : Nat) (hl : a.eval l = .int .i64 L) (hL : L = (n : Int)) (hn : n ≤ 4294967296)
    (hK : ∀ g w', NewB w w' g n → wpList Try.prog ops K rest (a.put o.dst (.slice (some ⟨g, 0, none⟩) n n)) w') :
    wpList Try.prog ops K (o :: rest) a w := by
  obtain ⟨i, hi, hz, hsize, hby⟩ := info_parts info5
  refine wpList_make_full w hg l l 22 hop w.heap.size 5 i (.int .u8 0) 1 Try.underlying22 hi hz hsize .i64 .i64 L L n hl hl hL hL (by rw [hby]; omega) (by unfold maxLen; omega) (Nat.le_refl _) ?_
  intro w' ho hgr
  refine hK _ w' ⟨?_, (Below.refl _ _).grown hgr (Nat.le_refl _) (fun k hk => by cases hk), Nat.le_refl _⟩
  rcases ho.2 with ⟨hv, _⟩ | ⟨g, cap, cur, hv, hb, hgg, _, _, hs, _⟩
  · simp at hv
  · simp at hv
    obtain ⟨rfl, rfl⟩ := hv
    exact ⟨cur.toList, by simpa using hgg, by simpa using hs⟩

theorem splice_all {α : Type} (L cs : List α) (h : cs.length = L.length) : splice L 0 cs = cs := by
  unfold splice
  simp [h]

theorem wpList_copy_n {w0 w : World} {ops : Array Oper} {rest : List Oper} {o : Oper} {a : Act} {K : Exit → Act → World → Prop} (hgd : o.guard = none) (d s : Operand)
    (ho : o.op = .call { callee := .builtin .copy, args := #[d, s], argTypes := #[22, 22] }) (g n : Nat) (hN : NewB w0 w g n) (hd : a.eval d = .slice (some ⟨g, 0, none⟩) n n)
    (news : List UInt8) (hs : SrcB w (a.eval s) news) (hn : news.length = n) (hm : n ≤ 4294967296)
    (h : ∀ w', OwnB w' w0.heap.size (.slice (some ⟨g, 0, none⟩) n n) news → Below w0.heap.size w0 w' → wpList Try.prog ops K rest (a.put o.dst (goInt (n : Int))) w') : wpList Try.prog ops K (o :: rest) a w := by
  subst hn
  obtain ⟨⟨cur, hg, hcl⟩, hbel, hge⟩ := hN
  have hsz : (Try.prog.info? 5).map (·.size) = some 1 := by
    obtain ⟨i, hi, hz, hsize, hby⟩ := info_parts info5
    rw [hi]; simp [hsize]
  have hcl2 : (bcells news).length = cur.length := by rw [bcells_length, hcl]
  have fin : ∀ w', Hid (w'.heap[g]? = some (.cells (splice cur 0 (bcells news)).toArray 5 (0, 0))) → OwnB w' w0.heap.size (.slice (some ⟨g, 0, none⟩) news.length news.length) news := by
    intro w' hw'
    refine ⟨.inr ⟨g, news.length, (bcells news).toArray, (0, 0), rfl, hge, ?_, .inl rfl, Nat.le_refl _, by unfold maxLen; omega, by simp [bcells_length], ?_⟩⟩
    · have := hw'.out
      rw [splice_all _ _ hcl2] at this
      exact this
    · exact List.take_of_length_le (by rw [bcells_length]; exact Nat.le_refl _)
  rcases hs with ⟨he, rfl⟩ | ⟨ad, c, he, hc⟩
  · refine wpList_copy_splice hgd d s 22 22 ho 5 Try.underlying22 hsz _ _ _ _ _ _ hd he g 0 cur 5 hg (bcells []) (by simp [bcells]) (fun h0 => by simp [bcells] at h0) (by rw [hcl2]; omega) (bcells_one _) w0.heap.size w0 hbel hge ?_
    intro w' hw' hb
    exact h w' (fin w' hw') hb
  · refine wpList_copy_splice hgd d s 22 22 ho 5 Try.underlying22 hsz _ _ _ _ _ _ hd he g 0 cur 5 hg (bcells news) (by rw [bcells_length]; simp) (fun _ => ⟨rfl, ad, rfl, hc⟩) (by rw [hcl2]; omega) (bcells_one _) w0.heap.size w0 hbel hge ?_
    intro w' hw' hb
    have := h w' (fin w' hw') hb
    rw [bcells_length]
    exact this


end Go.Proofs.Qxb6601699a
