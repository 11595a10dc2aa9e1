import Derived.Test.Qxb6601523aProg
import Derived.Test.Qxb6601523aBase
namespace Go.Proofs.Qxb6601523a
open Go.RowKit

theorem info5 : (Try.prog.info? 5).map (fun i => (i.zero, i.size, i.bytes)) = some (some (.int .u8 0), 1, 1) := by kernel_rfl

/-- What is appended: nothing (a nil slice), or a slice whose cells are these bytes. -/
def SrcB (w : World) (x : Value) (news : List UInt8) : Prop :=
  (x = .slice none 0 0 ∧ news = []) ∨ ∃ ad c, x = .slice (some ad) news.length c ∧ ∀ j u, (bcells news)[j]? = some u → w.cell? (ad.add j) = some u

theorem run_append_b (w : World) (ty : TypeId) (base : Nat) (v : Value) (xs : List UInt8) (hown : OwnB w base v xs) (x : Value) (news : List UInt8) (hx : SrcB w x news)
    (hlen : (xs ++ news).length ≤ 1099511627776) (hbase : base ≤ w.heap.size) :
    ∃ v' w', (Builtin.append_ #[22, 22] ty #[v, x]).run Try.prog w = .ok v' w' ∧ OwnB w' base v' (xs ++ news) ∧ w.grownBy w' v.ownBlock ∧ (v'.ownBlock = v.ownBlock ∨ ∃ g, v'.ownBlock = some g ∧ w.heap.size ≤ g) := by
  obtain ⟨i, hi, hz, hsize, hby⟩ := info_parts info5
  have ht := Try.underlying22
  rcases hx with ⟨rfl, rfl⟩ | ⟨a, c, rfl, hnews⟩
  · refine ⟨v, w, ?_, by rw [List.append_nil]; exact hown, World.grownBy.refl w _, .inl rfl⟩
    rcases hown.shape with ⟨rfl, rfl⟩ | ⟨g, cap, rfl, hcap⟩
    · simp [Builtin.append_, run_underlying ht, sizeOf, typeInfo, hi, Builtin.lenOf, Builtin.firstCells]
    · simp [Builtin.append_, run_underlying ht, sizeOf, typeInfo, hi, Builtin.lenOf, Builtin.firstCells, hcap, storeCells]
  · rw [List.length_append] at hlen
    have hl : (bcells news).length = news.length * i.size := by rw [hsize, bcells_length, Nat.mul_one]
    have hml : xs.length + news.length ≤ maxLen := by unfold maxLen; omega
    have grown : ∀ (old : Nat) (row : Option Nat), 
        OwnB (w.drew.alloc (.cells ((bcells xs).toArray ++ (bcells news).toArray ++ Builtin.zeroCells (Value.int .u8 0).cells (grownCap w (xs.length + news.length) old 5 - (xs.length + news.length))) 5)) base
          (.slice (some ⟨w.heap.size, 0, none⟩) (xs.length + news.length) (grownCap w (xs.length + news.length) old 5)) (xs ++ news) ∧
        w.grownBy (w.drew.alloc (.cells ((bcells xs).toArray ++ (bcells news).toArray ++ Builtin.zeroCells (Value.int .u8 0).cells (grownCap w (xs.length + news.length) old 5 - (xs.length + news.length))) 5)) row := by
      intro old row
      have hge := grownCap_ge w (xs.length + news.length) old 5
      have hcm := grownCap_le_maxLen w (xs.length + news.length) old 5 hml
      refine ⟨⟨.inr ⟨w.heap.size, _, _, (0, 0), by rw [List.length_append], hbase, heap_alloc_new w.drew _, .inl rfl, by rw [List.length_append]; exact hge, hcm, ?_, ?_⟩⟩, ⟨rfl, rfl, rfl, by simp, fun k hk _ => Below.heap_alloc w.drew _ k hk⟩⟩
      · simp only [Array.size_append, List.size_toArray, size_zeroCells, bcells_length]
        simp [Value.cells]
        omega
      · simp only [Array.toList_append]
        rw [← bcells_append, ← bcells_length (xs ++ news)]
        exact List.take_left
    rcases hown.form with ⟨rfl, rfl⟩ | ⟨g, cap, cur, fr, rfl, hbg, hg, hfr, hnc, hcm, hcs, htake⟩
    · by_cases hm : news.length = 0
      · have hn : news = [] := List.eq_nil_of_length_eq_zero hm
        subst hn
        refine ⟨.slice none 0 0, w, ?_, OwnB.nil w base, World.grownBy.refl w _, .inl rfl⟩
        simp [Builtin.append_, run_underlying ht, sizeOf, typeInfo, hi, Builtin.lenOf, Builtin.firstCells, loadCells, loadCellsFrom]
      · have hr := run_append_nil (P := Try.prog) w 22 ty 5 i (.int .u8 0) ht hi hz a news.length c (bcells news) hl hnews (by omega) (by simp at hlen; omega) (by rw [hby]; simp at hlen; omega)
        have hgr := grown 0 (Value.ownBlock (.slice none 0 0))
        simp only [List.length_nil, Nat.zero_add, List.nil_append] at hgr ⊢
        rw [show (bcells []).toArray ++ (bcells news).toArray = (bcells news).toArray from by simp [bcells]] at hgr
        exact ⟨_, _, hr, hgr.1, hgr.2, .inr ⟨w.heap.size, rfl, Nat.le_refl _⟩⟩
    · have hcell : ∀ j, j < cap → (w.cell? ⟨g, j, none⟩).isSome = true := by
        intro j hj
        simp [World.cell?, hg]
        omega
      by_cases hroom : xs.length + news.length ≤ cap
      · have hr := run_append_room_cells (P := Try.prog) w 22 ty 5 i ht hi g 0 xs.length cap a news.length c (bcells news) hl hnews (bcells_one _) hroom
          (fun j hj => by rw [hsize, bcells_length] at *; exact hcell _ (by omega)) (fun j hj => by rw [hsize, bcells_length] at *; exact hown.freeAt _ (by omega))
        obtain ⟨cur', h1, h2, h3⟩ := heap_setCells g 5 fr (bcells news) (0 + xs.length * i.size) w cur hg (by rw [hsize, bcells_length]; omega)
        refine ⟨_, _, hr, ⟨.inr ⟨g, cap, cur', fr, by rw [List.length_append], hbg, h1, by rw [h2]; exact hfr, by rw [List.length_append]; exact hroom, hcm, by omega, ?_⟩⟩, grown_setCells g _ _ w, .inl rfl⟩
        rw [hsize, bcells_length, Nat.mul_one, Nat.zero_add, htake] at h3
        rw [List.length_append, bcells_append]
        exact h3
      · have hr := run_append_grow (P := Try.prog) w 22 ty 5 i (.int .u8 0) ht hi hz ⟨g, 0, none⟩ xs.length cap (bcells xs) (by rw [hsize, bcells_length, Nat.mul_one]) (fun j u hj => by
            rw [bcells_get] at hj
            obtain ⟨b, hb, rfl⟩ := Option.map_eq_some_iff.1 hj
            have hadd : (⟨g, 0, none⟩ : Addr).add j = ⟨g, j, none⟩ := by unfold Addr.add; split <;> simp_all
            rw [hadd]
            exact hown.cellAt j b hb)
          a news.length c (bcells news) hl hnews (by omega) (by omega) (growslice_fits (by omega) (by rw [hby]; omega))
        have hgr := grown cap (Value.ownBlock (.slice (some ⟨g, 0, none⟩) xs.length cap))
        exact ⟨_, _, hr, hgr.1, hgr.2, .inr ⟨w.heap.size, rfl, Nat.le_refl _⟩⟩

/-- A list that is short enough to grow (a word that the walk leaves alone). -/
def Small (l : List UInt8) : Prop := l.length ≤ 1099511627776

/-- 'append(row, bytes...)' onto a row of bytes of the call's own, the source anywhere in memory: as a law for the walk. -/
theorem wpList_append_b {w : World} {ops : Array Oper} {rest : List Oper} {o : Oper} {a : Act} {K : Exit → Act → World → Prop} (hgd : o.guard = none) (s x : Operand)
    (ho : o.op = .call { callee := .builtin .append, args := #[s, x], argTypes := #[22, 22] })
    (base : Nat) (v : Value) (xs : List UInt8) (hs : a.eval s = v) (hown : OwnB w base v xs)
    (news : List UInt8) (hx : SrcB w (a.eval x) news) (ys : List UInt8) (hy : ys = xs ++ news) (hlen : Small ys) (hbase : base ≤ w.heap.size)
    (h : ∀ v' w', OwnB w' base v' ys → w.grownBy w' v.ownBlock → (v'.ownBlock = v.ownBlock ∨ ∃ g, v'.ownBlock = some g ∧ w.heap.size ≤ g) → wpList Try.prog ops K rest (a.put o.dst v') w') : wpList Try.prog ops K (o :: rest) a w := by
  subst hy
  obtain ⟨v', w', hr, h2, h3, h4⟩ := run_append_b w o.type base v xs hown (a.eval x) news hx hlen hbase
  refine wpList_plain hgd fun J hJ => ?_
  unfold Oper.wp execOp
  simp only [ho, resolve, invoke, builtin, Sem.run_bind, Sem.run_pure, Result.andThen_ok, List.map_toArray, List.map_cons, List.map_nil, hs, hr]
  exact hJ _ _ (h v' w' h2 h3 h4)

theorem below_grown {base : Nat} {w0 w w' : World} {v : Value} {xs : List UInt8} (h : Below base w0 w) (hown : OwnB w base v xs) (hg : w.grownBy w' v.ownBlock) (hb : base ≤ w.heap.size) : Below base w0 w' :=
  h.grown hg hb fun k hk => (hown.lt k hk).1

/-- The one-element slice that the translation lays ahead of 'append(x, c)'. -/
theorem src1 {w : World} {W : World} {g : Nat} (b : UInt8) (hw : W = w.alloc (.cells #[.int .u8 (b.toNat : Int)] 5)) (hg : g = w.heap.size) : SrcB W (.slice (some ⟨g, 0, none⟩) 1 1) [b] := by
  subst hw hg
  exact .inr ⟨_, 1, rfl, fun j u hu => cell_one_new w _ 5 j u hu⟩

theorem SrcB.drew {w : World} {x : Value} {l : List UInt8} (h : SrcB w x l) : SrcB w.drew x l := h
theorem src1d {w : World} {W : World} {g : Nat} (b : UInt8) (hw : W = (w.alloc (.cells #[.int .u8 (b.toNat : Int)] 5)).drew) (hg : g = w.heap.size) : SrcB W (.slice (some ⟨g, 0, none⟩) 1 1) [b] := by
  subst hw
  exact (src1 b rfl hg).drew

theorem src2 {w : World} {W : World} {g : Nat} (a b : UInt8) (hw : W = w.alloc (.cells #[.int .u8 (a.toNat : Int), .int .u8 (b.toNat : Int)] 5)) (hg : g = w.heap.size) : SrcB W (.slice (some ⟨g, 0, none⟩) 2 2) [a, b] := by
  subst hw hg
  exact .inr ⟨_, 2, rfl, fun j u hu => cell_two_new w _ _ 5 j u hu⟩

/-- 'string(row)'. -/
theorem run_str (w : World) (base : Nat) (v : Value) (xs : List UInt8) (h : OwnB w base v xs) : (convert 22 9 v).run Try.prog w = .ok (.string ⟨xs.toArray⟩) w := by
  rcases h.shape with ⟨rfl, rfl⟩ | ⟨g, cap, rfl, _⟩
  · rw [run_convert_bytes_string w 22 9 5 none 0 0 Try.underlying22 Try.underlying5 Try.underlying9]
    simp [Conv.bytesToString]
    rfl
  · refine run_convert_bytes_back w 22 9 5 ⟨g, 0, none⟩ cap xs Try.underlying22 Try.underlying5 Try.underlying9 (fun j hj => ?_)
    have hadd : (⟨g, 0, none⟩ : Addr).add j = ⟨g, j, none⟩ := by unfold Addr.add; split <;> simp_all
    rw [hadd]
    exact h.cellAt j _ (List.getElem?_eq_getElem hj)

end Go.Proofs.Qxb6601523a
