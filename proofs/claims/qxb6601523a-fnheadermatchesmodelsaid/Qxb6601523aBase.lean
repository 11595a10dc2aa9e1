import Derived.WalkKit
import Derived.WalkSpells
import Derived.WalkLawsBesides
import Derived.Laws.IdiomStrings
namespace Go.Proofs.Qxb6601523a
open Go.RowKit

/-- The cells of a row of bytes. -/
def bcells (l : List UInt8) : List Value := l.map fun b => Value.int .u8 (b.toNat : Int)
theorem bcells_length (l : List UInt8) : (bcells l).length = l.length := by simp [bcells]
theorem bcells_append (a b : List UInt8) : bcells (a ++ b) = bcells a ++ bcells b := by simp [bcells]
theorem bcells_get (l : List UInt8) (j : Nat) : (bcells l)[j]? = l[j]?.map fun b => Value.int .u8 (b.toNat : Int) := by simp [bcells]
theorem bcells_one (l : List UInt8) : ∀ u ∈ bcells l, u.oneCell' = true := by
  intro u hu
  simp only [bcells, List.mem_map] at hu
  obtain ⟨b, _, rfl⟩ := hu
  rfl

/-- A slice value that owns a row of bytes, from its head on: nil, or a block of bytes of which no cell is frozen. -/
structure OwnB (w : World) (base : Nat) (v : Value) (xs : List UInt8) : Prop where
  form : (v = .slice none 0 0 ∧ xs = []) ∨ ∃ g cap cur fr, v = .slice (some ⟨g, 0, none⟩) xs.length cap ∧ base ≤ g ∧ w.heap[g]? = some (.cells cur 5 fr) ∧
    (fr = (0, 0) ∨ fr = (cur.size, cur.size + 1)) ∧ xs.length ≤ cap ∧ cap ≤ maxLen ∧ cur.size = cap ∧ cur.toList.take xs.length = bcells xs

section
variable {w w' : World} {base : Nat} {v : Value} {xs : List UInt8}

theorem OwnB.nil (w : World) (base : Nat) : OwnB w base (.slice none 0 0) [] := ⟨.inl ⟨rfl, rfl⟩⟩

theorem OwnB.block (h : OwnB w base v xs) {g : Nat} (hg : v.ownBlock = some g) : ∃ cur fr, w.heap[g]? = some (.cells cur 5 fr) ∧ base ≤ g := by
  rcases h.form with ⟨rfl, _⟩ | ⟨g', cap, cur, fr, rfl, hb, hgg, _⟩
  · simp [Value.ownBlock] at hg
  · simp [Value.ownBlock] at hg
    subst hg
    exact ⟨cur, fr, hgg, hb⟩

theorem OwnB.lt (h : OwnB w base v xs) : ∀ k, v.ownBlock = some k → base ≤ k ∧ k < w.heap.size := by
  intro k hk
  obtain ⟨cur, fr, hc, hb⟩ := h.block hk
  exact ⟨hb, lt_of_block hc⟩

theorem OwnB.kept {row : Option Nat} (h : OwnB w base v xs) (hg : w.grownBy w' row) (hne : v.ownBlock = none ∨ v.ownBlock ≠ row) : OwnB w' base v xs := by
  refine ⟨?_⟩
  rcases h.form with hn | ⟨g, cap, cur, fr, rfl, hb, hgg, rest⟩
  · exact .inl hn
  · refine .inr ⟨g, cap, cur, fr, rfl, hb, ?_, rest⟩
    rw [hg.block g (lt_of_block hgg) (by simpa [Value.ownBlock] using hne)]
    exact hgg

theorem OwnB.alloc (h : OwnB w base v xs) (o : Obj) : OwnB (w.alloc o) base v xs :=
  h.kept (World.grownBy_alloc w o .none) (by cases hv : v.ownBlock <;> simp)
theorem OwnB.drewN (h : OwnB w base v xs) (m : Nat) : OwnB (w.drewN m) base v xs := ⟨h.form⟩
theorem OwnB.drew (h : OwnB w base v xs) : OwnB w.drew base v xs := ⟨h.form⟩
theorem OwnB.mono {base' : Nat} (h : OwnB w base v xs) (hb : base' ≤ base) : OwnB w base' v xs := by
  refine ⟨?_⟩
  rcases h.form with hn | ⟨g, cap, cur, fr, rfl, hg, rest⟩
  · exact .inl hn
  · exact .inr ⟨g, cap, cur, fr, rfl, by omega, rest⟩

/-- A row of bytes is no block of another kind. -/
theorem OwnB.ne (h : OwnB w base v xs) {rb : Nat} {cs : Array Value} {t : TypeId} {z : Nat × Nat} (hb : w.heap[rb]? = some (.cells cs t z)) (ht : t ≠ 5) : v.ownBlock ≠ some rb := by
  intro e
  obtain ⟨cur, fr, hc, _⟩ := h.block e
  rw [hb] at hc
  simp at hc
  exact ht hc.2.1

theorem OwnB.shape (h : OwnB w base v xs) : (v = .slice .none 0 0 ∧ xs = []) ∨ ∃ g cap, v = .slice (some ⟨g, 0, .none⟩) xs.length cap ∧ xs.length ≤ cap := by
  rcases h.form with hn | ⟨g, cap, cur, fr, rfl, _, _, _, hl, _⟩
  · exact .inl hn
  · exact .inr ⟨g, cap, rfl, hl⟩

/-- .. and in one form. -/
theorem OwnB.slice (h : OwnB w base v xs) : ∃ ao cap, v = .slice ao xs.length cap ∧ xs.length ≤ cap := by
  rcases h.shape with ⟨rfl, rfl⟩ | ⟨g, cap, rfl, hl⟩
  · exact ⟨.none, 0, rfl, Nat.le_refl _⟩
  · exact ⟨_, cap, rfl, hl⟩

theorem OwnB.cellAt {g n cap : Nat} (h : OwnB w base (.slice (some ⟨g, 0, .none⟩) n cap) xs) (j : Nat) (b : UInt8) (hb : xs[j]? = some b) : w.cell? ⟨g, j, .none⟩ = some (.int .u8 (b.toNat : Int)) := by
  rcases h.form with ⟨hv, _⟩ | ⟨g', cap', cur, fr, hv, _, hgg, _, _, _, _, ht⟩
  · simp at hv
  · simp at hv
    obtain ⟨rfl, rfl, rfl⟩ := hv
    have hj : j < xs.length := (List.getElem?_eq_some_iff.1 hb).1
    have h2 : (cur.toList.take xs.length)[j]? = some (.int .u8 (b.toNat : Int)) := by rw [ht, bcells_get, hb]; rfl
    rw [List.getElem?_take, if_pos hj] at h2
    simp [World.cell?, hgg]
    simpa using h2

theorem OwnB.freeAt {g n cap : Nat} (h : OwnB w base (.slice (some ⟨g, 0, .none⟩) n cap) xs) (j : Nat) (hj : j < cap) : w.frozen? ⟨g, j, .none⟩ = false := by
  rcases h.form with ⟨hv, _⟩ | ⟨g', cap', cur, fr, hv, _, hgg, hfr, _, _, hs, ht⟩
  · simp at hv
  · simp at hv
    obtain ⟨rfl, rfl, rfl⟩ := hv
    rcases hfr with rfl | rfl <;> simp [World.frozen?, hgg]
    omega

theorem ownB_of_row {e : TypeId} {n : Nat} {cs : List Value} (h : w.ownsRow base e 1 v n cs) (he : e = 5) (hc : cs = bcells xs) : OwnB w base v xs := by
  subst he hc
  have hl := h.1
  rw [bcells_length, Nat.mul_one] at hl
  subst hl
  refine ⟨?_⟩
  rcases h.2 with ⟨rfl, h0⟩ | ⟨g, cap, cur, rfl, hb, hg, hn, hm, hs, ht⟩
  · exact .inl ⟨rfl, List.eq_nil_of_length_eq_zero h0⟩
  · exact .inr ⟨g, cap, cur, (0, 0), rfl, hb, hg, .inl rfl, hn, hm, by simpa using hs, by simpa using ht⟩
end

/-- What the reader's next unit is: a carriage return before a line feed reads as the line feed. -/
def peekC (ds : List UInt8) (p : Nat) : UInt8 :=
  if ds[p]? = some 13 ∧ ds[p + 1]? = some 10 then 10 else (ds[p]?).getD 0
/-- Where the reader stands behind it. -/
def nextP (ds : List UInt8) (p : Nat) : Nat :=
  if ds[p]? = some 13 ∧ ds[p + 1]? = some 10 then p + 2 else if p < ds.length then p + 1 else p

/-- A reader in memory: its two fields, its data. -/
structure Rd (w : World) (rb : Nat) (dv : Value) (ds : List UInt8) (p : Nat) : Prop where
  blk : w.heap[rb]? = some (.cells #[dv, .int .i64 (p : Int)] 41 (0, 0))
  own : OwnB w 0 dv ds

theorem Rd.ne {w : World} {rb : Nat} {dv : Value} {ds : List UInt8} {p : Nat} (h : Rd w rb dv ds p) : dv.ownBlock ≠ some rb :=
  h.own.ne h.blk (by decide)

theorem Rd.cell0 {w : World} {rb : Nat} {dv : Value} {ds : List UInt8} {p : Nat} (h : Rd w rb dv ds p) : w.cell? ⟨rb, 0, none⟩ = some dv := by simp [World.cell?, h.blk]
theorem Rd.cell1 {w : World} {rb : Nat} {dv : Value} {ds : List UInt8} {p : Nat} (h : Rd w rb dv ds p) : w.cell? ⟨rb, 1, none⟩ = some (.int .i64 (p : Int)) := by simp [World.cell?, h.blk]
theorem Rd.free1 {w : World} {rb : Nat} {dv : Value} {ds : List UInt8} {p : Nat} (h : Rd w rb dv ds p) : w.frozen? ⟨rb, 1, none⟩ = false := by simp [World.frozen?, h.blk]
theorem Rd.lt {w : World} {rb : Nat} {dv : Value} {ds : List UInt8} {p : Nat} (h : Rd w rb dv ds p) : rb < w.heap.size := lt_of_block h.blk

theorem Rd.keep {w w' : World} {rb : Nat} {dv : Value} {ds : List UInt8} {p : Nat} {row : Option Nat} (h : Rd w rb dv ds p) (hg : w.grownBy w' row) (h1 : some rb ≠ row) (h2 : dv.ownBlock = none ∨ dv.ownBlock ≠ row) : Rd w' rb dv ds p :=
  ⟨(hg.block rb h.lt h1).trans h.blk, h.own.kept hg h2⟩

theorem Rd.drewN {w : World} {rb : Nat} {dv : Value} {ds : List UInt8} {p : Nat} (h : Rd w rb dv ds p) (m : Nat) : Rd (w.drewN m) rb dv ds p := ⟨h.blk, h.own.drewN m⟩

theorem grown_drewN (w : World) (m : Nat) (row : Option Nat) : w.grownBy (w.drewN m) row := ⟨rfl, rfl, rfl, Nat.le_refl _, fun _ _ _ => rfl⟩

theorem heap_setCell_blk {w : World} {rb : Nat} {a b : Value} {t : TypeId} (h : w.heap[rb]? = some (.cells #[a, b] t (0, 0))) (u : Value) :
    (w.setCell ⟨rb, 1, none⟩ u).heap[rb]? = some (.cells #[a, u] t (0, 0)) := by
  simp [World.setCell, Array.getElem?_modify, h]

theorem grown_setCell (w : World) (rb o : Nat) (u : Value) : w.grownBy (w.setCell ⟨rb, o, none⟩ u) (some rb) :=
  ⟨rfl, rfl, rfl, by simp [World.setCell], fun k _ hk => Below.heap_setCell _ _ _ _ (by intro e; exact hk (by rw [e]))⟩

theorem grown_trans {w a b : World} {r r' : Option Nat} (h1 : w.grownBy a r) (h2 : a.grownBy b r') (hr : ∀ k, r' = some k → r = some k ∨ w.heap.size ≤ k) : w.grownBy b r :=
  ⟨h2.os.trans h1.os, h2.tape.trans h1.tape, h2.output.trans h1.output, Nat.le_trans h1.size h2.size, fun k hk hne =>
    (h2.block k (Nat.lt_of_lt_of_le hk h1.size) (fun e => by rcases hr k e.symm with h | h; exact hne h.symm; omega)).trans (h1.block k hk hne)⟩

theorem grown_setCells (g : Nat) : ∀ (vs : List Value) (o : Nat) (w : World), w.grownBy (w.setCells g o vs) (some g)
  | [], _, w => World.grownBy.refl w _
  | v :: r, o, w => grown_trans (grown_setCell w g o v) (grown_setCells g r (o + 1) _) fun _ hk => .inl hk

theorem heap_setCells (g : Nat) (t : TypeId) (fr : Nat × Nat) : ∀ (vs : List Value) (o : Nat) (w : World) (cur : Array Value), w.heap[g]? = some (.cells cur t fr) → o + vs.length ≤ cur.size →
    ∃ cur', (w.setCells g o vs).heap[g]? = some (.cells cur' t fr) ∧ cur'.size = cur.size ∧ cur'.toList.take (o + vs.length) = cur.toList.take o ++ vs
  | [], o, w, cur, hg, hl => ⟨cur, hg, rfl, by simp⟩
  | v :: r, o, w, cur, hg, hl => by
    simp only [List.length_cons] at hl
    have h1 : (w.setCell ⟨g, o, none⟩ v).heap[g]? = some (.cells (cur.setIfInBounds o v) t fr) := by simp [World.setCell, Array.getElem?_modify, hg]
    obtain ⟨cur', h2, h3, h4⟩ := heap_setCells g t fr r (o + 1) _ _ h1 (by simp; omega)
    refine ⟨cur', h2, by simpa using h3, ?_⟩
    rw [List.length_cons, show o + (r.length + 1) = o + 1 + r.length from by omega, h4, Array.toList_setIfInBounds, List.take_set, List.take_succ_eq_append_getElem (by simp; omega)]
    have hlo : (cur.toList.take o).length = o := by simp; omega
    rw [List.set_append_right (s := cur.toList.take o) o v (by omega), hlo, Nat.sub_self]
    simp

theorem Rd.step {w : World} {rb : Nat} {dv : Value} {ds : List UInt8} {p : Nat} (h : Rd w rb dv ds p) (q : Nat) : Rd (w.setCell ⟨rb, 1, none⟩ (.int .i64 (q : Int))) rb dv ds q :=
  ⟨heap_setCell_blk h.blk _, h.own.kept (grown_setCell w rb 1 _) (.inr h.ne)⟩

/-- The data's cell, as the walk asks it. -/
theorem Rd.cellAt {w : World} {rb g n cap : Nat} {ds : List UInt8} {p : Nat} (h : Rd w rb (.slice (some ⟨g, 0, none⟩) n cap) ds p) (j : Nat) (b : UInt8) (hb : ds[j]? = some b) :
    w.cell? ⟨g, j, none⟩ = some (.int .u8 (b.toNat : Int)) := h.own.cellAt j b hb

/-- The data's value: nil (then there are none), or a row. -/
theorem Rd.shape {w : World} {rb : Nat} {dv : Value} {ds : List UInt8} {p : Nat} (h : Rd w rb dv ds p) :
    (dv = .slice none 0 0 ∧ ds = []) ∨ ∃ g cap, dv = .slice (some ⟨g, 0, none⟩) ds.length cap := by
  rcases h.own.shape with h1 | ⟨g, cap, h1, _⟩
  · exact .inl h1
  · exact .inr ⟨g, cap, h1⟩

end Go.Proofs.Qxb6601523a
