import Derived.Test.Qxb6601523aReader
import Derived.Test.Qxb6601523aQuote
import Derived.Deep.RegionLaw
namespace Go.Proofs.Qxb6601523a
open Go.RowKit

theorem drop_head {ds : List UInt8} {p : Nat} {c : UInt8} {r : List UInt8} (h : ds.drop p = c :: r) : p < ds.length ∧ ds[p]? = some c ∧ ds.drop (p + 1) = r := by
  have hp : p < ds.length := by
    rcases Nat.lt_or_ge p ds.length with h1 | h1
    · exact h1
    · rw [List.drop_eq_nil_of_le h1] at h; simp at h
  rw [List.drop_eq_getElem_cons hp] at h
  simp only [List.cons.injEq] at h
  exact ⟨hp, by rw [List.getElem?_eq_getElem hp, h.1], h.2⟩

theorem head_at {ds : List UInt8} {p : Nat} {r : List UInt8} (h : ds.drop p = r) : ds[p]? = r.head? := by
  subst h; simp

theorem at_plain {ds : List UInt8} {p : Nat} {c : UInt8} {r : List UInt8} (h : ds.drop p = c :: r) (hc : c ≠ 13 ∨ r.head? ≠ some 10) :
    peekC ds p = c ∧ nextP ds p = p + 1 ∧ p < ds.length ∧ ds.drop (p + 1) = r := by
  obtain ⟨h1, h2, h3⟩ := drop_head h
  have hn : ¬ (ds[p]? = some 13 ∧ ds[p + 1]? = some 10) := by
    rintro ⟨a, b⟩
    rw [h2] at a
    rw [head_at h3] at b
    rcases hc with hc | hc
    · exact hc (Option.some.inj a)
    · exact hc b
  exact ⟨by unfold peekC; rw [if_neg hn, h2]; rfl, by unfold nextP; rw [if_neg hn, if_pos h1], h1, h3⟩

theorem at_crlf {ds : List UInt8} {p : Nat} {r : List UInt8} (h : ds.drop p = 13 :: 10 :: r) :
    peekC ds p = 10 ∧ nextP ds p = p + 2 ∧ p < ds.length ∧ ds.drop (p + 2) = r := by
  obtain ⟨h1, h2, h3⟩ := drop_head h
  obtain ⟨h4, h5, h6⟩ := drop_head h3
  have hn : ds[p]? = some 13 ∧ ds[p + 1]? = some 10 := ⟨h2, h5⟩
  exact ⟨by unfold peekC; rw [if_pos hn], by unfold nextP; rw [if_pos hn], h1, h6⟩

theorem u8_le (b : UInt8) : (b.toNat : Int) ≤ 255 := by have := b.toNat_lt; omega
theorem u8_inj {a b : UInt8} (h : (a.toNat : Int) = (b.toNat : Int)) : a = b := UInt8.toNat_inj.1 (by omega)

/-- Two calls by the unit that is met. -/
theorem peek_at {w : World} {rb : Nat} {dv : Value} {ds : List UInt8} {p : Nat} (h : Rd w rb dv ds p) (hn : ds.length ≤ 4294967296) (z : Int) (hz : ((peekC ds p).toNat : Int) = z) (hp : p < ds.length) :
    Calls Try.prog 29 #[.pointer (some ⟨rb, 0, none⟩)] w fun e w' => e = .returned (.tuple #[.int .u8 z, .bool true]) ∧ w.grownBy w' (some rb) ∧ Rd w' rb dv ds p := by
  subst hz
  have := peek_rd h hn
  rw [decide_eq_true hp] at this
  exact this.mono fun _ _ ⟨a, b, c, _⟩ => ⟨a, b, c⟩

theorem next_at {w : World} {rb : Nat} {dv : Value} {ds : List UInt8} {p : Nat} (h : Rd w rb dv ds p) (hn : ds.length ≤ 4294967296) (z : Int) (hz : ((peekC ds p).toNat : Int) = z) (hp : p < ds.length) (q : Nat) (hq : nextP ds p = q) :
    Calls Try.prog 30 #[.pointer (some ⟨rb, 0, none⟩)] w fun e w' => e = .returned (.tuple #[.int .u8 z, .bool true]) ∧ w.grownBy w' (some rb) ∧ Rd w' rb dv ds q := by
  subst hz hq
  have := next_rd h hn
  rw [decide_eq_true hp] at this
  exact this.mono fun _ _ ⟨a, b, c, _⟩ => ⟨a, b, c⟩

/-- A call that reads on and gathers bytes: the reader, the row that it gathers, and that all else is as it was. -/
structure VI (w wr : World) (rb : Nat) (dv : Value) (ds : List UInt8) (p : Nat) (vv : Value) (vals : List UInt8) : Prop where
  rd : Rd wr rb dv ds p
  own : OwnB wr w.heap.size vv vals
  gr : w.grownBy wr (some rb)
  rlt : rb < w.heap.size
  dlt : ∀ g, dv.ownBlock = some g → g < w.heap.size

theorem VI.start {w : World} {rb : Nat} {dv : Value} {ds : List UInt8} {p : Nat} (h : Rd w rb dv ds p) : VI w w rb dv ds p (.slice none 0 0) [] :=
  ⟨h, OwnB.nil _ _, World.grownBy.refl w _, h.lt, fun g hg => (h.own.lt g hg).2⟩

theorem VI.moved {w wr w' : World} {rb : Nat} {dv : Value} {ds : List UInt8} {p q : Nat} {vv : Value} {vals : List UInt8} (h : VI w wr rb dv ds p vv vals) (hg : wr.grownBy w' (some rb)) (hr : Rd w' rb dv ds q) : VI w w' rb dv ds q vv vals :=
  ⟨hr, h.own.kept hg (.inr (h.own.ne h.rd.blk (by decide))), grown_trans h.gr hg (fun _ hk => .inl hk), h.rlt, h.dlt⟩

theorem VI.alloc {w wr : World} {rb : Nat} {dv : Value} {ds : List UInt8} {p : Nat} {vv : Value} {vals : List UInt8} (h : VI w wr rb dv ds p vv vals) (o : Obj) : VI w (wr.alloc o) rb dv ds p vv vals :=
  ⟨h.rd.keep (World.grownBy_alloc wr o none) (by simp) (by cases hv : dv.ownBlock <;> simp), h.own.alloc o, grown_trans h.gr (World.grownBy_alloc wr o none) (by simp), h.rlt, h.dlt⟩

theorem VI.drewN {w wr : World} {rb : Nat} {dv : Value} {ds : List UInt8} {p : Nat} {vv : Value} {vals : List UInt8} (h : VI w wr rb dv ds p vv vals) (m : Nat) : VI w (wr.drewN m) rb dv ds p vv vals :=
  ⟨h.rd.drewN m, h.own.drewN m, grown_trans h.gr (grown_drewN wr m none) (by simp), h.rlt, h.dlt⟩

theorem VI.appended {w wr w' : World} {rb : Nat} {dv : Value} {ds : List UInt8} {p : Nat} {vv v' : Value} {vals ys : List UInt8} (h : VI w wr rb dv ds p vv vals) (ho : OwnB w' w.heap.size v' ys) (hg : wr.grownBy w' vv.ownBlock) : VI w w' rb dv ds p v' ys := by
  refine ⟨h.rd.keep hg ?_ ?_, ho, grown_trans h.gr hg (fun k hk => .inr (h.own.lt k hk).1), h.rlt, h.dlt⟩
  · intro e
    have := (h.own.lt rb e.symm).1
    have := h.rlt
    omega
  · cases hv : dv.ownBlock with
    | none => exact .inl rfl
    | some g =>
      refine .inr fun e => ?_
      have h1 := (h.own.lt g e.symm).1
      have h2 := h.dlt g hv
      omega

theorem VI.size {w wr : World} {rb : Nat} {dv : Value} {ds : List UInt8} {p : Nat} {vv : Value} {vals : List UInt8} (h : VI w wr rb dv ds p vv vals) : w.heap.size ≤ wr.heap.size := h.gr.size

/-- 'append(row, nil...)' as one step of a region that draws: nothing turns. -/
theorem step_append_nil {ops : Array Oper} {o : Oper} {a : Act} {w : World} {K : Act → World → Prop} {R : Exit → Act → World → Prop} {E : Prop}
    (hg : o.guard = none) (s x : Operand) (hop : o.op = Op.call { callee := Callee.builtin Builtin.append, args := #[s, x], argTypes := #[22, 22] })
    (base : Nat) (v : Value) (xs : List UInt8) (hs : a.eval s = v) (hown : OwnB w base v xs) (hx : a.eval x = .slice none 0 0)
    (hK : K (a.put o.dst v) w) :
    if Region.wanted o (yielded ops a.tmps) = true then Oper.wp Try.prog o a w K R else E := by
  have hw : Region.wanted o (yielded ops a.tmps) = true := by simp [Region.wanted, hg]
  rw [if_pos hw]
  obtain ⟨i, hi, hz, hsize, hby⟩ := info_parts info5
  have ht := Try.underlying22
  have hrun : (Builtin.append_ #[22, 22] o.type #[v, .slice none 0 0]).run Try.prog w = .ok v w := by
    rcases hown.shape with ⟨rfl, rfl⟩ | ⟨g, cap, rfl, hcap⟩
    · simp [Builtin.append_, run_underlying ht, sizeOf, typeInfo, hi, Builtin.lenOf, Builtin.firstCells]
    · simp [Builtin.append_, run_underlying ht, sizeOf, typeInfo, hi, Builtin.lenOf, Builtin.firstCells, hcap, storeCells]
  unfold Oper.wp
  simp [execOp, hop, resolve, invoke, builtin, hs, hx, hrun, Result.andThen]
  exact hK

end Go.Proofs.Qxb6601523a
