import Derived.Test.Qxb6601523aLaws
import Derived.OpenShut
namespace Go.Proofs.Qxb6601523a
open Go.RowKit

/-- A call that builds a row of bytes of its own: nothing that was there has turned. -/
structure BI (w wr : World) (v : Value) (xs : List UInt8) : Prop where
  own : OwnB wr w.heap.size v xs
  bel : Below w.heap.size w wr

section
variable {w wr w' : World} {v v' : Value} {xs ys : List UInt8}
theorem BI.start (w : World) : BI w w (.slice none 0 0) [] := ⟨OwnB.nil _ _, Below.refl _ _⟩
theorem BI.size (h : BI w wr v xs) : w.heap.size ≤ wr.heap.size := h.bel.size
theorem BI.alloc (h : BI w wr v xs) (o : Obj) : BI w (wr.alloc o) v xs := ⟨h.own.alloc o, h.bel.alloc h.size o⟩
theorem BI.drewN (h : BI w wr v xs) (m : Nat) : BI w (wr.drewN m) v xs := ⟨h.own.drewN m, below_drewN h.bel m⟩
theorem BI.drew (h : BI w wr v xs) : BI w wr.drew v xs := ⟨h.own.drew, h.bel.drew⟩
theorem BI.appended (h : BI w wr v xs) (ho : OwnB w' w.heap.size v' ys) (hg : wr.grownBy w' v.ownBlock) : BI w w' v' ys := ⟨ho, below_grown h.bel h.own hg h.size⟩
theorem BI.called {zs : List UInt8} (h : BI w wr v xs) (ho : OwnB w' w.heap.size v' zs) (hb : Below w.heap.size wr w') (hz : ys = zs) : BI w w' v' ys := ⟨hz ▸ ho, h.bel.trans hb⟩
theorem BI.own0 (h : BI w wr v xs) : OwnB wr 0 v xs := h.own.mono (Nat.zero_le _)
end

theorem SrcB.below {w w' : World} {x : Value} {l : List UInt8} (h : SrcB w x l) (hb : Below w.heap.size w w') : SrcB w' x l := by
  rcases h with h | ⟨ad, c, rfl, hc⟩
  · exact .inl h
  · exact .inr ⟨ad, c, rfl, fun j u hu => by
      have h1 := hc j u hu
      rw [hb.cell (World.block_lt_of_cell? w _ h1)]
      exact h1⟩

theorem src6 {w : World} {W : World} {g : Nat} (a b c d e f : UInt8) (hw : W = w.alloc (.cells #[.int .u8 (a.toNat : Int), .int .u8 (b.toNat : Int), .int .u8 (c.toNat : Int), .int .u8 (d.toNat : Int), .int .u8 (e.toNat : Int), .int .u8 (f.toNat : Int)] 5)) (hg : g = w.heap.size) :
    SrcB W (.slice (some ⟨g, 0, none⟩) 6 6) [a, b, c, d, e, f] := by
  subst hw hg
  refine .inr ⟨_, 6, rfl, fun j u hu => ?_⟩
  have hadd : (⟨w.heap.size, 0, none⟩ : Addr).add j = ⟨w.heap.size, j, none⟩ := by unfold Addr.add; split <;> simp_all
  rw [hadd, World.cell?_alloc_mark, ← hu]
  simp [bcells]

/-- A slice of bytes that came in, as bytes. -/
theorem src_of_row {w : World} {a : Option Addr} {len cap : Nat} {zs : List Int} (h : (a = none ∧ len = 0 ∧ cap = 0 ∧ zs = []) ∨
    ∃ x, a = some x ∧ len ≤ cap ∧ cap ≤ maxLen ∧ zs.length = cap ∧ (∀ i, i < zs.length → w.cell? (x.add i) = some (.int .u8 (zs.getD i 0))) ∧ ∀ n ∈ zs, (Lit.int .u8 n).wf = true) :
    len ≤ maxLen ∧ ∃ tail : List UInt8, tail.length = len ∧ SrcB w (.slice a len cap) tail := by
  rcases h with ⟨rfl, rfl, rfl, rfl⟩ | ⟨x, rfl, hl, hm, hz, hc, hw⟩
  · exact ⟨Nat.zero_le _, [], rfl, .inl ⟨rfl, rfl⟩⟩
  · refine ⟨by omega, (zs.take len).map fun n => UInt8.ofNat n.toNat, by simp; omega, .inr ⟨x, cap, by simp; omega, fun j u hu => ?_⟩⟩
    simp only [bcells, List.map_map, List.getElem?_map, Option.map_eq_some_iff] at hu
    obtain ⟨n, hn, rfl⟩ := hu
    rw [List.getElem?_take] at hn
    split at hn
    · rename_i hj
      have hj2 : j < zs.length := by omega
      have hn' : zs[j] = n := by rw [List.getElem?_eq_getElem hj2] at hn; exact Option.some.inj hn
      have hb := bounds_u8 (hw n (by rw [← hn']; exact List.getElem_mem hj2))
      rw [hc j hj2]
      have e1 : zs.getD j 0 = n := by simp [List.getD, List.getElem?_eq_getElem hj2, hn']
      rw [e1]
      have e2 : ((UInt8.ofNat n.toNat).toNat : Int) = n := by
        rw [UInt8.toNat_ofNat']
        omega
      show some (Value.int .u8 n) = some (Value.int .u8 ((UInt8.ofNat n.toNat).toNat : Int))
      rw [e2]
    · cases hn

end Go.Proofs.Qxb6601523a
