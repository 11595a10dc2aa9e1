import Derived.Test.Qxb6601633aShelf
import Derived.Test.Qxb6601633aPlain
import Derived.WalkSpells
import Derived.WalkLawsBesides
import Derived.BigQuiet
namespace Go.Proofs.Qxb6601633a
open Go.RowKit

theorem info39 : ∃ j, Try.prog.info? 39 = some j := by
  have h : (Try.prog.info? 39).isSome = true := by kernel_rfl
  exact Option.isSome_iff_exists.1 h
theorem info5 : (Try.prog.info? 5).map (fun i => (i.zero, i.size, i.bytes)) = some (some (.int .u8 0), 1, 1) := by kernel_rfl

theorem copyCheck_used (b : Nat) (w : World) (h0 : w.cell? ⟨b, 0, none⟩ = some (.pointer (some ⟨b, 0, none⟩))) :
    Calls Try.prog 41 #[.pointer (some ⟨b, 0, none⟩)] w fun e w' => e = .returned (.tuple #[]) ∧ w = w' := by
  obtain ⟨j, hj⟩ := info39
  go_enter Try.func41, Try.ntmps41
  go_wp2
  rw [Lib.run_neq_ptr_same w _ Try.underlying37 hj]
  go_wp2
  go_end0
  exact ⟨rfl, rfl⟩

/-- A used builder that holds the bytes acc, in block b. -/
structure Bd (B b : Nat) (acc : List UInt8) (w : World) : Prop where
  at' : Lib.BuilderAt 39 5 B b (.pointer (some ⟨b, 0, none⟩)) (Lib.byteCells acc) w
  le : B ≤ w.heap.size

theorem bc_append (a : List UInt8) (c : UInt8) : Lib.byteCells (a ++ [c]) = Lib.byteCells a ++ [.int .u8 (c.toNat : Int)] := by simp [Lib.byteCells]
theorem bc_length (a : List UInt8) : (Lib.byteCells a).length = a.length := by simp [Lib.byteCells]

set_option maxHeartbeats 1000000 in
theorem writeByte_used {B b : Nat} {acc : List UInt8} {w : World} (h : Bd B b acc w) (c : UInt8) (hlen : acc.length ≤ 1099511627776) :
    Calls Try.prog 34 #[.pointer (some ⟨b, 0, none⟩), .int .u8 (c.toNat : Int)] w fun e w' => e = .returned .nilIface ∧ Bd B b (acc ++ [c]) w' ∧ Below B w w' := by
  obtain ⟨i0, hi, hz0, hz1, hz2⟩ := info_parts info5
  obtain ⟨hB, v, hbk, hown, hne⟩ := h.at'
  have hBw := h.le
  have c0 : w.cell? ⟨b, 0, none⟩ = some (.pointer (some ⟨b, 0, none⟩)) := by rw [Lib.cell_of_heap hbk]; rfl
  have c1 : w.cell? ⟨b, 1, none⟩ = some v := by rw [Lib.cell_of_heap hbk]; rfl
  clear h
  go_enter Try.func34, Try.ntmps34
  go_wp2_with fail
  refine (copyCheck_used b _ c0).mono ?_
  rintro e w1 ⟨rfl, rfl⟩
  go_wp2_with (at_builtin; refine wpList_append_own _ rfl _ _ 27 rfl B 5 i0 (.int .u8 0) 1 1 Try.underlying27 hi hz0 hz1 hz2 rfl (by decide) _ _ _ rfl (hown.alloc _) ⟨w.heap.size, 0, none⟩ 1 1 [.int .u8 (c.toNat : Int)] rfl rfl ?c1 ?c2 ?c3 ?c4 ?c5 ?_)
  case c1 => exact cell_one_new w _ 5
  case c2 => intro u hu; simp at hu; subst hu; rfl
  case c3 => have := bc_length acc; unfold maxLen; omega
  case c4 => have := bc_length acc; omega
  case c5 => simp; omega
  intro v' w2 hown' hgrow _
  have hlt : b < w.heap.size := lt_of_block hbk
  have hb2 : w2.heap[b]? = some (.cells #[.pointer (some ⟨b, 0, none⟩), v] 39 (0, 0)) := by
    rw [hgrow.block b (by simp; omega) (fun e => hne e.symm), Below.heap_alloc _ _ _ hlt]
    exact hbk
  have d1 : w2.cell? ⟨b, 1, none⟩ = some v := by rw [Lib.cell_of_heap hb2]; rfl
  have f1 : w2.frozen? ⟨b, 1, none⟩ = false := Lib.frozen_of_heap hb2 1
  obtain ⟨g, cap, rfl⟩ : ∃ g cap, v' = .slice (some ⟨g, 0, none⟩) ((Lib.byteCells acc).length + 1) cap := by
    rcases hown'.2 with ⟨_, h0⟩ | ⟨g, cap, cur, hv, _⟩
    · omega
    · exact ⟨g, cap, hv⟩
  go_wp2
  go_ret
  have hsz := hgrow.size
  refine ⟨rfl, ⟨?_, ?_⟩, ?_⟩
  · rw [bc_append]
    exact Lib.BuilderAt.put (T := 39) (e := 5) hB hb2 (bs' := Lib.byteCells acc ++ [.int .u8 (c.toNat : Int)]) (by simpa using hown') (by decide)
  · simp [World.setCell] at hsz ⊢
    omega
  · exact (((Below.refl B w).alloc hBw _).grown hgrow (by simp; omega) (fun k hk => (hown.lt k hk).1)).setCell (p := ⟨b, 1, none⟩) hB _

end Go.Proofs.Qxb6601633a
