import Derived.Test.Qxb6601523aHeader
import Derived.Test.Qxb6601523aZZValue
namespace Go.Proofs.Qxb6601523a
open Go.RowKit

set_option maxHeartbeats 1000000 in
theorem zzheader_any {w : World} {dv : Value} {ds : List UInt8} (h : OwnB w 0 dv ds) (hn : ds.length ≤ 4294967296) (p : Nat) (us : List (UInt8 × Nat)) (hu : IsU ds p us) (R : HR) (hR : hdrName us [] p = R) :
    Calls Try.prog 14 #[dv, .int .i64 (p : Int)] w fun e w' => e = .returned (.tuple #[.agg #[.string ⟨R.name.toArray⟩, .string ⟨R.sub.toArray⟩, .bool R.has], .bool R.ok, .int .i64 (R.pos : Int)]) ∧ Below w.heap.size w w' := by
  obtain ⟨ao, cap, rfl, _⟩ := h.slice
  obtain ⟨W, hW⟩ : ∃ W, W = w.alloc (.cells #[.string ⟨#[]⟩, .string ⟨#[]⟩, .bool false] 29) := ⟨_, rfl⟩
  have hWs : W.heap.size = w.heap.size + 1 := by rw [hW]; simp
  have HV : Hid (∀ w1, w1 = W.alloc (.cells #[.slice ao ds.length cap, .int .i64 (p : Int)] 41) → Calls Try.prog 25 #[.pointer (some ⟨w.heap.size + 1, 0, none⟩)] w1 fun e w' => e = .returned (.tuple #[.agg #[.string ⟨R.name.toArray⟩, .string ⟨R.sub.toArray⟩, .bool R.has], .bool R.ok]) ∧
      Below w.heap.size w w' ∧ w'.cell? ⟨w.heap.size + 1, 1, none⟩ = some (.int .i64 (R.pos : Int)) ∧ w'.heap[w.heap.size]? = some (.cells #[.string ⟨#[]⟩, .string ⟨#[]⟩, .bool false] 29 (0, 0)) ∧ w.heap.size + 1 < w'.heap.size) := by
    rintro w1 rfl
    have hr := Rd.fresh (w := W) (by rw [hW]; exact h.alloc _) p
    rw [hWs] at hr
    refine (header_any hr hn us hu R hR).mono ?_
    rintro e w' ⟨he, hg, hr'⟩
    refine ⟨he, ?_, hr'.cell1, ?_, ?_⟩
    · have h1 : Below w.heap.size w (W.alloc (.cells #[.slice ao ds.length cap, .int .i64 (p : Int)] 41)) := by
        rw [hW]; exact ((Below.refl _ w).alloc (Nat.le_refl _) _).alloc (by simp) _
      exact h1.grown hg (by simp; omega) (fun k hk => by cases hk; omega)
    · rw [hg.block w.heap.size (by simp; omega) (by simp)]
      rw [Below.heap_alloc _ _ _ (by omega), hW]
      show (w.heap.push _)[w.heap.size]? = _
      simp
    · have := hg.size
      simp at this
      omega
  clear hu hR h hWs
  go_enter Try.func14, Try.ntmps14
  go_wp2_with fail
  rw [← hW]
  refine (HV.out _ rfl).mono ?_
  rintro e w1 ⟨rfl, hb, hc, hblk, hsz⟩
  clear HV hW
  have hB : ∀ o : Obj, Below w1.heap.size w1 (w1.alloc o) := fun o => (Below.refl _ w1).alloc (Nat.le_refl _) o
  have c0 : ∀ o, (w1.alloc o).cell? ⟨w.heap.size, 0, none⟩ = some (.string ⟨#[]⟩) := fun o => by rw [(hB o).cell (by show w.heap.size < _; omega)]; simp [World.cell?, hblk]
  have c1 : ∀ o, (w1.alloc o).cell? ⟨w.heap.size, 1, none⟩ = some (.string ⟨#[]⟩) := fun o => by rw [(hB o).cell (by show w.heap.size < _; omega)]; simp [World.cell?, hblk]
  have c2 : ∀ o, (w1.alloc o).cell? ⟨w.heap.size, 2, none⟩ = some (.bool false) := fun o => by rw [(hB o).cell (by show w.heap.size < _; omega)]; simp [World.cell?, hblk]
  have f0 : ∀ o, (w1.alloc o).frozen? ⟨w.heap.size, 0, none⟩ = false := fun o => by rw [(hB o).frozen (by show w.heap.size < _; omega)]; simp [World.frozen?, hblk]
  have f1 : ∀ o, (w1.alloc o).frozen? ⟨w.heap.size, 1, none⟩ = false := fun o => by rw [(hB o).frozen (by show w.heap.size < _; omega)]; simp [World.frozen?, hblk]
  have f2 : ∀ o, (w1.alloc o).frozen? ⟨w.heap.size, 2, none⟩ = false := fun o => by rw [(hB o).frozen (by show w.heap.size < _; omega)]; simp [World.frozen?, hblk]
  have hcp : ∀ o, (w1.alloc o).cell? ⟨w.heap.size + 1, 1, none⟩ = some (.int .i64 (R.pos : Int)) := fun o => by rw [(hB o).cell (by show w.heap.size + 1 < _; omega)]; exact hc
  clear hblk hB hc
  have hb2 : ∀ o, Below w.heap.size w (w1.alloc o) := fun o => hb.alloc hb.size o
  go_wp2
  go_region
  all_goals go_wp2
  all_goals
    refine bodyPost_ret (v := .tuple #[.agg #[.string ⟨R.name.toArray⟩, .string ⟨R.sub.toArray⟩, .bool R.has], .bool R.ok, .int .i64 (R.pos : Int)]) (by simp [results, Try.results14, go_sem, c0, c1, c2]) rfl ⟨rfl, ?_⟩
    exact ((((hb2 _).setCell (p := ⟨w.heap.size, 0, none⟩) (Nat.le_refl _) _).setCell (p := ⟨w.heap.size, 1, none⟩) (Nat.le_refl _) _).setCell (p := ⟨w.heap.size, 2, none⟩) (Nat.le_refl _) _).drew

end Go.Proofs.Qxb6601523a
