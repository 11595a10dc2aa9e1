import Derived.Test.Qxb6601633aRow
namespace Go.Proofs.Qxb6601633a
open Go.RowKit

theorem OwnB.addr {w : World} {base k n cap : Nat} {ao : Option Addr} {xs : List UInt8} (h : OwnB w base (.slice ao n cap) xs) (hk : k < xs.length) : ∃ g, ao = some ⟨g, 0, none⟩ := by
  rcases h.shape with ⟨_, hx⟩ | ⟨g, c, hv, _⟩
  · subst hx; simp at hk
  · simp at hv; exact ⟨g, hv.1⟩

set_option maxHeartbeats 1000000 in
theorem beq_any {w : World} {b1 b2 : Nat} {vx vy : Value} {xs : List UInt8} (hx : OwnB w b1 vx xs) (hy : OwnB w b2 vy xs) (hl : xs.length ≤ 4294967296) :
    Calls Try.prog 15 #[vx, vy] w fun e w' => e = .returned (.bool true) ∧ Below w.heap.size w w' := by
  obtain ⟨ao, cap, rfl, _⟩ := hx.slice
  obtain ⟨bo, cap', rfl, _⟩ := hy.slice
  obtain ⟨n, hn⟩ : ∃ n, n = xs.length := ⟨_, rfl⟩
  have HN : Hid (n = xs.length) := hn
  rw [← hn] at hl hx hy ⊢
  clear hn
  go_enter Try.func15, Try.ntmps15
  go_wp2
  go_loopw [5] (fun i wr => ∃ (k m : Nat), k ≤ n ∧ i = .int .i64 (k : Int) ∧ wr = w.drewN m) (fun i _ => n - (intOf i).toNat)
  case atStart => exact ⟨0, 0, Nat.zero_le _, rfl, rfl⟩
  case round =>
    obtain ⟨k, m, hk, rfl, hw⟩ := hrel
    have HW : Hid (wr = w.drewN m) := hw
    clear hw
    by_cases hlt : k < n
    · have hkx : k < xs.length := by rw [← HN.out]; exact hlt
      obtain ⟨g, rfl⟩ := hx.addr hkx
      obtain ⟨g', rfl⟩ := hy.addr hkx
      have c1 : wr.cell? ⟨g, k, none⟩ = some (.int .u8 (xs[k].toNat : Int)) := by rw [HW.out]; exact (hx.drewN m).cellAt k _ (List.getElem?_eq_getElem hkx)
      have c2 : wr.cell? ⟨g', k, none⟩ = some (.int .u8 (xs[k].toNat : Int)) := by rw [HW.out]; exact (hy.drewN m).cellAt k _ (List.getElem?_eq_getElem hkx)
      obtain ⟨z, hz⟩ : ∃ z, z = xs[k] := ⟨_, rfl⟩
      rw [← hz] at c1 c2
      clear hz hx hy hkx
      have q1 : (0 : Int) ≤ (k : Int) := by omega
      have q2 : (k : Int) < (n : Int) := by omega
      go_wp2
      go_quiet (fail)
      go_wp2
      go_roundw
      case rel => exact ⟨k + 1, m + nq, by omega, by go_num, by rw [HW.out, World.drewN_drewN]⟩
      case measure => simp [intOf]; omega
    · clear hx hy
      go_wp2
      go_ret
      exact ⟨rfl, by rw [HW.out]; exact below_drewN (Below.refl _ _) m⟩

end Go.Proofs.Qxb6601633a
