import Derived.Test.Qxb6601523aValue
namespace Go.Proofs.Qxb6601523a
open Go.RowKit

theorem Rd.fresh {w : World} {dv : Value} {ds : List UInt8} (h : OwnB w 0 dv ds) (p : Nat) : Rd (w.alloc (.cells #[dv, .int .i64 (p : Int)] 41)) w.heap.size dv ds p :=
  ⟨by show (w.heap.push _)[w.heap.size]? = _; simp, h.alloc _⟩

theorem drop_len {ds E : List UInt8} {q : Nat} (h : ds.drop q = E) (hE : (∃ t, E = 10 :: t) ∨ ∃ t, E = 13 :: 10 :: t) : q + E.length = ds.length := by
  have h1 : ds.length - q = E.length := by rw [← h]; simp
  have h2 : 0 < E.length := by rcases hE with ⟨t, rfl⟩ | ⟨t, rfl⟩ <;> simp
  omega

theorem below_of_grown {w w1 : World} {o : Obj} {rb : Nat} (h : (w.alloc o).grownBy w1 (some rb)) (hr : rb = w.heap.size) : Below w.heap.size w w1 :=
  ((Below.refl _ w).alloc (Nat.le_refl _) o).grown h (by simp) (fun k hk => by cases hk; omega)

set_option maxHeartbeats 400000 in
theorem zzvalue_rt {w : World} {dv : Value} {ds : List UInt8} (s after E bs : List UInt8) (h : OwnB w 0 dv ds) (hn : ds.length ≤ 4294967296) (hsl : s.length ≤ 1048576)
    (hbs : ∀ b ∈ bs, b = 32 ∨ b = 9) (hd : ds = bs ++ 34 :: (Q s ++ 34 :: after)) (hE : (∃ t, E = 10 :: t) ∨ ∃ t, E = 13 :: 10 :: t)
    (haf : after = E ∨ ∃ cm, after = 32 :: 59 :: (cm ++ E) ∧ ∀ b ∈ cm, b ≠ 10 ∧ b ≠ 13) (n : Nat) (hq : n + E.length = ds.length) :
    Calls Try.prog 11 #[dv, .int .i64 0] w fun e w' => e = .returned (.tuple #[.string ⟨s.toArray⟩, .bool true, .int .i64 (n : Int)]) ∧ Below w.heap.size w w' := by
  obtain ⟨ao, cap, rfl, _⟩ := h.slice
  have HV : Hid (∀ w1, w1 = w.alloc (.cells #[.slice ao ds.length cap, .int .i64 0] 41) → Calls Try.prog 24 #[.pointer (some ⟨w.heap.size, 0, none⟩)] w1 fun e w' => e = .returned (.tuple #[.string ⟨s.toArray⟩, .bool true]) ∧ Below w.heap.size w w' ∧ w'.cell? ⟨w.heap.size, 1, none⟩ = some (.int .i64 (n : Int))) := by
    rintro w1 rfl
    refine (value_rt s after E bs (Rd.fresh h 0) hn hsl hbs hd hE haf).mono ?_
    rintro e w' ⟨he, hg, q, hr, hdq⟩
    have hl := drop_len hdq hE
    obtain rfl : q = n := by omega
    exact ⟨he, below_of_grown hg rfl, hr.cell1⟩
  clear hbs hd hE haf hq hsl hn h
  go_enter Try.func11, Try.ntmps11
  go_wp2_with fail
  refine (HV.out _ rfl).mono ?_
  rintro e w1 ⟨rfl, hb, hc⟩
  go_wp2
  go_quiet (fail)
  go_wp2
  go_ret3
  exact ⟨rfl, below_drewN hb _⟩

end Go.Proofs.Qxb6601523a
