import Derived.Test.Qxb6601699aRow
import Derived.Test.Qxb6601699aPlain
namespace Go.Proofs.Qxb6601699a
open Go.RowKit

theorem u8_ne' {b k : UInt8} {n : Int} (h : b ≠ k) (e : (k.toNat : Int) = n) : ((b.toNat : Int) == n) = false := by
  subst e
  simp only [beq_eq_false_iff_ne, ne_eq, Int.natCast_inj]
  intro e
  exact h (UInt8.toNat_inj.1 e)
theorem ret2 {a x : Int} {b y : Bool} (h1 : a = x) (h2 : b = y) : Ending.returned (.tuple #[.int .i64 a, .bool b]) = .returned (.tuple #[.int .i64 x, .bool y]) := by rw [h1, h2]
theorem take_snoc {l : List UInt8} {k : Nat} (hk : k < l.length) : l.take (k + 1) = l.take k ++ [l[k]] := List.take_succ_eq_append_getElem hk
theorem fold_snoc {l : List UInt8} {k : Nat} (hk : k < l.length) : fold 0 (l.take (k + 1)) = fold 0 (l.take k) * 10 + dv l[k] := by rw [take_snoc hk, fold_append]; rfl

/-- The cells of a slice, from any place of its block on. -/
def CellsAt (w : World) (g o : Nat) (r : List UInt8) : Prop := ∀ j (h : j < r.length), w.cell? ⟨g, o + j, none⟩ = some (.int .u8 (r[j].toNat : Int))

set_option maxHeartbeats 2000000 in
theorem parse_pos (g cap m : Nat) (ds r : List UInt8) (w : World) (hm : m = r.length) (h1 : 1 ≤ m) (h2 : m ≤ 18) (hcs : CellsAt w g 0 r) (c0 : UInt8) (hc0 : w.cell? ⟨g, 0, none⟩ = some (.int .u8 (c0.toNat : Int))) (hne : c0 ≠ 45) (hp : parse ds = parseR false r) :
    Calls Try.prog 24 #[.slice (some ⟨g, 0, none⟩) m cap] w fun e w' => e = .returned (.tuple #[.int .i64 (parse ds).1, .bool (parse ds).2]) ∧ w = w' := by
  have HP : Hid (parse ds = parseR false r) := hp
  have HM : Hid (m = r.length) := hm
  have t45 : ((c0.toNat : Int) == 45) = false := u8_ne' hne rfl
  have tm : ((m : Int) == 0) = false := by simp; omega
  have tm2 : (m : Int) ≤ 18 := by omega
  have HCS : Hid (∀ j (h : j < r.length), w.cell? ⟨g, j, none⟩ = some (.int .u8 (r[j].toNat : Int))) := fun j h => by have := hcs j h; rwa [Nat.zero_add] at this
  clear hcs
  clear hp hm hne
  go_enter Try.func24, Try.ntmps24
  go_wp2
  go_loopw [5, 30] (fun x i wr => ∃ k : Nat, k ≤ m ∧ i = .int .i64 (k : Int) ∧ x = .int .i64 (fold 0 (r.take k)) ∧ allD (r.take k) = true ∧ w = wr) (fun _ i _ => m - (intOf i).toNat)
  case atStart => exact ⟨0, Nat.zero_le _, rfl, rfl, rfl, rfl⟩
  case round =>
    obtain ⟨k, hk, rfl, hx, ha, rfl⟩ := hrel
    by_cases hlt : k < m
    · have hkr : k < r.length := by rw [← HM.out]; exact hlt
      have hc := HCS.out k hkr
      have HS := fold_snoc hkr
      have HT := take_snoc hkr
      have hbd := fold_lt ha (k := 17) (by rw [List.length_take]; omega)
      rw [p10_17] at hbd
      obtain ⟨c, hcc⟩ : ∃ c, c = r[k] := ⟨_, rfl⟩
      obtain ⟨y, hy⟩ : ∃ y, y = fold 0 (r.take k) := ⟨_, rfl⟩
      rw [← hcc] at hc HS HT
      rw [← hy] at hx hbd HS
      subst hx
      have HS' : Hid (fold 0 (r.take (k + 1)) = y * 10 + dv c) := HS
      have HT' : Hid (r.take (k + 1) = r.take k ++ [c]) := HT
      have HA : Hid (allD (r.take k) = true) := ha
      have HC : Hid (c = r[k]) := hcc
      clear HS HT hy ha hcc
      rcases (show (c.toNat : Int) < 48 ∨ (48 ≤ (c.toNat : Int) ∧ 57 < (c.toNat : Int)) ∨ (48 ≤ (c.toNat : Int) ∧ (c.toNat : Int) ≤ 57) from by omega) with hz | hz | hz
      · have HF : Hid (parse ds = (0, false)) := by
          show _ = _
          rw [HP.out]
          exact parseR_f (.inr (.inr (allD_mem hkr (by rw [← HC.out]; exact dg_f (by omega)))))
        clear HS' HT' HA HC HP
        go_wp2
        go_ret2
        exact ⟨ret2 (congrArg Prod.fst HF.out).symm (congrArg Prod.snd HF.out).symm, rfl⟩
      · have HF : Hid (parse ds = (0, false)) := by
          show _ = _
          rw [HP.out]
          exact parseR_f (.inr (.inr (allD_mem hkr (by rw [← HC.out]; exact dg_f (by omega)))))
        clear HS' HT' HA HC HP
        go_wp2
        go_ret2
        exact ⟨ret2 (congrArg Prod.fst HF.out).symm (congrArg Prod.snd HF.out).symm, rfl⟩
      · have HA2 : Hid (allD (r.take (k + 1)) = true) := by
          show _ = _
          rw [HT'.out]
          exact allD_snoc HA.out (dg_t hz)
        clear HT' HA HC
        go_wp2
        go_roundw
        case rel => exact ⟨k + 1, by omega, by go_num, by rw [HS'.out]; unfold dv; rfl, HA2.out, by trivial⟩
        case measure => simp [intOf]; omega
    · have e : r.take k = r := List.take_of_length_le (by rw [← HM.out]; omega)
      rw [e] at hx ha
      have hbd := fold_lt ha (k := 18) (by rw [← HM.out]; omega)
      rw [p10_18] at hbd
      have HF : Hid (parse ds = (fold 0 r, true)) := by
        show _ = _
        rw [HP.out]
        exact parseR_t (by rw [← HM.out]; omega) (by rw [← HM.out]; omega) ha
      obtain ⟨y, hy⟩ : ∃ y, y = fold 0 r := ⟨_, rfl⟩
      rw [← hy] at hx hbd HF
      subst hx
      clear hy e ha HP
      go_wp2
      go_ret2
      exact ⟨ret2 (congrArg Prod.fst HF.out).symm (congrArg Prod.snd HF.out).symm, rfl⟩

set_option maxHeartbeats 2000000 in
theorem parse_neg (g cap m : Nat) (ds r : List UInt8) (w : World) (hm : m = r.length) (hcap : m + 1 ≤ cap) (h1 : 1 ≤ m) (h2 : m ≤ 18) (hcs : CellsAt w g 1 r) (c0 : UInt8) (hc0 : w.cell? ⟨g, 0, none⟩ = some (.int .u8 (c0.toNat : Int))) (hne : c0 = 45) (hp : parse ds = parseR true r) :
    Calls Try.prog 24 #[.slice (some ⟨g, 0, none⟩) (m + 1) cap] w fun e w' => e = .returned (.tuple #[.int .i64 (parse ds).1, .bool (parse ds).2]) ∧ w = w' := by
  have HP : Hid (parse ds = parseR true r) := hp
  have HM : Hid (m = r.length) := hm
  have t45 : ((c0.toNat : Int) == 45) = true := by rw [hne]; rfl
  have tm : ((m : Int) == 0) = false := by simp; omega
  have tm2 : (m : Int) ≤ 18 := by omega
  have HCS : Hid (∀ j (h : j < r.length), w.cell? ⟨g, 1 + j, none⟩ = some (.int .u8 (r[j].toNat : Int))) := hcs
  clear hcs
  clear hp hm hne
  go_enter Try.func24, Try.ntmps24
  go_wp2
  go_loopw [5, 30] (fun x i wr => ∃ k : Nat, k ≤ m ∧ i = .int .i64 (k : Int) ∧ x = .int .i64 (fold 0 (r.take k)) ∧ allD (r.take k) = true ∧ w = wr) (fun _ i _ => m - (intOf i).toNat)
  case atStart => exact ⟨0, Nat.zero_le _, rfl, rfl, rfl, rfl⟩
  case round =>
    obtain ⟨k, hk, rfl, hx, ha, rfl⟩ := hrel
    by_cases hlt : k < m
    · have hkr : k < r.length := by rw [← HM.out]; exact hlt
      have hc := HCS.out k hkr
      have HS := fold_snoc hkr
      have HT := take_snoc hkr
      have hbd := fold_lt ha (k := 17) (by rw [List.length_take]; omega)
      rw [p10_17] at hbd
      obtain ⟨c, hcc⟩ : ∃ c, c = r[k] := ⟨_, rfl⟩
      obtain ⟨y, hy⟩ : ∃ y, y = fold 0 (r.take k) := ⟨_, rfl⟩
      rw [← hcc] at hc HS HT
      rw [← hy] at hx hbd HS
      subst hx
      have HS' : Hid (fold 0 (r.take (k + 1)) = y * 10 + dv c) := HS
      have HT' : Hid (r.take (k + 1) = r.take k ++ [c]) := HT
      have HA : Hid (allD (r.take k) = true) := ha
      have HC : Hid (c = r[k]) := hcc
      clear HS HT hy ha hcc
      rcases (show (c.toNat : Int) < 48 ∨ (48 ≤ (c.toNat : Int) ∧ 57 < (c.toNat : Int)) ∨ (48 ≤ (c.toNat : Int) ∧ (c.toNat : Int) ≤ 57) from by omega) with hz | hz | hz
      · have HF : Hid (parse ds = (0, false)) := by
          show _ = _
          rw [HP.out]
          exact parseR_f (.inr (.inr (allD_mem hkr (by rw [← HC.out]; exact dg_f (by omega)))))
        clear HS' HT' HA HC HP
        go_wp2
        go_ret2
        exact ⟨ret2 (congrArg Prod.fst HF.out).symm (congrArg Prod.snd HF.out).symm, rfl⟩
      · have HF : Hid (parse ds = (0, false)) := by
          show _ = _
          rw [HP.out]
          exact parseR_f (.inr (.inr (allD_mem hkr (by rw [← HC.out]; exact dg_f (by omega)))))
        clear HS' HT' HA HC HP
        go_wp2
        go_ret2
        exact ⟨ret2 (congrArg Prod.fst HF.out).symm (congrArg Prod.snd HF.out).symm, rfl⟩
      · have HA2 : Hid (allD (r.take (k + 1)) = true) := by
          show _ = _
          rw [HT'.out]
          exact allD_snoc HA.out (dg_t hz)
        clear HT' HA HC
        go_wp2
        go_roundw
        case rel => exact ⟨k + 1, by omega, by go_num, by rw [HS'.out]; unfold dv; rfl, HA2.out, by trivial⟩
        case measure => simp [intOf]; omega
    · have e : r.take k = r := List.take_of_length_le (by rw [← HM.out]; omega)
      rw [e] at hx ha
      have hbd := fold_lt ha (k := 18) (by rw [← HM.out]; omega)
      rw [p10_18] at hbd
      have HF : Hid (parse ds = (- fold 0 r, true)) := by
        show _ = _
        rw [HP.out]
        exact parseR_t (by rw [← HM.out]; omega) (by rw [← HM.out]; omega) ha
      obtain ⟨y, hy⟩ : ∃ y, y = fold 0 r := ⟨_, rfl⟩
      rw [← hy] at hx hbd HF
      subst hx
      clear hy e ha HP
      go_wp2
      go_ret2
      exact ⟨ret2 (congrArg Prod.fst HF.out).symm (congrArg Prod.snd HF.out).symm, rfl⟩

theorem parse_empty (ao : Option Addr) (cap : Nat) (w : World) :
    Calls Try.prog 24 #[.slice ao 0 cap] w fun e w' => e = .returned (.tuple #[.int .i64 0, .bool false]) ∧ w = w' := by
  go_enter Try.func24, Try.ntmps24
  go_wp2
  go_ret2
  exact ⟨rfl, rfl⟩

theorem parse_long (g cap m : Nat) (w : World) (h : 18 < m) (hm : m ≤ 4294967296) (c0 : UInt8) (hc0 : w.cell? ⟨g, 0, none⟩ = some (.int .u8 (c0.toNat : Int))) (hne : c0 ≠ 45) :
    Calls Try.prog 24 #[.slice (some ⟨g, 0, none⟩) m cap] w fun e w' => e = .returned (.tuple #[.int .i64 0, .bool false]) ∧ w = w' := by
  have t45 : ((c0.toNat : Int) == 45) = false := u8_ne' hne rfl
  have tm : ((m : Int) == 0) = false := by simp; omega
  have tm2 : (18 : Int) < (m : Int) := by omega
  go_enter Try.func24, Try.ntmps24
  go_wp2
  go_ret2
  exact ⟨rfl, rfl⟩

theorem parse_nlong (g cap m : Nat) (w : World) (h : 18 < m) (hcap : m + 1 ≤ cap) (hm : m + 1 ≤ 4294967297) (c0 : UInt8) (hc0 : w.cell? ⟨g, 0, none⟩ = some (.int .u8 (c0.toNat : Int))) (hne : c0 = 45) :
    Calls Try.prog 24 #[.slice (some ⟨g, 0, none⟩) (m + 1) cap] w fun e w' => e = .returned (.tuple #[.int .i64 0, .bool false]) ∧ w = w' := by
  have t45 : ((c0.toNat : Int) == 45) = true := by rw [hne]; rfl
  have tm : ((m : Int) == 0) = false := by simp; omega
  have tm2 : (18 : Int) < (m : Int) := by omega
  go_enter Try.func24, Try.ntmps24
  go_wp2
  go_ret2
  exact ⟨rfl, rfl⟩

theorem parse_none (g cap m : Nat) (w : World) (h0 : m = 0) (c0 : UInt8) (hc0 : w.cell? ⟨g, 0, none⟩ = some (.int .u8 (c0.toNat : Int))) (hne : c0 = 45) :
    Calls Try.prog 24 #[.slice (some ⟨g, 0, none⟩) (m + 1) cap] w fun e w' => e = .returned (.tuple #[.int .i64 0, .bool false]) ∧ w = w' := by
  have t45 : ((c0.toNat : Int) == 45) = true := by rw [hne]; rfl
  have tm : ((m : Int) == 0) = true := by rw [h0]; rfl
  have hm3 : (m : Int) ≤ 18 := by omega
  clear h0
  go_enter Try.func24, Try.ntmps24
  go_wp2
  all_goals go_ret2
  all_goals exact ⟨rfl, rfl⟩

theorem parse_any {w : World} {base : Nat} {v : Value} {ds : List UInt8} (h : OwnB w base v ds) (hn : ds.length ≤ 4294967296) :
    Calls Try.prog 24 #[v] w fun e w' => e = .returned (.tuple #[.int .i64 (parse ds).1, .bool (parse ds).2]) ∧ w = w' := by
  rcases h.form with ⟨rfl, rfl⟩ | ⟨g, cap, cur, fr, rfl, _, _, _, hcap, _, _, _⟩
  · exact parse_empty none 0 w
  · have hcell : ∀ j (hj : j < ds.length), w.cell? ⟨g, j, none⟩ = some (.int .u8 (ds[j].toNat : Int)) := fun j hj => h.cellAt j _ (List.getElem?_eq_getElem hj)
    cases ds with
    | nil => exact parse_empty _ cap w
    | cons c r =>
      have hc0 := hcell 0 (by simp)
      have hc0' : w.cell? ⟨g, 0, none⟩ = some (.int .u8 (c.toNat : Int)) := hc0
      by_cases h45 : c = 45
      · have hp : parse (c :: r) = parseR true r := by simp [parse, h45]
        simp only [List.length_cons] at hcap hn
        by_cases h0 : r.length < 1
        · have : r = [] := List.eq_nil_of_length_eq_zero (by omega)
          subst this
          rw [hp, parseR_f (.inl (by simp))]
          exact parse_none g cap 0 w rfl c hc0' h45
        · by_cases h18 : 18 < r.length
          · rw [hp, parseR_f (.inr (.inl h18))]
            exact parse_nlong g cap r.length w h18 hcap (by omega) c hc0' h45
          · exact parse_neg g cap r.length (c :: r) r w rfl hcap (by omega) (by omega) (fun j hj => by rw [Nat.add_comm 1 j]; exact hcell (j + 1) (by simpa using hj)) c hc0' h45 hp
      · have hp : parse (c :: r) = parseR false (c :: r) := by simp [parse, h45]
        by_cases h18 : 18 < (c :: r).length
        · rw [hp, parseR_f (.inr (.inl h18))]
          exact parse_long g cap _ w h18 hn c hc0' h45
        · exact parse_pos g cap _ (c :: r) (c :: r) w rfl (by simp) (by omega) (fun j hj => by rw [Nat.zero_add]; exact hcell j hj) c hc0' h45 hp

theorem zzparse_any {w : World} {base : Nat} {v : Value} {ds : List UInt8} (h : OwnB w base v ds) (hn : ds.length ≤ 4294967296) :
    Calls Try.prog 11 #[v] w fun e w' => e = .returned (.tuple #[.int .i64 (parse ds).1, .bool (parse ds).2]) ∧ w = w' := by
  have HP : Hid (∀ w', w = w' → Calls Try.prog 24 #[v] w' fun e w' => e = .returned (.tuple #[.int .i64 (parse ds).1, .bool (parse ds).2]) ∧ w = w') := by
    rintro w' rfl
    exact parse_any h hn
  obtain ⟨x, hx⟩ : ∃ x, x = (parse ds).1 := ⟨_, rfl⟩
  obtain ⟨b, hb⟩ : ∃ b, b = (parse ds).2 := ⟨_, rfl⟩
  rw [← hx, ← hb] at HP ⊢
  clear h hx hb
  go_enter Try.func11, Try.ntmps11
  go_wp2_with fail
  refine (HP.out _ rfl).mono ?_
  rintro e w' ⟨rfl, rfl⟩
  go_wp2
  go_ret2
  exact ⟨rfl, rfl⟩

end Go.Proofs.Qxb6601699a
