import Derived.Test.Qxb6601699aParse
namespace Go.Proofs.Qxb6601699a
open Go.RowKit

theorem drop_at {l : List UInt8} {k : Nat} (hk : k < l.length) : l.drop k = l[k] :: l.drop (k + 1) := List.drop_eq_getElem_cons hk
theorem fold_dropAt {l : List UInt8} {k : Nat} (hk : k < l.length) : fold 0 (l.drop k) = dv l[k] * p10 (l.length - (k + 1)) + fold 0 (l.drop (k + 1)) := by
  rw [drop_at hk, fold_cons, List.length_drop]
theorem allD_dropAt {l : List UInt8} {k : Nat} (hk : k < l.length) (h1 : allD (l.drop (k + 1)) = true) (h2 : dg l[k] = true) : allD (l.drop k) = true := by
  rw [drop_at hk]; unfold allD at *; rw [List.all_cons, h1, h2]; rfl
theorem p10_step (m k : Nat) (h : k < m) : p10 (m - k) = p10 (m - (k + 1)) * 10 := by
  obtain ⟨q, hq⟩ : ∃ q, m - k = q + 1 := ⟨m - k - 1, by omega⟩
  rw [hq, show m - (k + 1) = q from by omega]; rfl
theorem mul_bd {d P : Int} (h0 : 0 ≤ d) (h9 : d ≤ 9) (hP : 1 ≤ P) (hP2 : P ≤ 100000000000000000) : 0 ≤ d * P ∧ d * P ≤ 900000000000000000 := by
  have h4 : d * P ≤ 9 * P := Int.mul_le_mul_of_nonneg_right h9 (by omega)
  have h5 : 0 ≤ d * P := Int.mul_nonneg h0 (by omega)
  omega

set_option maxHeartbeats 2000000 in
theorem mlen_pos (g cap m : Nat) (ds r : List UInt8) (w : World) (hm : m = r.length) (h1 : 1 ≤ m) (h2 : m ≤ 18) (hcs : CellsAt w g 0 r) (c0 : UInt8) (hc0 : w.cell? ⟨g, 0, none⟩ = some (.int .u8 (c0.toNat : Int))) (hne : c0 ≠ 45) (hp : parse ds = parseR false r) :
    Calls Try.prog 10 #[.slice (some ⟨g, 0, none⟩) m cap] w fun e w' => e = .returned (.tuple #[.int .i64 (parse ds).1, .bool (parse ds).2]) ∧ w = w' := by
  have HP : Hid (parse ds = parseR false r) := hp
  have HM : Hid (m = r.length) := hm
  have t45 : ((c0.toNat : Int) == 45) = false := u8_ne' hne rfl
  have tm : 1 ≤ (m : Int) := by omega
  have tm2 : (m : Int) ≤ 18 := by omega
  have HCS : Hid (∀ j (h : j < r.length), w.cell? ⟨g, j, none⟩ = some (.int .u8 (r[j].toNat : Int))) := fun j h => by have := hcs j h; rwa [Nat.zero_add] at this
  clear hcs
  clear hp hm hne
  go_enter Try.func10, Try.ntmps10
  go_wp2
  go_loopw [6, 7, 8] (fun x y i wr => ∃ j : Nat, j ≤ m ∧ i = .int .i64 ((j : Int) - 1) ∧ x = .int .i64 (fold 0 (r.drop j)) ∧ y = .int .i64 (p10 (m - j)) ∧ allD (r.drop j) = true ∧ w = wr) (fun _ _ i _ => (intOf i + 1).toNat)
  case atStart =>
    refine ⟨m, Nat.le_refl _, by go_num, ?_, by rw [Nat.sub_self]; rfl, ?_, rfl⟩
    · rw [List.drop_eq_nil_of_le (by rw [← HM.out]; exact Nat.le_refl _)]; rfl
    · rw [List.drop_eq_nil_of_le (by rw [← HM.out]; exact Nat.le_refl _)]; rfl
  case round =>
    obtain ⟨j, hj, rfl, hx, hy, ha, rfl⟩ := hrel
    by_cases hlt : 1 ≤ j
    · obtain ⟨k, rfl⟩ : ∃ k, j = k + 1 := ⟨j - 1, by omega⟩
      have hkr : k < r.length := by rw [← HM.out]; omega
      have hkm : k < m := by omega
      have hc := HCS.out k hkr
      have HS := fold_dropAt hkr
      rw [← HM.out] at HS
      have HQ := p10_step m k hkm
      have hbd := fold_lt ha (k := 17) (by rw [List.length_drop, ← HM.out]; omega)
      rw [p10_17] at hbd
      have hp1 := p10_pos (m - (k + 1))
      have hp2 := p10_mono (j := m - (k + 1)) (k := 17) (by omega)
      rw [p10_17] at hp2
      obtain ⟨c, hcc⟩ : ∃ c, c = r[k] := ⟨_, rfl⟩
      obtain ⟨V, hV⟩ : ∃ V, V = fold 0 (r.drop (k + 1)) := ⟨_, rfl⟩
      obtain ⟨P, hP⟩ : ∃ P, P = p10 (m - (k + 1)) := ⟨_, rfl⟩
      rw [← hcc, ← hV, ← hP] at HS
      rw [← hcc] at hc
      rw [← hV] at hx hbd
      rw [← hP] at hy hp1 hp2 HQ
      subst hx hy
      have HS' : Hid (fold 0 (r.drop k) = dv c * P + V) := HS
      have HQ' : Hid (p10 (m - k) = P * 10) := HQ
      have HA : Hid (allD (r.drop (k + 1)) = true) := ha
      have HC : Hid (c = r[k]) := hcc
      have ek : ((k + 1 : Nat) : Int) - 1 = (k : Int) := by omega
      rw [ek]
      clear HS HQ hV hP ha hcc ek hj hlt
      rcases (show (c.toNat : Int) < 48 ∨ (48 ≤ (c.toNat : Int) ∧ 57 < (c.toNat : Int)) ∨ (48 ≤ (c.toNat : Int) ∧ (c.toNat : Int) ≤ 57) from by omega) with hz | hz | hz
      · have HF : Hid (parse ds = (0, false)) := by
          show _ = _
          rw [HP.out]
          exact parseR_f (.inr (.inr (allD_mem hkr (by rw [← HC.out]; exact dg_f (by omega)))))
        clear HS' HQ' HA HC HP
        go_wp2
        go_ret2
        exact ⟨ret2 (congrArg Prod.fst HF.out).symm (congrArg Prod.snd HF.out).symm, rfl⟩
      · have HF : Hid (parse ds = (0, false)) := by
          show _ = _
          rw [HP.out]
          exact parseR_f (.inr (.inr (allD_mem hkr (by rw [← HC.out]; exact dg_f (by omega)))))
        clear HS' HQ' HA HC HP
        go_wp2
        go_ret2
        exact ⟨ret2 (congrArg Prod.fst HF.out).symm (congrArg Prod.snd HF.out).symm, rfl⟩
      · have HA2 : Hid (allD (r.drop k) = true) := allD_dropAt hkr HA.out (by rw [← HC.out]; exact dg_t hz)
        have hmb := mul_bd (d := (c.toNat : Int) - 48) (P := P) (by omega) (by omega) hp1 hp2
        clear HA HC
        go_wp2
        go_roundw
        case rel => exact ⟨k, by omega, by go_num, by rw [HS'.out]; unfold dv; go_num, by rw [HQ'.out], HA2.out, by trivial⟩
        case measure => first | (simp [intOf]; done) | (simp [intOf]; omega)
    · obtain rfl : j = 0 := by omega
      rw [List.drop_zero] at hx ha
      have hbd := fold_lt ha (k := 18) (by rw [← HM.out]; omega)
      rw [p10_18] at hbd
      have HF : Hid (parse ds = (fold 0 r, true)) := by
        show _ = _
        rw [HP.out]
        exact parseR_t (by rw [← HM.out]; omega) (by rw [← HM.out]; omega) ha
      obtain ⟨y0, hy0⟩ : ∃ y0, y0 = fold 0 r := ⟨_, rfl⟩
      rw [← hy0] at hx hbd HF
      obtain ⟨P, hP⟩ : ∃ P, P = p10 (m - 0) := ⟨_, rfl⟩
      rw [← hP] at hy
      subst hx hy
      clear hy0 ha HP hP
      go_wp2
      go_ret2
      exact ⟨ret2 (congrArg Prod.fst HF.out).symm (congrArg Prod.snd HF.out).symm, rfl⟩

set_option maxHeartbeats 2000000 in
theorem mlen_neg (g cap m : Nat) (ds r : List UInt8) (w : World) (hm : m = r.length) (h1 : 1 ≤ m) (h2 : m ≤ 18) (hcs : CellsAt w g 1 r) (c0 : UInt8) (hc0 : w.cell? ⟨g, 0, none⟩ = some (.int .u8 (c0.toNat : Int))) (hne : c0 = 45) (hp : parse ds = parseR true r) :
    Calls Try.prog 10 #[.slice (some ⟨g, 0, none⟩) (m + 1) cap] w fun e w' => e = .returned (.tuple #[.int .i64 (parse ds).1, .bool (parse ds).2]) ∧ w = w' := by
  have HP : Hid (parse ds = parseR true r) := hp
  have HM : Hid (m = r.length) := hm
  have t45 : ((c0.toNat : Int) == 45) = true := by rw [hne]; rfl
  have tm : 1 ≤ (m : Int) := by omega
  have tm2 : (m : Int) ≤ 18 := by omega
  have HCS : Hid (∀ j (h : j < r.length), w.cell? ⟨g, j + 1, none⟩ = some (.int .u8 (r[j].toNat : Int))) := fun j h => by have := hcs j h; rwa [Nat.add_comm] at this
  clear hcs
  clear hp hm hne
  go_enter Try.func10, Try.ntmps10
  go_wp2
  go_loopw [6, 7, 8] (fun x y i wr => ∃ j : Nat, j ≤ m ∧ i = .int .i64 ((j : Int) ) ∧ x = .int .i64 (- fold 0 (r.drop j)) ∧ y = .int .i64 (p10 (m - j)) ∧ allD (r.drop j) = true ∧ w = wr) (fun _ _ i _ => (intOf i + 1).toNat)
  case atStart =>
    refine ⟨m, Nat.le_refl _, by go_num, ?_, by rw [Nat.sub_self]; rfl, ?_, rfl⟩
    · rw [List.drop_eq_nil_of_le (by rw [← HM.out]; exact Nat.le_refl _)]; rfl
    · rw [List.drop_eq_nil_of_le (by rw [← HM.out]; exact Nat.le_refl _)]; rfl
  case round =>
    obtain ⟨j, hj, rfl, hx, hy, ha, rfl⟩ := hrel
    by_cases hlt : 1 ≤ j
    · obtain ⟨k, rfl⟩ : ∃ k, j = k + 1 := ⟨j - 1, by omega⟩
      have hkr : k < r.length := by rw [← HM.out]; omega
      have hkm : k < m := by omega
      have hc := HCS.out k hkr
      have HS := fold_dropAt hkr
      rw [← HM.out] at HS
      have HQ := p10_step m k hkm
      have hbd := fold_lt ha (k := 17) (by rw [List.length_drop, ← HM.out]; omega)
      rw [p10_17] at hbd
      have hp1 := p10_pos (m - (k + 1))
      have hp2 := p10_mono (j := m - (k + 1)) (k := 17) (by omega)
      rw [p10_17] at hp2
      obtain ⟨c, hcc⟩ : ∃ c, c = r[k] := ⟨_, rfl⟩
      obtain ⟨V, hV⟩ : ∃ V, V = fold 0 (r.drop (k + 1)) := ⟨_, rfl⟩
      obtain ⟨P, hP⟩ : ∃ P, P = p10 (m - (k + 1)) := ⟨_, rfl⟩
      rw [← hcc, ← hV, ← hP] at HS
      rw [← hcc] at hc
      rw [← hV] at hx hbd
      rw [← hP] at hy hp1 hp2 HQ
      subst hx hy
      have HS' : Hid (fold 0 (r.drop k) = dv c * P + V) := HS
      have HQ' : Hid (p10 (m - k) = P * 10) := HQ
      have HA : Hid (allD (r.drop (k + 1)) = true) := ha
      have HC : Hid (c = r[k]) := hcc
      have ek : ((k + 1 : Nat) : Int) = (k : Int) + 1 := by omega
      rw [ek]
      clear HS HQ hV hP ha hcc ek hj hlt
      rcases (show (c.toNat : Int) < 48 ∨ (48 ≤ (c.toNat : Int) ∧ 57 < (c.toNat : Int)) ∨ (48 ≤ (c.toNat : Int) ∧ (c.toNat : Int) ≤ 57) from by omega) with hz | hz | hz
      · have HF : Hid (parse ds = (0, false)) := by
          show _ = _
          rw [HP.out]
          exact parseR_f (.inr (.inr (allD_mem hkr (by rw [← HC.out]; exact dg_f (by omega)))))
        clear HS' HQ' HA HC HP
        go_wp2
        go_ret2
        exact ⟨ret2 (congrArg Prod.fst HF.out).symm (congrArg Prod.snd HF.out).symm, rfl⟩
      · have HF : Hid (parse ds = (0, false)) := by
          show _ = _
          rw [HP.out]
          exact parseR_f (.inr (.inr (allD_mem hkr (by rw [← HC.out]; exact dg_f (by omega)))))
        clear HS' HQ' HA HC HP
        go_wp2
        go_ret2
        exact ⟨ret2 (congrArg Prod.fst HF.out).symm (congrArg Prod.snd HF.out).symm, rfl⟩
      · have HA2 : Hid (allD (r.drop k) = true) := allD_dropAt hkr HA.out (by rw [← HC.out]; exact dg_t hz)
        have hmb := mul_bd (d := (c.toNat : Int) - 48) (P := P) (by omega) (by omega) hp1 hp2
        clear HA HC
        go_wp2
        go_roundw
        case rel => exact ⟨k, by omega, by go_num, by rw [HS'.out]; unfold dv; go_num, by rw [HQ'.out], HA2.out, by trivial⟩
        case measure => first | (simp [intOf]; done) | (simp [intOf]; omega)
    · obtain rfl : j = 0 := by omega
      rw [List.drop_zero] at hx ha
      have hbd := fold_lt ha (k := 18) (by rw [← HM.out]; omega)
      rw [p10_18] at hbd
      have HF : Hid (parse ds = (- fold 0 r, true)) := by
        show _ = _
        rw [HP.out]
        exact parseR_t (by rw [← HM.out]; omega) (by rw [← HM.out]; omega) ha
      obtain ⟨y0, hy0⟩ : ∃ y0, y0 = fold 0 r := ⟨_, rfl⟩
      rw [← hy0] at hx hbd HF
      obtain ⟨P, hP⟩ : ∃ P, P = p10 (m - 0) := ⟨_, rfl⟩
      rw [← hP] at hy
      subst hx hy
      clear hy0 ha HP hP
      go_wp2
      go_ret2
      exact ⟨ret2 (congrArg Prod.fst HF.out).symm (congrArg Prod.snd HF.out).symm, rfl⟩

theorem mlen_empty (ao : Option Addr) (cap : Nat) (w : World) :
    Calls Try.prog 10 #[.slice ao 0 cap] w fun e w' => e = .returned (.tuple #[.int .i64 0, .bool false]) ∧ w = w' := by
  go_enter Try.func10, Try.ntmps10
  go_wp2
  go_ret2
  exact ⟨rfl, rfl⟩

theorem mlen_long (g cap m : Nat) (w : World) (h : 18 < m) (hm : m ≤ 4294967296) (c0 : UInt8) (hc0 : w.cell? ⟨g, 0, none⟩ = some (.int .u8 (c0.toNat : Int))) (hne : c0 ≠ 45) :
    Calls Try.prog 10 #[.slice (some ⟨g, 0, none⟩) m cap] w fun e w' => e = .returned (.tuple #[.int .i64 0, .bool false]) ∧ w = w' := by
  have t45 : ((c0.toNat : Int) == 45) = false := u8_ne' hne rfl
  have tm : 1 ≤ (m : Int) := by omega
  have tm2 : (18 : Int) < (m : Int) := by omega
  go_enter Try.func10, Try.ntmps10
  go_wp2
  go_ret2
  exact ⟨rfl, rfl⟩

theorem mlen_nlong (g cap m : Nat) (w : World) (h : m < 1 ∨ (1 ≤ m ∧ 18 < m)) (hm : m + 1 ≤ 4294967297) (c0 : UInt8) (hc0 : w.cell? ⟨g, 0, none⟩ = some (.int .u8 (c0.toNat : Int))) (hne : c0 = 45) :
    Calls Try.prog 10 #[.slice (some ⟨g, 0, none⟩) (m + 1) cap] w fun e w' => e = .returned (.tuple #[.int .i64 0, .bool false]) ∧ w = w' := by
  have t45 : ((c0.toNat : Int) == 45) = true := by rw [hne]; rfl
  rcases h with h | ⟨h, h'⟩
  · have tm : (m : Int) < 1 := by omega
    go_enter Try.func10, Try.ntmps10
    go_wp2
    go_ret2
    exact ⟨rfl, rfl⟩
  · have tm : 1 ≤ (m : Int) := by omega
    have tm2 : (18 : Int) < (m : Int) := by omega
    go_enter Try.func10, Try.ntmps10
    go_wp2
    go_ret2
    exact ⟨rfl, rfl⟩

theorem mlen_any {w : World} {base : Nat} {v : Value} {ds : List UInt8} (h : OwnB w base v ds) (hn : ds.length ≤ 4294967296) :
    Calls Try.prog 10 #[v] w fun e w' => e = .returned (.tuple #[.int .i64 (parse ds).1, .bool (parse ds).2]) ∧ w = w' := by
  rcases h.form with ⟨rfl, rfl⟩ | ⟨g, cap, cur, fr, rfl, _, _, _, hcap, _, _, _⟩
  · exact mlen_empty none 0 w
  · have hcell : ∀ j (hj : j < ds.length), w.cell? ⟨g, j, none⟩ = some (.int .u8 (ds[j].toNat : Int)) := fun j hj => h.cellAt j _ (List.getElem?_eq_getElem hj)
    cases ds with
    | nil => exact mlen_empty _ cap w
    | cons c r =>
      have hc0' : w.cell? ⟨g, 0, none⟩ = some (.int .u8 (c.toNat : Int)) := hcell 0 (by simp)
      by_cases h45 : c = 45
      · have hp : parse (c :: r) = parseR true r := by simp [parse, h45]
        simp only [List.length_cons] at hcap hn
        by_cases h0 : r.length < 1 ∨ (1 ≤ r.length ∧ 18 < r.length)
        · rw [hp, parseR_f (by omega)]
          exact mlen_nlong g cap r.length w h0 (by omega) c hc0' h45
        · exact mlen_neg g cap r.length (c :: r) r w rfl (by omega) (by omega) (fun j hj => by rw [Nat.add_comm 1 j]; exact hcell (j + 1) (by simpa using hj)) c hc0' h45 hp
      · have hp : parse (c :: r) = parseR false (c :: r) := by simp [parse, h45]
        by_cases h18 : 18 < (c :: r).length
        · rw [hp, parseR_f (.inr (.inl h18))]
          exact mlen_long g cap _ w h18 hn c hc0' h45
        · exact mlen_pos g cap _ (c :: r) (c :: r) w rfl (by simp) (by omega) (fun j hj => by rw [Nat.zero_add]; exact hcell j hj) c hc0' h45 hp

theorem copy_nil (w : World) : Calls Try.prog 9 #[.slice none 0 0] w fun e w' => e = .returned (.slice none 0 0) ∧ w = w' := by
  have he := fun w : World => Lib.run_eql_slice_nil (P := Try.prog) w 22 5 none 0 0 0 0 Try.underlying22
  go_enter Try.func9, Try.ntmps9
  go_wp2
  go_ret
  exact ⟨rfl, rfl⟩

theorem copy_some (ad : Addr) (n cap : Nat) (ds : List UInt8) (w : World) (hsrc : SrcB w (.slice (some ad) n cap) ds) (hn : ds.length = n) (hl : n ≤ 1048576) :
    Calls Try.prog 9 #[.slice (some ad) n cap] w fun e w' => ∃ v, e = .returned v ∧ OwnB w' w.heap.size v ds ∧ Below w.heap.size w w' := by
  have he := fun w : World => Lib.run_eql_slice_nil (P := Try.prog) w 22 5 (some ad) n cap 0 0 Try.underlying22
  have HN : Hid (ds.length = n) := hn
  clear hn
  go_enter Try.func9, Try.ntmps9
  go_wp2_with (first
    | (at_make; refine wpList_make_n w rfl _ rfl _ n rfl rfl (by omega) ?_; intro g w1 hN1)
    | (refine wpList_copy_n rfl (.tmp 9) (.tmp 10) rfl g n hN1 rfl ds (hsrc.below hN1.bel) HN.out (by omega) ?_; intro w2 hO2 hb2)
    | fail)
  go_ret
  exact ⟨_, rfl, hO2, hb2⟩

theorem copy_any (ao : Option Addr) (n cap : Nat) (ds : List UInt8) (w : World) (hsrc : SrcB w (.slice ao n cap) ds) (hn : ds.length = n) (hl : n ≤ 1048576) :
    Calls Try.prog 9 #[.slice ao n cap] w fun e w' => ∃ v, e = .returned v ∧ OwnB w' w.heap.size v ds ∧ Below w.heap.size w w' := by
  cases ao with
  | none =>
    rcases hsrc with ⟨he, hd⟩ | ⟨ad, c, he, _⟩
    · subst hd
      simp at he
      obtain ⟨rfl, rfl⟩ := he
      refine (copy_nil w).mono ?_
      rintro e w' ⟨rfl, rfl⟩
      exact ⟨_, rfl, OwnB.nil _ _, Below.refl _ _⟩
    · simp at he
  | some ad => exact copy_some ad n cap ds w hsrc hn hl

theorem zzb8 (ao : Option Addr) (n cap : Nat) (w : World) (hn : n ≤ maxLen) :
    Calls Try.prog 8 #[.slice ao n cap] w fun e w' => (∃ r, e = .returned (.bool r)) ∧ w = w' := by
  unfold maxLen at hn
  go_enter Try.func8, Try.ntmps8
  go_wp2
  all_goals go_ret
  all_goals exact ⟨⟨_, rfl⟩, rfl⟩

set_option maxHeartbeats 1000000 in
theorem fmg_walk (a0 : Option Addr) (len0 cap0 : Nat) (ds : List UInt8) (w : World) (hl : len0 ≤ maxLen) (hds : ds.length = len0) (hsrc : SrcB w (.slice a0 len0 cap0) ds) :
    Calls Try.prog 3 #[.slice a0 len0 cap0] w fun e w' => e = .returned (.bool true) ∧ Below w.heap.size w w' := by
  by_cases hbig : len0 ≤ 1048576
  · have HC : Hid (Calls Try.prog 9 #[.slice a0 len0 cap0] w fun e w' => ∃ v, e = .returned v ∧ OwnB w' w.heap.size v ds ∧ Below w.heap.size w w') := copy_any a0 len0 cap0 ds w hsrc hds hbig
    obtain ⟨x, hx⟩ : ∃ x, x = (parse ds).1 := ⟨_, rfl⟩
    obtain ⟨b, hb⟩ : ∃ b, b = (parse ds).2 := ⟨_, rfl⟩
    have HM : Hid (∀ (w : World) (v : Value) (B : Nat), OwnB w B v ds → Calls Try.prog 10 #[v] w fun e w' => e = .returned (.tuple #[.int .i64 x, .bool b]) ∧ w = w') := fun w v B h => by rw [hx, hb]; exact mlen_any h (by omega)
    have HZ : Hid (∀ (w : World) (v : Value) (B : Nat), OwnB w B v ds → Calls Try.prog 11 #[v] w fun e w' => e = .returned (.tuple #[.int .i64 x, .bool b]) ∧ w = w') := fun w v B h => by rw [hx, hb]; exact zzparse_any h (by omega)
    clear hx hb hsrc hds
    go_enter Try.func3, Try.ntmps3
    go_wp2_with fail
    refine (zzb8 _ _ _ _ hl).mono ?_
    rintro e w1 ⟨⟨r, rfl⟩, rfl⟩
    cases r with
    | false =>
      go_wp2
      go_ret
      exact ⟨rfl, Below.refl _ _⟩
    | true =>
      go_wp2_with fail
      refine HC.out.mono ?_
      rintro e w1 ⟨v, rfl, hO, hb1⟩
      go_wp2_with fail
      refine (HM.out _ _ _ hO).mono ?_
      rintro e w2 ⟨rfl, rfl⟩
      go_wp2_with fail
      refine (HZ.out _ _ _ hO).mono ?_
      rintro e w2 ⟨rfl, rfl⟩
      go_wp2
      go_ret
      exact ⟨rfl, hb1⟩
  · go_enter Try.func3, Try.ntmps3
    go_wp2_with fail
    refine (zzb8 _ _ _ _ hl).mono ?_
    rintro e w1 ⟨⟨r, rfl⟩, rfl⟩
    unfold maxLen at hl
    cases r with
    | false =>
      go_wp2
      go_ret
      exact ⟨rfl, Below.refl _ _⟩
    | true =>
      go_wp2
      go_ret
      exact ⟨rfl, Below.refl _ _⟩

end Go.Proofs.Qxb6601699a
