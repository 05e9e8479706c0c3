/- The walk of zzContentsEnd. -/
import Derived.Test.Qxb6623407aEnd
import Derived.Test.Qxb6623407aZHead
namespace Go.Proofs.Qxb6623407a
open Go.RowKit

theorem zh_any (g n p : Nat) (z : Nat → Nat) (w : World) (hn : n ≤ 1048576) (hp : p ≤ n) (hz : ∀ j, j < n → z j < 256)
    (hc : ∀ j, j < n → w.cell? ⟨g, j, none⟩ = some (.int .u8 (z j))) :
    Calls Try.prog 8 #[.slice (some ⟨g, 0, none⟩) n n, .int .i64 p] w fun e w' => e = .returned (encZ (hdAt z n p)) ∧ w' = w := by
  by_cases hs : n < p + 2
  · rw [hdAt_short z n p hs]
    exact zh_short _ n p n w hp hn hs
  · by_cases h0 : z p = 0
    · have e : hdAt z n p = none := by unfold hdAt hd; rw [if_pos (Or.inr (by simpa using h0))]
      rw [e]
      have c0 := hc p (by omega)
      rw [h0] at c0
      exact zh_zero g n p w hn (by omega) c0
    · exact zh_long g n p (n - p) (fun j => z (p + j)) w (by omega) hn (by omega) (fun j hj => hz (p + j) (by omega)) (fun j hj => hc (p + j) (by omega)) (by simpa using h0)

theorem rc_eoc (z : Nat → Nat) (n i : Nat) (h : eoc z n i = true) : rcF z n (n + 1) i = some (i + 2) := by rw [rcF.eq_2, if_pos h]
theorem rc_none (z : Nat → Nat) (n i : Nat) (h : eoc z n i = false) (e : hdAt z n i = none) : rcF z n (n + 1) i = none := by
  rw [rcF.eq_2, if_neg (by simp [h]), e]
theorem rc_def (z : Nat → Nat) (n i x L : Nat) (h : eoc z n i = false) (e : hdAt z n i = some (x, some L)) : rcF z n (n + 1) i = rcF z n (n + 1) (i + x + L) := by
  have := hdAt_ge _ _ _ _ _ e
  simp only [Option.getD_some] at this
  rw [rcF.eq_2, if_neg (by simp [h]), e]
  exact rcF_fuel z n n _ _ _ (by omega) (by omega) (by omega)
theorem rc_prim (z : Nat → Nat) (n i x : Nat) (h : eoc z n i = false) (e : hdAt z n i = some (x, none)) (hp : z i / 32 % 2 = 0) : rcF z n (n + 1) i = none := by
  rw [rcF.eq_2, if_neg (by simp [h]), e]
  exact if_pos hp
theorem rc_into (z : Nat → Nat) (n i x : Nat) (h : eoc z n i = false) (e : hdAt z n i = some (x, none)) (hp : ¬ z i / 32 % 2 = 0) : rcF z n (n + 1) i = (rcF z n (n + 1) (i + x)).bind fun e => rcF z n (n + 1) e := by
  have := hdAt_ge _ _ _ _ _ e
  rw [rcF.eq_2, if_neg (by simp [h]), e]
  refine (if_neg hp).trans ?_
  rw [rcF_fuel z n n n (n + 1) (i + x) (by omega) (by omega) (by omega)]
  cases hr : rcF z n (n + 1) (i + x) with
  | none => rfl
  | some e =>
    have := rcF_gt _ _ _ _ _ hr
    exact rcF_fuel z n n _ _ _ (by omega) (by omega) (by omega)

set_option maxRecDepth 100000 in
set_option maxHeartbeats 1000000 in
theorem ce_any (g n : Nat) (z : Nat → Nat) (w : World) (hn : n ≤ 1048576) (hz : ∀ j, j < n → z j < 256)
    (hc : ∀ j, j < n → w.cell? ⟨g, j, none⟩ = some (.int .u8 (z j))) : ∀ k s : Nat, n - s = k → s ≤ n →
    Calls Try.prog 6 #[.slice (some ⟨g, 0, none⟩) n n, .int .i64 s] w fun e w' => e = .returned (encE (rcF z n (n + 1) s)) ∧ w' = w := by
  intro k
  induction k using Nat.strongRecOn with
  | _ k ih =>
  intro s hk hs
  have IH : Hid (∀ y : Nat, n - y < k → y ≤ n → Calls Try.prog 6 #[.slice (some ⟨g, 0, none⟩) n n, .int .i64 y] w fun e w' => e = .returned (encE (rcF z n (n + 1) y)) ∧ w' = w) := fun y h1 h2 => ih (n - y) h1 y rfl h2
  have hk' : n - s ≤ k := by omega
  have HZ : Hid (∀ j, j < n → z j < 256) := hz
  have HC : Hid (∀ j, j < n → w.cell? ⟨g, j, none⟩ = some (.int .u8 (z j))) := hc
  clear ih hk hz
  go_enter Try.func6, Try.ntmps6
  go_wp2_with fail
  go_loop [1] (fun v => ∃ i : Nat, s ≤ i ∧ i ≤ n ∧ v = .int .i64 i ∧ rcF z n (n + 1) s = rcF z n (n + 1) i) (fun v => n - (intOf v).toNat)
  case atStart => exact ⟨s, Nat.le_refl _, hs, rfl, rfl⟩
  case round =>
    obtain ⟨i, i0, i1, rfl, hit⟩ := hrel
    have Hit : Hid (rcF z n (n + 1) s = rcF z n (n + 1) i) := hit
    clear hit
    by_cases heoc : eoc z n i = true
    · have hin := eoc_lt heoc
      have c0 := hc i (by omega)
      have c1 := hc (i + 1) (by omega)
      have z01 : z i = 0 ∧ z (i + 1) = 0 := by simp [eoc] at heoc; exact ⟨heoc.1.2, heoc.2⟩
      rw [z01.1] at c0
      rw [z01.2] at c1
      have HE : Hid (rcF z n (n + 1) s = some (i + 2)) := by rw [Hit.out, rc_eoc z n i heoc]; rfl
      clear heoc z01 hc
      go_wp2_with fail
      go_ret2
      exact ⟨ret_eq (by rw [HE.out]; rfl), rfl⟩
    have heo : eoc z n i = false := by simpa using heoc
    have HEO : Hid (eoc z n i = false) := heo
    clear heo
    clear heoc
    by_cases hin : i + 2 ≤ n
    · have c0 := hc i (by omega)
      have c1 := hc (i + 1) (by omega)
      have bi := HZ.out i (by omega)
      by_cases z0 : z i = 0
      · have z1 : z (i + 1) ≠ 0 := fun e => by have := HEO.out; simp [eoc, hin, z0, e] at this
        have hnone : hdAt z n i = none := by unfold hdAt hd; rw [if_pos (Or.inr (by simpa using z0))]
        have HE : Hid (rcF z n (n + 1) s = none) := by rw [Hit.out, rc_none z n i HEO.out hnone]; rfl
        have Hnone : Hid (hdAt z n i = none) := hnone
        have e1 : ((z (i + 1) : Int) == 0) = false := beq_eq_false_iff_ne.2 (by omega)
        rw [z0] at c0
        clear z0 z1 hnone hc
        go_wp2_with fail
        refine (zh_any g n i z w hn i1 HZ.out HC.out).mono ?_
        rintro e w' ⟨rfl, rfl⟩
        rw [Hnone.out]
        simp only [encZ]
        go_wp2_with fail
        go_ret2
        exact ⟨ret_eq (by rw [HE.out]; rfl), rfl⟩
      · have e1 : ((z i : Int) == 0) = false := beq_eq_false_iff_ne.2 (by omega)
        clear z0 hc
        go_wp2_with fail
        refine (zh_any g n i z w hn i1 HZ.out HC.out).mono ?_
        rintro e w' ⟨rfl, rfl⟩
        cases hh : hdAt z n i with
        | none =>
          have HE : Hid (rcF z n (n + 1) s = none) := by rw [Hit.out, rc_none z n i HEO.out hh]; rfl
          clear hh
          simp only [encZ]
          go_wp2_with fail
          go_ret2
          exact ⟨ret_eq (by rw [HE.out]; rfl), rfl⟩
        | some p =>
          obtain ⟨x, oL⟩ := p
          have hge := hdAt_ge _ _ _ _ _ hh
          cases oL with
          | some L =>
            simp only [Option.getD_some] at hge
            have HE : Hid (rcF z n (n + 1) s = rcF z n (n + 1) (i + x + L)) := by rw [Hit.out, rc_def z n i x L HEO.out hh]; rfl
            clear hh
            simp only [encZ]
            go_wp2_with fail
            go_round
            case rel => exact ⟨i + x + L, by omega, by omega, by go_num, HE.out⟩
            case measure => simp [intOf]; omega
          | none =>
            simp only [Option.getD_none] at hge
            by_cases hp : z i / 32 % 2 = 0
            · have HE : Hid (rcF z n (n + 1) s = none) := by rw [Hit.out, rc_prim z n i x HEO.out hh hp]; rfl
              have ha := and32_no (z i) hp bi
              clear hh hp
              simp only [encZ]
              go_wp2_with fail
              go_ret2
              exact ⟨ret_eq (by rw [HE.out]; rfl), rfl⟩
            · have HI : Hid (rcF z n (n + 1) s = (rcF z n (n + 1) (i + x)).bind fun e => rcF z n (n + 1) e) := by rw [Hit.out, rc_into z n i x HEO.out hh hp]; rfl
              have ha := and32_yes (z i) hp bi
              clear hh hp
              simp only [encZ]
              go_wp2_with fail
              rw [show ((i : Int) + (x : Int)) = ((i + x : Nat) : Int) by omega]
              refine (IH.out (i + x) (by omega) (by omega)).mono ?_
              rintro e w'' ⟨rfl, rfl⟩
              cases hr : rcF z n (n + 1) (i + x) with
              | none =>
                have HE : Hid (rcF z n (n + 1) s = none) := by rw [HI.out, hr]; rfl
                clear hr
                simp only [encE]
                go_wp2_with fail
                go_ret2
                exact ⟨ret_eq (by rw [HE.out]; rfl), rfl⟩
              | some y =>
                have HE : Hid (rcF z n (n + 1) s = rcF z n (n + 1) y) := by rw [HI.out, hr]; rfl
                have hgt := rcF_gt _ _ _ _ _ hr
                clear hr
                simp only [encE]
                go_wp2_with fail
                go_round
                case rel => exact ⟨y, by omega, by omega, rfl, HE.out⟩
                case measure => simp [intOf]; omega
    · have HE : Hid (rcF z n (n + 1) s = none) := by rw [Hit.out, rc_none z n i HEO.out (hdAt_short z n i (by omega))]; rfl
      have Hnone : Hid (hdAt z n i = none) := hdAt_short z n i (by omega)
      clear hc
      go_wp2_with fail
      refine (zh_any g n i z w hn i1 HZ.out HC.out).mono ?_
      rintro e w' ⟨rfl, rfl⟩
      rw [Hnone.out]
      simp only [encZ]
      go_wp2_with fail
      go_ret2
      exact ⟨ret_eq (by rw [HE.out]; rfl), rfl⟩
end Go.Proofs.Qxb6623407a
