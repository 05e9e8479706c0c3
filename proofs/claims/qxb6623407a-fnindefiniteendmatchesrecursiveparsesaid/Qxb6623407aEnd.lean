/- The walk of indefiniteEnd. -/
import Derived.Test.Qxb6623407aRead
namespace Go.Proofs.Qxb6623407a
open Go.RowKit

def encE : Option Nat → Value
  | none => .tuple #[.int .i64 0, .bool false]
  | some e => .tuple #[.int .i64 e, .bool true]

theorem it_eoc1 (z : Nat → Nat) (n i : Nat) (h : eoc z n i = true) : itF z n (n + 1) i 1 = some (i + 2) := by rw [itF.eq_2, if_pos h, if_pos rfl]
theorem it_eoc (z : Nat → Nat) (n i d : Nat) (h : eoc z n i = true) (hd : d ≠ 1) : itF z n (n + 1) i d = itF z n (n + 1) (i + 2) (d - 1) := by
  have := eoc_lt h
  rw [itF.eq_2, if_pos h, if_neg hd]
  exact itF_fuel z n n _ _ _ _ (by omega) (by omega) (by omega)
theorem it_none (z : Nat → Nat) (n i d : Nat) (h : eoc z n i = false) (e : hdAt z n i = none) : itF z n (n + 1) i d = none := by
  rw [itF.eq_2, if_neg (by simp [h]), e]
theorem it_def (z : Nat → Nat) (n i d x L : Nat) (h : eoc z n i = false) (e : hdAt z n i = some (x, some L)) : itF z n (n + 1) i d = itF z n (n + 1) (i + x + L) d := by
  have := hdAt_ge _ _ _ _ _ e
  simp only [Option.getD_some] at this
  rw [itF.eq_2, if_neg (by simp [h]), e]
  exact itF_fuel z n n _ _ _ _ (by omega) (by omega) (by omega)
theorem it_prim (z : Nat → Nat) (n i d x : Nat) (h : eoc z n i = false) (e : hdAt z n i = some (x, none)) (hp : z i / 32 % 2 = 0) : itF z n (n + 1) i d = none := by
  rw [itF.eq_2, if_neg (by simp [h]), e]
  exact if_pos hp
theorem it_indef (z : Nat → Nat) (n i d x : Nat) (h : eoc z n i = false) (e : hdAt z n i = some (x, none)) (hp : ¬ z i / 32 % 2 = 0) : itF z n (n + 1) i d = itF z n (n + 1) (i + x) (d + 1) := by
  have := hdAt_ge _ _ _ _ _ e
  rw [itF.eq_2, if_neg (by simp [h]), e]
  refine (if_neg hp).trans ?_
  exact itF_fuel z n n _ _ _ _ (by omega) (by omega) (by omega)
theorem hdAt_short (z : Nat → Nat) (n i : Nat) (h : n < i + 2) : hdAt z n i = none := by
  unfold hdAt hd
  rw [if_pos (by omega)]
theorem eoc_short (z : Nat → Nat) (n i : Nat) (h : n < i + 2) : eoc z n i = false := by simp [eoc]; omega

set_option maxRecDepth 100000 in
set_option maxHeartbeats 1000000 in
theorem ie_any (g n s : Nat) (z : Nat → Nat) (w : World) (hn : n ≤ 1048576) (hs : s ≤ n) (hz : ∀ j, j < n → z j < 256)
    (hc : ∀ j, j < n → w.cell? ⟨g, j, none⟩ = some (.int .u8 (z j))) :
    Calls Try.prog 7 #[.slice (some ⟨g, 0, none⟩) n n, .int .i64 s] w fun e w' => e = .returned (encE (itF z n (n + 1) s 1)) ∧ w' = w := by
  go_enter Try.func7, Try.ntmps7
  go_wp2_with fail
  go_loop [6, 7] (fun v6 v7 => ∃ i d : Nat, i ≤ n ∧ 1 ≤ d ∧ d ≤ i + 1 ∧ v6 = .int .i64 d ∧ v7 = .int .i64 i ∧ itF z n (n + 1) s 1 = itF z n (n + 1) i d) (fun _ v7 => n - (intOf v7).toNat)
  case atStart => exact ⟨s, 1, hs, by omega, by omega, rfl, rfl, rfl⟩
  case round =>
    obtain ⟨i, d, i1, d1, d2, rfl, rfl, hit⟩ := hrel
    have Hit : Hid (itF z n (n + 1) s 1 = itF z n (n + 1) i d) := hit
    clear hit
    by_cases hin : i + 2 ≤ n
    · have c0 := hc i (by omega)
      have c1 := hc (i + 1) (by omega)
      by_cases z0 : z i = 0
      · rw [z0] at c0
        by_cases z1 : z (i + 1) = 0
        · rw [z1] at c1
          have heoc : eoc z n i = true := by simp [eoc, hin, z0, z1]
          by_cases hd1 : d = 1
          · subst hd1
            have HE : Hid (itF z n (n + 1) s 1 = some (i + 2)) := by rw [Hit.out, it_eoc1 z n i heoc]; rfl
            go_wp2_with fail
            go_ret2
            exact ⟨ret_eq (by rw [HE.out]; rfl), rfl⟩
          · have HE : Hid (itF z n (n + 1) s 1 = itF z n (n + 1) (i + 2) (d - 1)) := by rw [Hit.out, it_eoc z n i d heoc hd1]; rfl
            have e0 : (((d : Int) - 1) == 0) = false := beq_eq_false_iff_ne.2 (by omega)
            have d3 : 2 ≤ d := by omega
            clear hd1
            go_wp2_with fail
            go_round
            case rel => exact ⟨i + 2, d - 1, by omega, by omega, by omega, by go_num, by go_num, HE.out⟩
            case measure => simp [intOf]; omega
        · have HEO : Hid (eoc z n i = false) := by simp [Hid, eoc, z1]
          have e1 : ((z (i + 1) : Int) == 0) = false := beq_eq_false_iff_ne.2 (by omega)
          have HE : Hid (itF z n (n + 1) s 1 = none) := by
            rw [Hit.out, it_none z n i d HEO.out (by unfold hdAt hd; rw [if_pos (Or.inr (by simpa using z0))])]; rfl
          clear z1 z0
          go_wp2_with fail
          refine (rh_zero g i (n - i) w (by omega) c0).mono ?_
          rintro e w' ⟨rfl, rfl⟩
          simp only [encR]
          go_wp2_with fail
          go_ret2
          exact ⟨ret_eq (by rw [HE.out]; rfl), rfl⟩
      · have HEO : Hid (eoc z n i = false) := by simp [Hid, eoc, z0]
        have e1 : ((z i : Int) == 0) = false := beq_eq_false_iff_ne.2 (by omega)
        have bi := hz i (by omega)
        clear z0
        have HZ : Hid (∀ j, j < n - i → z (i + j) < 256) := fun j hj => hz (i + j) (by omega)
        have HC : Hid (∀ j, j < n - i → w.cell? ⟨g, i + j, none⟩ = some (.int .u8 (z (i + j)))) := fun j hj => hc (i + j) (by omega)
        clear hc hz
        go_wp2_with fail
        refine (rh_any g i (n - i) (fun j => z (i + j)) w (by omega) (by omega) HZ.out HC.out).mono ?_
        rintro e w' ⟨rfl, rfl⟩
        rw [show hd (fun j => z (i + j)) (n - i) = hdAt z n i from rfl]
        cases hh : hdAt z n i with
        | none =>
          have HE : Hid (itF z n (n + 1) s 1 = none) := by rw [Hit.out, it_none z n i d HEO.out hh]; rfl
          clear hh
          simp only [encR]
          go_wp2_with fail
          go_ret2
          exact ⟨ret_eq (by rw [HE.out]; rfl), rfl⟩
        | some p =>
          obtain ⟨x, oL⟩ := p
          have hge := hdAt_ge _ _ _ _ _ hh
          cases oL with
          | some L =>
            simp only [Option.getD_some] at hge
            have HE : Hid (itF z n (n + 1) s 1 = itF z n (n + 1) (i + x + L) d) := by rw [Hit.out, it_def z n i d x L HEO.out hh]; rfl
            clear hh
            have hL : ((L : Int) != -1) = true := by rw [bne_iff_ne]; omega
            simp only [encR]
            go_wp2_with fail
            go_round
            case rel => exact ⟨i + x + L, d, by omega, by omega, by omega, rfl, by go_num, HE.out⟩
            case measure => simp [intOf]; omega
          | none =>
            simp only [Option.getD_none] at hge
            by_cases hp : z i / 32 % 2 = 0
            · have HE : Hid (itF z n (n + 1) s 1 = none) := by rw [Hit.out, it_prim z n i d x HEO.out hh hp]; rfl
              have ha := and32_no (z i) hp bi
              clear hh hp
              simp only [encR]
              go_wp2_with fail
              go_ret2
              exact ⟨ret_eq (by rw [HE.out]; rfl), rfl⟩
            · have HE : Hid (itF z n (n + 1) s 1 = itF z n (n + 1) (i + x) (d + 1)) := by rw [Hit.out, it_indef z n i d x HEO.out hh hp]; rfl
              have ha := and32_yes (z i) hp bi
              clear hh hp
              simp only [encR]
              go_wp2_with fail
              go_round
              case rel => exact ⟨i + x, d + 1, by omega, by omega, by omega, by go_num, by go_num, HE.out⟩
              case measure => simp [intOf]; omega
    · have HE : Hid (itF z n (n + 1) s 1 = none) := by rw [Hit.out, it_none z n i d (eoc_short z n i (by omega)) (hdAt_short z n i (by omega))]; rfl
      go_wp2_with fail
      all_goals
        refine (rh_short _ _ _ _ (by omega)).mono ?_
        rintro e w' ⟨rfl, rfl⟩
        simp only [encR]
        go_wp2_with fail
        go_ret2
        exact ⟨ret_eq (by rw [HE.out]; rfl), rfl⟩
end Go.Proofs.Qxb6623407a
