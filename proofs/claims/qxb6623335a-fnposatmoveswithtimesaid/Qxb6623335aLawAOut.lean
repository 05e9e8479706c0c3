/- The walk of FnPosAtMovesWithTime: the ways out. -/
import Derived.Test.Qxb6623335aLawAMain
namespace Go.Proofs.Qxb6623335a
open Go.RowKit

set_option maxRecDepth 100000 in
set_option maxHeartbeats 1000000 in
/-- The ways out ahead of the history's last change. -/
theorem lawA_out (a : Option Addr) (n cap : Nat) (nm : ByteArray) (bl bt t1 t2 : Int) (w : World) (hn : n ≤ 9223372036854775807) (hs : nm.size ≤ 9223372036854775807)
    (h : 1048576 < n + nm.size ∨ 65536 < n ∨ n = 0 ∨ bl < 1 ∨ 1048576 < bl ∨ bt < 1 ∨ 1073741824 < bt) :
    Calls Try.prog 3 #[.slice a n cap, .string nm, .int .i64 bl, .int .i64 bt, .int .i64 t1, .int .i64 t2] w fun e w' => e = .returned (.bool true) ∧ Below w.heap.size w w' := by
  by_cases c1 : n + nm.size ≤ 1048576
  · by_cases c2 : n ≤ 65536
    · by_cases c3 : n = 0
      · subst c3
        go_enter Try.func3, Try.ntmps3
        go_wp2_with fail
        refine (bytesA_yes _ _ _ _ _ _ _ _ _ c1).mono ?_
        rintro e w1 ⟨rfl, rfl⟩
        go_wp2
        go_ret
        exact ⟨rfl, Below.refl _ _⟩
      · have n0 : ((n : Int) == 0) = false := beq_eq_false_iff_ne.2 (by omega)
        by_cases c4 : bl < 1
        · go_enter Try.func3, Try.ntmps3
          go_wp2_with fail
          refine (bytesA_yes _ _ _ _ _ _ _ _ _ c1).mono ?_
          rintro e w1 ⟨rfl, rfl⟩
          go_wp2
          go_ret
          exact ⟨rfl, Below.refl _ _⟩
        · by_cases c5 : 1048576 < bl
          · go_enter Try.func3, Try.ntmps3
            go_wp2_with fail
            refine (bytesA_yes _ _ _ _ _ _ _ _ _ c1).mono ?_
            rintro e w1 ⟨rfl, rfl⟩
            go_wp2
            go_ret
            exact ⟨rfl, Below.refl _ _⟩
          · by_cases c6 : bt < 1
            · go_enter Try.func3, Try.ntmps3
              go_wp2_with fail
              refine (bytesA_yes _ _ _ _ _ _ _ _ _ c1).mono ?_
              rintro e w1 ⟨rfl, rfl⟩
              go_wp2
              go_ret
              exact ⟨rfl, Below.refl _ _⟩
            · have c7 : 1073741824 < bt := by omega
              go_enter Try.func3, Try.ntmps3
              go_wp2_with fail
              refine (bytesA_yes _ _ _ _ _ _ _ _ _ c1).mono ?_
              rintro e w1 ⟨rfl, rfl⟩
              go_wp2
              go_ret
              exact ⟨rfl, Below.refl _ _⟩
    · go_enter Try.func3, Try.ntmps3
      go_wp2_with fail
      refine (bytesA_yes _ _ _ _ _ _ _ _ _ c1).mono ?_
      rintro e w1 ⟨rfl, rfl⟩
      go_wp2
      go_ret
      exact ⟨rfl, Below.refl _ _⟩
  · go_enter Try.func3, Try.ntmps3
    go_wp2_with fail
    refine (bytesA_no _ _ _ _ _ _ _ _ _ (by omega) hn hs).mono ?_
    rintro e w1 ⟨rfl, rfl⟩
    go_wp2
    go_ret
    exact ⟨rfl, Below.refl _ _⟩

set_option maxRecDepth 100000 in
set_option maxHeartbeats 1000000 in
/-- The ways out behind it. -/
theorem lawA_late (b off n cap : Nat) (nm : ByteArray) (bl bt t1 t2 : Int) (F : Nat → Value) (At Kd Ps : Nat → Int) (Pl On : Nat → Bool) (L : Int) (w : World)
    (h : IsHist w b off n F At Kd Ps Pl On) (hn : 1 ≤ n) (hn2 : n ≤ 65536) (hby : n + nm.size ≤ 1048576) (hL : wrap64 (bl * bt) = L) (_h1 : 1 ≤ L) (_h2 : L ≤ 1125899906842624)
    (b1 : 1 ≤ bl) (b2 : bl ≤ 1048576) (b3 : 1 ≤ bt) (b4 : bt ≤ 1073741824) (a1 : -9223372036854775808 ≤ At (n - 1)) (a2 : At (n - 1) ≤ 9223372036854775807) (a3 : -9223372036854775808 ≤ t2) (a4 : t2 ≤ 9223372036854775807)
    (hout : Ps (n - 1) < 0 ∨ L ≤ Ps (n - 1) ∨ t1 < At (n - 1) ∨ t2 < t1 ∨ 9223372036854775807 < t2 - At (n - 1)) :
    Calls Try.prog 3 #[.slice (some ⟨b, off, none⟩) n cap, .string nm, .int .i64 bl, .int .i64 bt, .int .i64 t1, .int .i64 t2] w fun e w' => e = .returned (.bool true) ∧ Below w.heap.size w w' := by
  obtain ⟨q0, q1, q2, q3, q4⟩ := h.has (n - 1) (by omega)
  have c0 := h.cell ((n - 1) * 5) (by omega)
  have c1 := h.cell ((n - 1) * 5 + 1) (by omega)
  have c2 := h.cell ((n - 1) * 5 + 2) (by omega)
  have c3 := h.cell ((n - 1) * 5 + 3) (by omega)
  have c4 := h.cell ((n - 1) * 5 + 4) (by omega)
  rw [q0] at c0
  rw [q1] at c1
  rw [q2] at c2
  rw [q3] at c3
  rw [q4] at c4
  rw [← Nat.add_assoc] at c1 c2 c3 c4
  have hlt := h.lt
  clear q0 q1 q2 q3 q4 h
  have n0 : ((n : Int) == 0) = false := beq_eq_false_iff_ne.2 (by omega)
  generalize At (n - 1) = at_ at *
  generalize Ps (n - 1) = ps at *
  by_cases e1 : ps < 0
  · go_enter Try.func3, Try.ntmps3
    go_wp2_with fail
    refine (bytesA_yes _ _ _ _ _ _ _ _ _ hby).mono ?_
    rintro e w1 ⟨rfl, rfl⟩
    go_wp2
    go_ret
    exact ⟨rfl, (Below.refl _ _).alloc (Nat.le_refl _) _⟩
  by_cases e2 : L ≤ ps
  · go_enter Try.func3, Try.ntmps3
    go_wp2_with fail
    refine (bytesA_yes _ _ _ _ _ _ _ _ _ hby).mono ?_
    rintro e w1 ⟨rfl, rfl⟩
    go_wp2
    go_ret
    exact ⟨rfl, (Below.refl _ _).alloc (Nat.le_refl _) _⟩
  by_cases e3 : t1 < at_
  · go_enter Try.func3, Try.ntmps3
    go_wp2_with fail
    refine (bytesA_yes _ _ _ _ _ _ _ _ _ hby).mono ?_
    rintro e w1 ⟨rfl, rfl⟩
    go_wp2
    go_ret
    exact ⟨rfl, (Below.refl _ _).alloc (Nat.le_refl _) _⟩
  by_cases e4 : t2 < t1
  · go_enter Try.func3, Try.ntmps3
    go_wp2_with fail
    refine (bytesA_yes _ _ _ _ _ _ _ _ _ hby).mono ?_
    rintro e w1 ⟨rfl, rfl⟩
    go_wp2
    go_ret
    exact ⟨rfl, (Below.refl _ _).alloc (Nat.le_refl _) _⟩
  have e5 : 9223372036854775807 < t2 - at_ := by omega
  have e6 : wrap64 (t2 - at_) < 0 := by unfold wrap64; omega
  go_enter Try.func3, Try.ntmps3
  go_wp2_with fail
  refine (bytesA_yes _ _ _ _ _ _ _ _ _ hby).mono ?_
  rintro e w1 ⟨rfl, rfl⟩
  go_wp2
  go_ret
  exact ⟨rfl, (Below.refl _ _).alloc (Nat.le_refl _) _⟩
end Go.Proofs.Qxb6623335a
