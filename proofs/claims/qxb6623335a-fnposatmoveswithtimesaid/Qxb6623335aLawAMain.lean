/- The walk of FnPosAtMovesWithTime, the main road. -/
import Derived.Test.Qxb6623335aLawA
namespace Go.Proofs.Qxb6623335a
open Go.RowKit

set_option maxRecDepth 100000 in
set_option maxHeartbeats 1000000 in
theorem lawA_main (b off n cap : Nat) (nm : ByteArray) (bl bt t1 t2 : Int) (F : Nat → Value) (At Kd Ps : Nat → Int) (Pl On : Nat → Bool) (L : Int) (w : World)
    (h : IsHist w b off n F At Kd Ps Pl On) (hn : 1 ≤ n) (hn2 : n ≤ 65536) (hby : n + nm.size ≤ 1048576) (hL : wrap64 (bl * bt) = L) (HL : Hid (wrap64 (bl * bt) = L)) (h1 : 1 ≤ L) (h2 : L ≤ 1125899906842624)
    (b1 : 1 ≤ bl) (b2 : bl ≤ 1048576) (b3 : 1 ≤ bt) (b4 : bt ≤ 1073741824) (p1 : 0 ≤ Ps (n - 1)) (p2 : Ps (n - 1) < L) (d1 : At (n - 1) ≤ t1) (d2 : t1 ≤ t2) (d3 : t2 - At (n - 1) ≤ 9223372036854775807) :
    Calls Try.prog 3 #[.slice (some ⟨b, off, none⟩) n cap, .string nm, .int .i64 bl, .int .i64 bt, .int .i64 t1, .int .i64 t2] w fun e w' => e = .returned (.bool true) ∧ Below w.heap.size w w' := by
  obtain ⟨q0, q1, q2, q3, q4⟩ := h.has (n - 1) (by omega)
  have c0 := h.cell ((n - 1) * 5) (by omega)
  have c1 := h.cell ((n - 1) * 5 + 1) (by omega)
  have c2 := h.cell ((n - 1) * 5 + 2) (by omega)
  have c3 := h.cell ((n - 1) * 5 + 3) (by omega)
  have c4 := h.cell ((n - 1) * 5 + 4) (by omega)
  rw [q0] at c0
  rw [q1] at c1
  rw [q2] at c2
  rw [q3] at c3
  rw [q4] at c4
  rw [← Nat.add_assoc] at c1 c2 c3 c4
  have hlt := h.lt
  clear q0 q1 q2 q3 q4
  have n0 : ((n : Int) == 0) = false := beq_eq_false_iff_ne.2 (by omega)
  have Hh : Hid (IsHist w b off n F At Kd Ps Pl On) := h
  clear h
  obtain ⟨at_, ha⟩ : ∃ x, At (n - 1) = x := ⟨_, rfl⟩
  obtain ⟨ps, hp⟩ : ∃ x, Ps (n - 1) = x := ⟨_, rfl⟩
  obtain ⟨pl, hpl⟩ : ∃ x, Pl (n - 1) = x := ⟨_, rfl⟩
  rw [ha] at c0 d1 d3
  rw [hp] at c2 p1 p2
  rw [hpl] at c3
  have Ha : Hid (At (n - 1) = at_) := ha
  have Hp : Hid (Ps (n - 1) = ps) := hp
  have Hpl : Hid (Pl (n - 1) = pl) := hpl
  clear ha hp hpl
  go_enter Try.func3, Try.ntmps3
  go_wp2_with fail
  refine (bytesA_yes _ _ _ _ _ _ _ _ _ hby).mono ?_
  rintro e w1 ⟨rfl, rfl⟩
  go_wp2_with fail
  have z0 := pos_zero L pl ps at_ p1 p2
  obtain ⟨o1, ho1⟩ : ∃ o, o = Obj.cells #[Value.int IntKind.i64 at_, Value.int IntKind.u8 (Kd (n - 1)), Value.int IntKind.i64 ps, Value.bool pl, Value.bool (On (n - 1))] 25 := ⟨_, rfl⟩
  rw [← ho1]
  have Ho1 : Hid (o1 = Obj.cells #[Value.int IntKind.i64 at_, Value.int IntKind.u8 (Kd (n - 1)), Value.int IntKind.i64 ps, Value.bool pl, Value.bool (On (n - 1))] 25) := ho1
  have hB1 : Below w1.heap.size w1 (w1.alloc o1) := (Below.refl _ _).alloc (Nat.le_refl _) _
  clear ho1
  refine (at_last nm bl bt L at_ at_ ps pl b off n cap _ HL h1 h2 hn (by omega) Ha Hp Hpl p1 p2 (Int.le_refl _) (by omega) (Hh.out.later hB1)).mono ?_
  rintro e w2 ⟨rfl, hb2⟩
  rw [z0]
  have k0 : w2.cell? ⟨w1.heap.size, 0, none⟩ = some (.int .i64 at_) := by rw [last_later hb2, Ho1.out]; simp
  have k2 : w2.cell? ⟨w1.heap.size, 2, none⟩ = some (.int .i64 ps) := by rw [last_later hb2, Ho1.out]; simp
  have k3 : w2.cell? ⟨w1.heap.size, 3, none⟩ = some (.bool pl) := by rw [last_later hb2, Ho1.out]; simp
  have hs2 : w1.heap.size < w2.heap.size := by have := hb2.size; simp at this; omega
  have hB2 : Below w1.heap.size w1 w2 := hB1.trans (hb2.mono (by simp))
  clear hb2 Ho1 hB1 z0
  clear c0 c1 c2 c3 c4
  go_wp2_with fail
  refine (at_last nm bl bt L t1 at_ ps pl b off n cap _ HL h1 h2 hn (by omega) Ha Hp Hpl p1 p2 d1 (by omega) (Hh.out.later hB2)).mono ?_
  rintro e w3 ⟨rfl, hb3⟩
  obtain ⟨i1, i2⟩ := pos_in L pl ps at_ t1 h1 p1 p2
  generalize hr1 : posOf L pl ps at_ t1 = r1 at i1 i2
  have Hr1 : Hid (posOf L pl ps at_ t1 = r1) := hr1
  clear hr1
  have m0 : w3.cell? ⟨w1.heap.size, 0, none⟩ = some (.int .i64 at_) := (hb3.cell (p := ⟨w1.heap.size, 0, none⟩) hs2).trans k0
  have m2 : w3.cell? ⟨w1.heap.size, 2, none⟩ = some (.int .i64 ps) := (hb3.cell (p := ⟨w1.heap.size, 2, none⟩) hs2).trans k2
  have m3 : w3.cell? ⟨w1.heap.size, 3, none⟩ = some (.bool pl) := (hb3.cell (p := ⟨w1.heap.size, 3, none⟩) hs2).trans k3
  have hs3 : w1.heap.size < w3.heap.size := by have := hb3.size; omega
  have hB3 : Below w1.heap.size w1 w3 := hB2.trans (hb3.mono (by omega))
  clear hb3 hB2 k0 k2 k3 hs2
  go_wp2_with fail
  refine (at_last nm bl bt L t2 at_ ps pl b off n cap _ HL h1 h2 hn (by omega) Ha Hp Hpl p1 p2 (by omega) (by omega) (Hh.out.later hB3)).mono ?_
  rintro e w4 ⟨rfl, hb4⟩
  generalize hr2 : posOf L pl ps at_ t2 = r2
  have Hr2 : Hid (posOf L pl ps at_ t2 = r2) := hr2
  clear hr2
  have k0 : w4.cell? ⟨w1.heap.size, 0, none⟩ = some (.int .i64 at_) := (hb4.cell (p := ⟨w1.heap.size, 0, none⟩) hs3).trans m0
  have k2 : w4.cell? ⟨w1.heap.size, 2, none⟩ = some (.int .i64 ps) := (hb4.cell (p := ⟨w1.heap.size, 2, none⟩) hs3).trans m2
  have k3 : w4.cell? ⟨w1.heap.size, 3, none⟩ = some (.bool pl) := (hb4.cell (p := ⟨w1.heap.size, 3, none⟩) hs3).trans m3
  have hs4 : w1.heap.size < w4.heap.size := by have := hb4.size; omega
  have hB4 : Below w1.heap.size w1 w4 := hB3.trans (hb4.mono (by omega))
  clear hb4 hB3 m0 m2 m3 hs3
  cases pl
  · have e1 : r1 = ps := Hr1.out.symm
    have e2 : r2 = ps := Hr2.out.symm
    subst e1 e2
    go_wp2
    go_ret
    exact ⟨rfl, hB4⟩
  · obtain ⟨j1, j2⟩ : 0 ≤ r2 ∧ r2 < L := by rw [← Hr2.out]; exact pos_in L true ps at_ t2 h1 p1 p2
    have s1 : 0 ≤ (t1 - at_) % L := Int.emod_nonneg _ (by omega)
    have s2 : (t1 - at_) % L < L := Int.emod_lt_of_pos _ (by omega)
    have s3 : 0 ≤ (t2 - t1) % L := Int.emod_nonneg _ (by omega)
    have s4 : (t2 - t1) % L < L := Int.emod_lt_of_pos _ (by omega)
    have L0 : (L == 0) = false := beq_eq_false_iff_ne.2 (by omega)
    have g1 : ((r1 - ps) - (t1 - at_) % L).tmod L = 0 := moved L ps r1 (t1 - at_) Hr1.out.symm
    have g2 : ((r2 - r1) - (t2 - t1) % L).tmod L = 0 := moved L r1 r2 (t2 - t1) (by
      have := pos_on L ps at_ t1 t2
      rw [Hr1.out, Hr2.out] at this
      exact this.symm)
    have G1 : Hid (((r1 - ps) - (t1 - at_) % L).tmod L = 0) := g1
    have G2 : Hid (((r2 - r1) - (t2 - t1) % L).tmod L = 0) := g2
    clear g1 g2
    go_wp2_with fail
    refine (inRange_yes r1 L _ i1 i2).mono ?_
    rintro e w' ⟨rfl, rfl⟩
    go_wp2_with fail
    refine (inRange_yes r2 L _ j1 j2).mono ?_
    rintro e w' ⟨rfl, rfl⟩
    go_wp2
    all_goals go_ret
    all_goals (refine ⟨?_, hB4⟩; simp only [Array.getD_eq_getD_getElem?, List.getElem?_toArray]; simp)
    all_goals first | exact ⟨G1.out, G2.out⟩ | exact G2.out | exact absurd G1.out (by assumption)
end Go.Proofs.Qxb6623335a
