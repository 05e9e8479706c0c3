/- The walk of FnPosAtRecordedChangeKeepsPlace, the main road. -/
import Derived.Test.Qxb6623335aLawB
namespace Go.Proofs.Qxb6623335a
open Go.RowKit

theorem Try.info25 : (Try.prog.info? 25).map (fun i => (i.zero, i.size, i.bytes)) = some (some (.agg #[.int .i64 0, .int .u8 0, .int .i64 0, .bool false, .bool false]), 5, 32) := by kernel_rfl
theorem Try.size25 : (Try.prog.info? 25).map (·.size) = some 5 := by kernel_rfl


theorem at_last (nm : ByteArray) (bl bt L t at_ ps : Int) (pl : Bool) {F : Nat → Value} {At Kd Ps : Nat → Int} {Pl On : Nat → Bool} (b off : Nat) (n cap : Nat) (w : World) (HL : Hid (wrap64 (bl * bt) = L)) (h1 : 1 ≤ L) (h2 : L ≤ 1125899906842624)
   (hn : 1 ≤ n) (hn2 : n ≤ 1048576) (Ha : Hid (At (n - 1) = at_)) (Hp : Hid (Ps (n - 1) = ps)) (Hpl : Hid (Pl (n - 1) = pl)) (p1 : 0 ≤ ps) (p2 : ps < L) (d1 : at_ ≤ t) (d2 : t - at_ ≤ 9223372036854775807) (h : Hid (IsHist w b off n F At Kd Ps Pl On)) :
    Calls Try.prog 6 #[.slice (some ⟨b, off, none⟩) n cap, .string nm, .int .i64 bl, .int .i64 bt, .int .i64 t] w fun e w' => e = .returned (.int .i64 (posOf L pl ps at_ t)) ∧ Below w.heap.size w w' := by
  have e1 := Ha.out
  have e2 := Hp.out
  have e3 := Hpl.out
  subst e1 e2 e3
  exact at_hist nm bl bt L t b off n cap w HL h1 h2 hn hn2 p1 p2 d1 d2 h.out

/-- The five cells of the local 'last' in a later world. -/
theorem last_later {w1 w2 : World} {o : Obj} (hb : Below (w1.alloc o).heap.size (w1.alloc o) w2) (j : Nat) : w2.cell? ⟨w1.heap.size, j, none⟩ = (w1.alloc o).cell? ⟨w1.heap.size, j, none⟩ :=
  hb.cell (p := ⟨w1.heap.size, j, none⟩) (by simp)

theorem has_step25 {f : Nat → Value} {At Kd Ps : Nat → Int} {Pl On : Nat → Bool} {k n B : Nat} {wr : World} (hrow : wr.rowIs B 25 n f) (hh : Has f At Kd Ps Pl On k) :
    ∃ g, (((((wr.setCell ⟨B, k * 5, none⟩ (.int .i64 (At k))).setCell ⟨B, k * 5 + 1, none⟩ (.int .u8 (Kd k))).setCell ⟨B, k * 5 + 2, none⟩ (.int .i64 (Ps k))).setCell ⟨B, k * 5 + 3, none⟩ (.bool (Pl k))).setCell ⟨B, k * 5 + 4, none⟩ (.bool (On k))).rowIs B 25 n g ∧ Has g At Kd Ps Pl On (k + 1) := by
  refine ⟨_, ((((hrow.set _ _).set _ _).set _ _).set _ _).set _ _, ?_⟩
  intro j hj
  by_cases e : j = k
  · subst e
    simp
  · obtain ⟨q0, q1, q2, q3, q4⟩ := hh j (by omega)
    refine ⟨?_, ?_, ?_, ?_, ?_⟩
    all_goals
      dsimp only
      rw [if_neg (by omega), if_neg (by omega), if_neg (by omega), if_neg (by omega), if_neg (by omega)]
      assumption

/-- The list with one more value behind its first n. -/
def ext {α : Type} (A : Nat → α) (x : α) (n : Nat) : Nat → α := fun j => if j < n then A j else x
theorem ext_at {α : Type} (A : Nat → α) (x : α) (n : Nat) : ext A x n n = x := if_neg (Nat.lt_irrefl _)
theorem ext_lt {α : Type} (A : Nat → α) (x : α) {n j : Nat} (h : j < n) : ext A x n j = A j := if_pos h

theorem hist_last {f : Nat → Value} {At Kd Ps : Nat → Int} {Pl On : Nat → Bool} {n B : Nat} {wr : World} (hrow : wr.rowIs B 25 ((n + 1) * 5) f) (hh : Has f At Kd Ps Pl On n) (a k p : Int) (pl on : Bool) :
    ∃ g, IsHist (((((wr.setCell ⟨B, n * 5, none⟩ (.int .i64 a)).setCell ⟨B, n * 5 + 1, none⟩ (.int .u8 k)).setCell ⟨B, n * 5 + 2, none⟩ (.int .i64 p)).setCell ⟨B, n * 5 + 3, none⟩ (.bool pl)).setCell ⟨B, n * 5 + 4, none⟩ (.bool on)) B 0 (n + 1) g (ext At a n) (ext Kd k n) (ext Ps p n) (ext Pl pl n) (ext On on n) := by
  have h' : Has f (ext At a n) (ext Kd k n) (ext Ps p n) (ext Pl pl n) (ext On on n) n := fun j hj => by
    rw [ext_lt _ _ hj, ext_lt _ _ hj, ext_lt _ _ hj, ext_lt _ _ hj, ext_lt _ _ hj]; exact hh j hj
  obtain ⟨g, g1, g2⟩ := has_step25 hrow h'
  rw [ext_at, ext_at, ext_at, ext_at, ext_at] at g1
  exact ⟨g, g1.lt, fun i hi => by rw [Nat.zero_add]; exact g1.cell hi, g2⟩

theorem below5 (w : World) (B a0 a1 a2 a3 a4 : Nat) (v0 v1 v2 v3 v4 : Value) : Below B w (((((w.setCell ⟨B, a0, none⟩ v0).setCell ⟨B, a1, none⟩ v1).setCell ⟨B, a2, none⟩ v2).setCell ⟨B, a3, none⟩ v3).setCell ⟨B, a4, none⟩ v4) :=
  (((((Below.refl B w).setCell (p := ⟨B, a0, none⟩) (Nat.le_refl B) v0).setCell (p := ⟨B, a1, none⟩) (Nat.le_refl B) v1).setCell (p := ⟨B, a2, none⟩) (Nat.le_refl B) v2).setCell (p := ⟨B, a3, none⟩) (Nat.le_refl B) v3).setCell (p := ⟨B, a4, none⟩) (Nat.le_refl B) v4

set_option maxRecDepth 100000 in
set_option maxHeartbeats 1000000 in
theorem lawB_main (b off n cap : Nat) (nm : ByteArray) (bl bt t1 t2 nk : Int) (kp no : Bool) (F : Nat → Value) (At Kd Ps : Nat → Int) (Pl On : Nat → Bool) (L : Int) (w : World)
    (h : IsHist w b off n F At Kd Ps Pl On) (hn : 1 ≤ n) (hn2 : n ≤ 65536) (hby : n + nm.size ≤ 1048576) (hL : wrap64 (bl * bt) = L) (HL : Hid (wrap64 (bl * bt) = L)) (h1 : 1 ≤ L) (h2 : L ≤ 1125899906842624)
    (b1 : 1 ≤ bl) (b2 : bl ≤ 1048576) (b3 : 1 ≤ bt) (b4 : bt ≤ 1073741824) (p1 : 0 ≤ Ps (n - 1)) (p2 : Ps (n - 1) < L) (d1 : At (n - 1) ≤ t1) (d2 : t1 ≤ t2) (d3 : t2 - At (n - 1) ≤ 9223372036854775807) :
    Calls Try.prog 4 #[.slice (some ⟨b, off, none⟩) n cap, .string nm, .int .i64 bl, .int .i64 bt, .int .i64 t1, .int .i64 t2, .int .u8 nk, .bool kp, .bool no] w fun e w' => e = .returned (.bool true) ∧ Below w.heap.size w w' := by
  have hmk := run_make_row5 (P := Try.prog) 22 25 _ 5 32 Try.underlying22 Try.info25 .i64 .i64 (n + 1) (by omega) (by omega)
  rw [show ((n + 1 : Nat) : Int) = (n : Int) + 1 by omega] at hmk
  obtain ⟨q0, q1, q2, q3, q4⟩ := h.has (n - 1) (by omega)
  have c0 := h.cell ((n - 1) * 5) (by omega)
  have c1 := h.cell ((n - 1) * 5 + 1) (by omega)
  have c2 := h.cell ((n - 1) * 5 + 2) (by omega)
  have c3 := h.cell ((n - 1) * 5 + 3) (by omega)
  have c4 := h.cell ((n - 1) * 5 + 4) (by omega)
  rw [q0] at c0
  rw [q1] at c1
  rw [q2] at c2
  rw [q3] at c3
  rw [q4] at c4
  rw [← Nat.add_assoc] at c1 c2 c3 c4
  have hlt := h.lt
  clear q0 q1 q2 q3 q4
  have n0 : ((n : Int) == 0) = false := beq_eq_false_iff_ne.2 (by omega)
  have Hh : Hid (IsHist w b off n F At Kd Ps Pl On) := h
  clear h
  obtain ⟨at_, ha⟩ : ∃ x, At (n - 1) = x := ⟨_, rfl⟩
  obtain ⟨ps, hp⟩ : ∃ x, Ps (n - 1) = x := ⟨_, rfl⟩
  obtain ⟨pl, hpl⟩ : ∃ x, Pl (n - 1) = x := ⟨_, rfl⟩
  rw [ha] at c0 d1 d3
  rw [hp] at c2 p1 p2
  rw [hpl] at c3
  have Ha : Hid (At (n - 1) = at_) := ha
  have Hp : Hid (Ps (n - 1) = ps) := hp
  have Hpl : Hid (Pl (n - 1) = pl) := hpl
  clear ha hp hpl
  go_enter Try.func4, Try.ntmps4
  go_wp2_with fail
  refine (bytesB_yes _ _ _ _ _ _ _ _ _ _ _ _ hby).mono ?_
  rintro e w1 ⟨rfl, rfl⟩
  go_wp2_with fail
  have z0 := pos_zero L pl ps at_ p1 p2
  obtain ⟨o1, ho1⟩ : ∃ o, o = Obj.cells #[Value.int IntKind.i64 at_, Value.int IntKind.u8 (Kd (n - 1)), Value.int IntKind.i64 ps, Value.bool pl, Value.bool (On (n - 1))] 25 := ⟨_, rfl⟩
  rw [← ho1]
  have Ho1 : Hid (o1 = Obj.cells #[Value.int IntKind.i64 at_, Value.int IntKind.u8 (Kd (n - 1)), Value.int IntKind.i64 ps, Value.bool pl, Value.bool (On (n - 1))] 25) := ho1
  have hB1 : Below w1.heap.size w1 (w1.alloc o1) := (Below.refl _ _).alloc (Nat.le_refl _) _
  clear ho1
  refine (at_last nm bl bt L at_ at_ ps pl b off n cap _ HL h1 h2 hn (by omega) Ha Hp Hpl p1 p2 (Int.le_refl _) (by omega) (Hh.out.later hB1)).mono ?_
  rintro e w2 ⟨rfl, hb2⟩
  rw [z0]
  have k0 : w2.cell? ⟨w1.heap.size, 0, none⟩ = some (.int .i64 at_) := by rw [last_later hb2, Ho1.out]; simp
  have k2 : w2.cell? ⟨w1.heap.size, 2, none⟩ = some (.int .i64 ps) := by rw [last_later hb2, Ho1.out]; simp
  have k3 : w2.cell? ⟨w1.heap.size, 3, none⟩ = some (.bool pl) := by rw [last_later hb2, Ho1.out]; simp
  have hs2 : w1.heap.size < w2.heap.size := by have := hb2.size; simp at this; omega
  have hB2 : Below w1.heap.size w1 w2 := hB1.trans (hb2.mono (by simp))
  clear hb2 Ho1 hB1 z0
  clear c0 c1 c2 c3 c4
  go_wp2_with fail
  refine (at_last nm bl bt L t1 at_ ps pl b off n cap _ HL h1 h2 hn (by omega) Ha Hp Hpl p1 p2 d1 (by omega) (Hh.out.later hB2)).mono ?_
  rintro e w3 ⟨rfl, hb3⟩
  obtain ⟨i1, i2⟩ := pos_in L pl ps at_ t1 h1 p1 p2
  generalize hr1 : posOf L pl ps at_ t1 = r1 at i1 i2
  have Hr1 : Hid (posOf L pl ps at_ t1 = r1) := hr1
  clear hr1
  have m0 : w3.cell? ⟨w1.heap.size, 0, none⟩ = some (.int .i64 at_) := (hb3.cell (p := ⟨w1.heap.size, 0, none⟩) hs2).trans k0
  have m2 : w3.cell? ⟨w1.heap.size, 2, none⟩ = some (.int .i64 ps) := (hb3.cell (p := ⟨w1.heap.size, 2, none⟩) hs2).trans k2
  have m3 : w3.cell? ⟨w1.heap.size, 3, none⟩ = some (.bool pl) := (hb3.cell (p := ⟨w1.heap.size, 3, none⟩) hs2).trans k3
  have hs3 : w1.heap.size < w3.heap.size := by have := hb3.size; omega
  have hB3 : Below w1.heap.size w1 w3 := hB2.trans (hb3.mono (by omega))
  clear hb3 hB2 k0 k2 k3 hs2
  go_wp2_with fail
  refine (at_last nm bl bt L t2 at_ ps pl b off n cap _ HL h1 h2 hn (by omega) Ha Hp Hpl p1 p2 (by omega) (by omega) (Hh.out.later hB3)).mono ?_
  rintro e w4 ⟨rfl, hb4⟩
  generalize hr2 : posOf L pl ps at_ t2 = r2
  have Hr2 : Hid (posOf L pl ps at_ t2 = r2) := hr2
  clear hr2
  have k0 : w4.cell? ⟨w1.heap.size, 0, none⟩ = some (.int .i64 at_) := (hb4.cell (p := ⟨w1.heap.size, 0, none⟩) hs3).trans m0
  have k2 : w4.cell? ⟨w1.heap.size, 2, none⟩ = some (.int .i64 ps) := (hb4.cell (p := ⟨w1.heap.size, 2, none⟩) hs3).trans m2
  have k3 : w4.cell? ⟨w1.heap.size, 3, none⟩ = some (.bool pl) := (hb4.cell (p := ⟨w1.heap.size, 3, none⟩) hs3).trans m3
  have hs4 : w1.heap.size < w4.heap.size := by have := hb4.size; omega
  have hB4 : Below w1.heap.size w1 w4 := hB3.trans (hb4.mono (by omega))
  clear hb4 hB3 m0 m2 m3 hs3
  obtain ⟨w5, hcp, hrow5, hB5⟩ := run_copy_into (P := Try.prog) (w4.alloc (Obj.cells (madeCells #[.int .i64 0, .int .u8 0, .int .i64 0, .bool false, .bool false] ((n + 1) * 5)) 25)) 22 22 3 25 5 w4.heap.size (n + 1) (n + 1) ⟨b, off, none⟩ n cap n 25 ((n + 1) * 5) _ F Try.underlying22 Try.size25 (World.rowIs_madeAny w4 _ _ _) (Nat.min_eq_left (by omega)) (fun j hj => by
    rw [WideShapes.add_plain, cell_alloc (by omega)]
    exact (Hh.out.later hB4).cell j hj) (by omega) (has_one Hh.out.has)
  have hb5 := hB5 w4.heap.size w4 ((Below.refl _ _).alloc (Nat.le_refl _) _) (Nat.le_refl _)
  have hB5 := hB5 w1.heap.size w1 (hB4.alloc (by omega) _) (by omega)
  have m2 : w5.cell? ⟨w1.heap.size, 2, none⟩ = some (.int .i64 ps) := (hb5.cell (p := ⟨w1.heap.size, 2, none⟩) hs4).trans k2
  have m3 : w5.cell? ⟨w1.heap.size, 3, none⟩ = some (.bool pl) := (hb5.cell (p := ⟨w1.heap.size, 3, none⟩) hs4).trans k3
  obtain ⟨g5, hrow5, hhas5⟩ : ∃ g, w5.rowIs w4.heap.size 25 ((n + 1) * 5) g ∧ Has g At Kd Ps Pl On n := ⟨_, hrow5, fun j hj => by
    have := Hh.out.has j hj
    simp only [if_pos (show j * 5 < n * 5 by omega), if_pos (show j * 5 + 1 < n * 5 by omega), if_pos (show j * 5 + 2 < n * 5 by omega), if_pos (show j * 5 + 3 < n * 5 by omega), if_pos (show j * 5 + 4 < n * 5 by omega)]
    exact this⟩
  have y0 := hrow5.cell (i := n * 5) (by omega)
  have y1 := hrow5.cell (i := n * 5 + 1) (by omega)
  have y2 := hrow5.cell (i := n * 5 + 2) (by omega)
  have y3 := hrow5.cell (i := n * 5 + 3) (by omega)
  have y4 := hrow5.cell (i := n * 5 + 4) (by omega)
  have z0 := hrow5.frozen (n * 5)
  have z1 := hrow5.frozen (n * 5 + 1)
  have z2 := hrow5.frozen (n * 5 + 2)
  have z3 := hrow5.frozen (n * 5 + 3)
  have z4 := hrow5.frozen (n * 5 + 4)
  have hs5 := hrow5.lt
  have hne : (w1.heap.size == w4.heap.size) = false := beq_eq_false_iff_ne.2 (by omega)
  have hne' : (w4.heap.size == w1.heap.size) = false := beq_eq_false_iff_ne.2 (by omega)
  cases pl <;> cases kp
  · go_wp2_with fail
    obtain ⟨g6, h6⟩ := hist_last hrow5 hhas5 t1 nk r1 false no
    have hgot : posOf L false r1 t1 t2 = r1 := rfl
    have hB6 : Below w4.heap.size w5 (((((w5.setCell ⟨w4.heap.size, n * 5, none⟩ (.int .i64 t1)).setCell ⟨w4.heap.size, n * 5 + 1, none⟩ (.int .u8 nk)).setCell ⟨w4.heap.size, n * 5 + 2, none⟩ (.int .i64 r1)).setCell ⟨w4.heap.size, n * 5 + 3, none⟩ (.bool false)).setCell ⟨w4.heap.size, n * 5 + 4, none⟩ (.bool no)) := below5 _ _ _ _ _ _ _ _ _ _ _ _
    refine (at_last nm bl bt L t2 t1 r1 false w4.heap.size 0 (n + 1) (n + 1) _ HL h1 h2 (by omega) (by omega) (ext_at At t1 n) (ext_at Ps r1 n) (ext_at Pl false n) i1 i2 d2 (by omega) h6).mono ?_
    rintro e w7 ⟨rfl, hb7⟩
    rw [hgot]
    have hB7 : Below w4.heap.size w5 w7 := hB6.trans (hb7.mono (by simp; omega))
    have k2' : w7.cell? ⟨w1.heap.size, 2, none⟩ = some (.int .i64 ps) := (hB7.cell (p := ⟨w1.heap.size, 2, none⟩) hs4).trans m2
    have hBz : Below w1.heap.size w1 w7 := hB5.trans (hB7.mono (by omega))
    clear hgot hB6 hb7 h6 hB7 hcp hmk y0 y1 y2 y3 y4 z0 z1 z2 z3 z4
    go_wp2
    go_ret
    exact ⟨rfl, hBz⟩
  · go_wp2_with fail
    obtain ⟨g6, h6⟩ := hist_last hrow5 hhas5 t1 nk r1 false no
    have hgot : posOf L false r1 t1 t2 = r1 := rfl
    have hB6 : Below w4.heap.size w5 (((((w5.setCell ⟨w4.heap.size, n * 5, none⟩ (.int .i64 t1)).setCell ⟨w4.heap.size, n * 5 + 1, none⟩ (.int .u8 nk)).setCell ⟨w4.heap.size, n * 5 + 2, none⟩ (.int .i64 r1)).setCell ⟨w4.heap.size, n * 5 + 3, none⟩ (.bool false)).setCell ⟨w4.heap.size, n * 5 + 4, none⟩ (.bool no)) := below5 _ _ _ _ _ _ _ _ _ _ _ _
    refine (at_last nm bl bt L t2 t1 r1 false w4.heap.size 0 (n + 1) (n + 1) _ HL h1 h2 (by omega) (by omega) (ext_at At t1 n) (ext_at Ps r1 n) (ext_at Pl false n) i1 i2 d2 (by omega) h6).mono ?_
    rintro e w7 ⟨rfl, hb7⟩
    rw [hgot]
    have hB7 : Below w4.heap.size w5 w7 := hB6.trans (hb7.mono (by simp; omega))
    have k2' : w7.cell? ⟨w1.heap.size, 2, none⟩ = some (.int .i64 ps) := (hB7.cell (p := ⟨w1.heap.size, 2, none⟩) hs4).trans m2
    have hBz : Below w1.heap.size w1 w7 := hB5.trans (hB7.mono (by omega))
    clear hgot hB6 hb7 h6 hB7 hcp hmk y0 y1 y2 y3 y4 z0 z1 z2 z3 z4
    go_wp2
    go_ret
    exact ⟨rfl, hBz⟩
  · go_wp2_with fail
    obtain ⟨g6, h6⟩ := hist_last hrow5 hhas5 t1 nk r1 false no
    have hgot : posOf L false r1 t1 t2 = r1 := rfl
    have hB6 : Below w4.heap.size w5 (((((w5.setCell ⟨w4.heap.size, n * 5, none⟩ (.int .i64 t1)).setCell ⟨w4.heap.size, n * 5 + 1, none⟩ (.int .u8 nk)).setCell ⟨w4.heap.size, n * 5 + 2, none⟩ (.int .i64 r1)).setCell ⟨w4.heap.size, n * 5 + 3, none⟩ (.bool false)).setCell ⟨w4.heap.size, n * 5 + 4, none⟩ (.bool no)) := below5 _ _ _ _ _ _ _ _ _ _ _ _
    refine (at_last nm bl bt L t2 t1 r1 false w4.heap.size 0 (n + 1) (n + 1) _ HL h1 h2 (by omega) (by omega) (ext_at At t1 n) (ext_at Ps r1 n) (ext_at Pl false n) i1 i2 d2 (by omega) h6).mono ?_
    rintro e w7 ⟨rfl, hb7⟩
    rw [hgot]
    have hB7 : Below w4.heap.size w5 w7 := hB6.trans (hb7.mono (by simp; omega))
    have k2' : w7.cell? ⟨w1.heap.size, 2, none⟩ = some (.int .i64 ps) := (hB7.cell (p := ⟨w1.heap.size, 2, none⟩) hs4).trans m2
    have hBz : Below w1.heap.size w1 w7 := hB5.trans (hB7.mono (by omega))
    clear hgot hB6 hb7 h6 hB7 hcp hmk y0 y1 y2 y3 y4 z0 z1 z2 z3 z4
    go_wp2
    go_ret
    exact ⟨rfl, hBz⟩
  · go_wp2_with fail
    obtain ⟨g6, h6⟩ := hist_last hrow5 hhas5 t1 nk r1 true no
    have hgot : posOf L true r1 t1 t2 = r2 := by rw [← Hr1.out, pos_on, Hr2.out]
    have hB6 : Below w4.heap.size w5 (((((w5.setCell ⟨w4.heap.size, n * 5, none⟩ (.int .i64 t1)).setCell ⟨w4.heap.size, n * 5 + 1, none⟩ (.int .u8 nk)).setCell ⟨w4.heap.size, n * 5 + 2, none⟩ (.int .i64 r1)).setCell ⟨w4.heap.size, n * 5 + 3, none⟩ (.bool true)).setCell ⟨w4.heap.size, n * 5 + 4, none⟩ (.bool no)) := below5 _ _ _ _ _ _ _ _ _ _ _ _
    refine (at_last nm bl bt L t2 t1 r1 true w4.heap.size 0 (n + 1) (n + 1) _ HL h1 h2 (by omega) (by omega) (ext_at At t1 n) (ext_at Ps r1 n) (ext_at Pl true n) i1 i2 d2 (by omega) h6).mono ?_
    rintro e w7 ⟨rfl, hb7⟩
    rw [hgot]
    have hB7 : Below w4.heap.size w5 w7 := hB6.trans (hb7.mono (by simp; omega))
    have k2' : w7.cell? ⟨w1.heap.size, 2, none⟩ = some (.int .i64 ps) := (hB7.cell (p := ⟨w1.heap.size, 2, none⟩) hs4).trans m2
    have hBz : Below w1.heap.size w1 w7 := hB5.trans (hB7.mono (by omega))
    clear hgot hB6 hb7 h6 hB7 hcp hmk y0 y1 y2 y3 y4 z0 z1 z2 z3 z4
    go_wp2
    go_ret
    exact ⟨rfl, hBz⟩
end Go.Proofs.Qxb6623335a
