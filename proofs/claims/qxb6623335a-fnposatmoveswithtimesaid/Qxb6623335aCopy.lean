import Derived.Test.Qxb6623335aStream
import Derived.Deep.OwnRows
import Derived.BigRegion
namespace Go.Proofs.Qxb6623335a
open Go.RowKit

theorem run_make_row5 {P : Program} (t e : TypeId) (z : Value) (size bytes : Nat) (ht : P.underlying t = some (.slice e)) (hinfo : (P.info? e).map (fun i => (i.zero, i.size, i.bytes)) = some (some z, size, bytes))
    (kl kc : IntKind) (n : Nat) (hbytes : bytes * n ≤ 281474976710656) (h63 : n ≤ 9223372036854775807) (w : World) :
    (Instr.makeSlice t (.int kl (n : Int)) (.int kc (n : Int))).run P w = .ok (.slice (some ⟨w.heap.size, 0, none⟩) n n) (w.alloc (.cells (madeCells z.cells (n * size)) e)) := by
  obtain ⟨i, hi, hzz⟩ := Option.map_eq_some_iff.1 hinfo
  simp only [Prod.mk.injEq] at hzz
  obtain ⟨hz, hs, hb⟩ := hzz
  subst hs hb
  have hb' : (i.bytes : Int) * (n : Int) ≤ 281474976710656 := by
    have h : ((i.bytes * n : Nat) : Int) ≤ 281474976710656 := by omega
    rwa [Int.natCast_mul] at h
  have hr := run_make (P := P) w t e i z ht hi hz kl kc n n (by omega) (Int.le_refl _) hb' (by omega)
  simp only [Int.toNat_natCast] at hr
  exact hr


theorem World.rowIs_madeAny (w : World) (z : Array Value) (n : Nat) (t : TypeId) : (w.alloc (.cells (madeCells z n) t)).rowIs w.heap.size t n (fun i => z[i % z.size]!) :=
  ⟨_, Deep.blk_alloc_new _ _, size_madeCells _ _, fun i hi => by simp [madeCells, hi]⟩

theorem cell_alloc {w : World} {o : Obj} {b j : Nat} (h : b < w.heap.size) : (w.alloc o).cell? ⟨b, j, none⟩ = w.cell? ⟨b, j, none⟩ :=
  ((Below.refl w.heap.size w).alloc (Nat.le_refl _) o).cell (p := ⟨b, j, none⟩) h

theorem Try.info39 : (Try.prog.info? 39).map (fun i => (i.zero, i.size, i.bytes)) = some (some (.agg #[.int .i64 0, .int .u8 0, .int .i64 0, .bool false, .bool false]), 5, 32) := by kernel_rfl

/-- What the history's row holds of its first k changes. -/
def Has (f : Nat → Value) (At Kd Ps : Nat → Int) (Pl On : Nat → Bool) (k : Nat) : Prop :=
  ∀ j, j < k → f (j * 5) = .int .i64 (At j) ∧ f (j * 5 + 1) = .int .u8 (Kd j) ∧ f (j * 5 + 2) = .int .i64 (Ps j) ∧ f (j * 5 + 3) = .bool (Pl j) ∧ f (j * 5 + 4) = .bool (On j)


theorem has_step {f : Nat → Value} {At Kd Ps : Nat → Int} {Pl On : Nat → Bool} {k n B : Nat} {wr : World} (hrow : wr.rowIs B 39 n f) (hh : Has f At Kd Ps Pl On k) :
    ∃ g, (((((wr.setCell ⟨B, k * 5, none⟩ (.int .i64 (At k))).setCell ⟨B, k * 5 + 1, none⟩ (.int .u8 (Kd k))).setCell ⟨B, k * 5 + 2, none⟩ (.int .i64 (Ps k))).setCell ⟨B, k * 5 + 3, none⟩ (.bool (Pl k))).setCell ⟨B, k * 5 + 4, none⟩ (.bool (On k))).drew.rowIs B 39 n g ∧ Has g At Kd Ps Pl On (k + 1) := by
  refine ⟨_, (((((hrow.set _ _).set _ _).set _ _).set _ _).set _ _).drew, ?_⟩
  intro j hj
  by_cases e : j = k
  · subst e
    simp
  · obtain ⟨q0, q1, q2, q3, q4⟩ := hh j (by omega)
    refine ⟨?_, ?_, ?_, ?_, ?_⟩
    all_goals
      dsimp only
      rw [if_neg (by omega), if_neg (by omega), if_neg (by omega), if_neg (by omega), if_neg (by omega)]
      assumption

set_option maxHeartbeats 400000 in
theorem ZZ_any (nm : ByteArray) (bl bt L t : Int) (At Kd Ps : Nat → Int) (Pl On : Nat → Bool) (b0 b1 b2 b3 b4 : Nat) (n : Nat) (w : World) (hL : Hid (wrap64 (bl * bt) = L)) (h1 : 1 ≤ L) (h2 : L ≤ 1125899906842624)
   (hn : 1 ≤ n) (hn2 : n ≤ 1048576) (p1 : 0 ≤ Ps (n - 1)) (p2 : Ps (n - 1) < L) (d1 : At (n - 1) ≤ t) (d2 : t - At (n - 1) ≤ 9223372036854775807)
   (hb0 : b0 < w.heap.size) (hb1 : b1 < w.heap.size) (hb2 : b2 < w.heap.size) (hb3 : b3 < w.heap.size) (hb4 : b4 < w.heap.size)
   (c0 : ∀ j, j < n → w.cell? ⟨b0, j, none⟩ = some (.int .i64 (At j)))
   (c1 : ∀ j, j < n → w.cell? ⟨b1, j, none⟩ = some (.int .u8 (Kd j)))
   (c2 : ∀ j, j < n → w.cell? ⟨b2, j, none⟩ = some (.int .i64 (Ps j)))
   (c3 : ∀ j, j < n → w.cell? ⟨b3, j, none⟩ = some (.bool (Pl j)))
   (c4 : ∀ j, j < n → w.cell? ⟨b4, j, none⟩ = some (.bool (On j))) :
    Calls Try.prog 9 #[.slice (some ⟨b0, 0, none⟩) n n, .slice (some ⟨b1, 0, none⟩) n n, .slice (some ⟨b2, 0, none⟩) n n, .slice (some ⟨b3, 0, none⟩) n n, .slice (some ⟨b4, 0, none⟩) n n, .string nm, .int .i64 bl, .int .i64 bt, .int .i64 t] w fun e w' => e = .returned (.int .i64 (posOf L (Pl (n - 1)) (Ps (n - 1)) (At (n - 1)) t)) ∧ Below w.heap.size w w' := by
  have hmk := run_make_row5 (P := Try.prog) 34 39 _ 5 32 Try.underlying34 Try.info39 .i64 .i64 n (by omega) (by omega)
  go_enter Try.func9, Try.ntmps9
  go_wp2
  go_loopw [20] (fun i wr => ∃ k : Nat, k ≤ n ∧ i = .int .i64 k ∧ Below w.heap.size w wr ∧ ∃ f, wr.rowIs w.heap.size 39 (n * 5) f ∧ Has f At Kd Ps Pl On k) (fun i _ => n - (intOf i).toNat)
  case atStart => exact ⟨0, Nat.zero_le _, rfl, (Below.refl _ _).alloc (Nat.le_refl _) _, _, World.rowIs_madeAny _ _ _ _, fun j hj => absurd hj (by omega)⟩
  case round =>
    obtain ⟨k, hk, rfl, hbel, f, hrow, hhas⟩ := hrel
    by_cases hlt : k < n
    · have x0 : wr.cell? ⟨b0, k, none⟩ = some (.int .i64 (At k)) := (hbel.cell (by exact hb0)).trans (c0 k hlt)
      have x1 : wr.cell? ⟨b1, k, none⟩ = some (.int .u8 (Kd k)) := (hbel.cell (by exact hb1)).trans (c1 k hlt)
      have x2 : wr.cell? ⟨b2, k, none⟩ = some (.int .i64 (Ps k)) := (hbel.cell (by exact hb2)).trans (c2 k hlt)
      have x3 : wr.cell? ⟨b3, k, none⟩ = some (.bool (Pl k)) := (hbel.cell (by exact hb3)).trans (c3 k hlt)
      have x4 : wr.cell? ⟨b4, k, none⟩ = some (.bool (On k)) := (hbel.cell (by exact hb4)).trans (c4 k hlt)
      have y0 := hrow.cell (i := k * 5) (by omega)
      have y1 := hrow.cell (i := k * 5 + 1) (by omega)
      have y2 := hrow.cell (i := k * 5 + 2) (by omega)
      have y3 := hrow.cell (i := k * 5 + 3) (by omega)
      have y4 := hrow.cell (i := k * 5 + 4) (by omega)
      have z0 := hrow.frozen (k * 5)
      have z1 := hrow.frozen (k * 5 + 1)
      have z2 := hrow.frozen (k * 5 + 2)
      have z3 := hrow.frozen (k * 5 + 3)
      have z4 := hrow.frozen (k * 5 + 4)
      have hlt' : (k : Int) < n := by omega
      clear c0 c1 c2 c3 c4 
      go_wp2
      go_region
      go_wp2
      have R := has_step hrow hhas
      obtain ⟨g, R1, R2⟩ := R
      go_roundw
      case rel => exact ⟨k + 1, by omega, by go_num, (((((hbel.setCell (by simp) _).setCell (by simp) _).setCell (by simp) _).setCell (by simp) _).setCell (by simp) _).drew, g, R1, R2⟩
      case measure => simp [intOf]; omega
    · have hkn : n = k := by omega
      subst hkn
      obtain ⟨q0, q1, q2, q3, q4⟩ := hhas (n - 1) (by omega)
      have y0 := hrow.cell (i := (n - 1) * 5) (by omega)
      have y1 := hrow.cell (i := (n - 1) * 5 + 1) (by omega)
      have y2 := hrow.cell (i := (n - 1) * 5 + 2) (by omega)
      have y3 := hrow.cell (i := (n - 1) * 5 + 3) (by omega)
      have y4 := hrow.cell (i := (n - 1) * 5 + 4) (by omega)
      rw [q0] at y0
      rw [q1] at y1
      rw [q2] at y2
      rw [q3] at y3
      rw [q4] at y4
      have hs := hrow.lt
      clear q0 q1 q2 q3 q4 hhas hrow c0 c1 c2 c3 c4
      go_wp2_with fail
      refine (posAt_any nm bl bt L (At (n - 1)) (Kd (n - 1)) (Ps (n - 1)) t (Pl (n - 1)) (On (n - 1)) _ n _ hL h1 h2 hn hn2 p1 p2 d1 d2 (by simp; omega) (by exact (cell_alloc hs).trans y0) (by exact (cell_alloc hs).trans y1) (by exact (cell_alloc hs).trans y2) (by exact (cell_alloc hs).trans y3) (by exact (cell_alloc hs).trans y4)).mono ?_
      rintro e w' ⟨rfl, hb⟩
      go_wp2
      go_ret
      exact ⟨rfl, (hbel.alloc (by omega) _).trans (hb.mono (by simp; omega))⟩
end Go.Proofs.Qxb6623335a
