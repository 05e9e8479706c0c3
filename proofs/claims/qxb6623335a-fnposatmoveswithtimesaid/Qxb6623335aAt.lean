/- The walk of zzPosAt. -/
import Derived.Test.Qxb6623335aCopy
namespace Go.Proofs.Qxb6623335a
open Go.RowKit

theorem Try.info2 : (Try.prog.info? 2).map (fun i => (i.zero, i.size, i.bytes)) = some (some (.int .i64 0), 1, 8) := by kernel_rfl
theorem Try.info5 : (Try.prog.info? 5).map (fun i => (i.zero, i.size, i.bytes)) = some (some (.int .u8 0), 1, 1) := by kernel_rfl
theorem Try.info4 : (Try.prog.info? 4).map (fun i => (i.zero, i.size, i.bytes)) = some (some (.bool false), 1, 1) := by kernel_rfl

/-- Row b holds the first k values of F. -/
def Fst (w : World) (b : Nat) (t : TypeId) (n k : Nat) (F : Nat → Value) : Prop := ∃ f, w.rowIs b t n f ∧ ∀ j, j < k → f j = F j

theorem Fst.step {w : World} {b : Nat} {t : TypeId} {n k : Nat} {F : Nat → Value} (h : Fst w b t n k F) : Fst (w.setCell ⟨b, k, none⟩ (F k)) b t n (k + 1) F := by
  obtain ⟨f, h1, h2⟩ := h
  refine ⟨_, h1.set _ _, fun j hj => ?_⟩
  by_cases e : j = k
  · rw [if_pos e, e]
  · rw [if_neg e]; exact h2 j (by omega)
theorem Fst.other {w : World} {b : Nat} {t : TypeId} {n k : Nat} {F : Nat → Value} (h : Fst w b t n k F) {c o : Nat} (hne : b ≠ c) (v : Value) : Fst (w.setCell ⟨c, o, none⟩ v) b t n k F := by
  obtain ⟨f, h1, h2⟩ := h
  exact ⟨f, h1.setOther hne _, h2⟩
theorem Fst.alloc {w : World} {b : Nat} {t : TypeId} {n k : Nat} {F : Nat → Value} (h : Fst w b t n k F) (o : Obj) : Fst (w.alloc o) b t n k F := by
  obtain ⟨f, h1, h2⟩ := h
  exact ⟨f, h1.alloc _, h2⟩
theorem Fst.made (w : World) (z : Array Value) (t : TypeId) (n : Nat) (F : Nat → Value) : Fst (w.alloc (.cells (madeCells z n) t)) w.heap.size t n 0 F :=
  ⟨_, World.rowIs_madeAny _ _ _ _, fun j hj => absurd hj (by omega)⟩
theorem Fst.cells {w : World} {b : Nat} {t : TypeId} {n : Nat} {F : Nat → Value} (h : Fst w b t n n F) : ∀ j, j < n → w.cell? ⟨b, j, none⟩ = some (F j) := by
  obtain ⟨f, h1, h2⟩ := h
  intro j hj
  rw [h1.cell hj, h2 j hj]
theorem Fst.lt {w : World} {b : Nat} {t : TypeId} {n k : Nat} {F : Nat → Value} (h : Fst w b t n k F) : b < w.heap.size := by
  obtain ⟨f, h1, h2⟩ := h
  exact h1.lt
theorem Fst.at_ {w : World} {b : Nat} {t : TypeId} {n k : Nat} {F : Nat → Value} (h : Fst w b t n k F) (hk : k < n) : (∃ v, w.cell? ⟨b, k, none⟩ = some v) ∧ w.frozen? ⟨b, k, none⟩ = false := by
  obtain ⟨f, h1, h2⟩ := h
  exact ⟨⟨_, h1.cell hk⟩, h1.frozen k⟩

/-- The five parallel rows, filled up to k. -/
def Five (w : World) (B n k : Nat) (At Kd Ps : Nat → Int) (Pl On : Nat → Bool) : Prop :=
  Fst w B 2 n k (fun j => .int .i64 (At j)) ∧ Fst w (B + 1) 5 n k (fun j => .int .u8 (Kd j)) ∧ Fst w (B + 1 + 1) 2 n k (fun j => .int .i64 (Ps j)) ∧ Fst w (B + 1 + 1 + 1) 4 n k (fun j => .bool (Pl j)) ∧ Fst w (B + 1 + 1 + 1 + 1) 4 n k (fun j => .bool (On j))

theorem five_start (w : World) (n : Nat) (At Kd Ps : Nat → Int) (Pl On : Nat → Bool) :
    Five (((((w.alloc (.cells (madeCells #[.int .i64 0] n) 2)).alloc (.cells (madeCells #[.int .u8 0] n) 5)).alloc (.cells (madeCells #[.int .i64 0] n) 2)).alloc (.cells (madeCells #[.bool false] n) 4)).alloc (.cells (madeCells #[.bool false] n) 4)) w.heap.size n 0 At Kd Ps Pl On := by
  refine ⟨((((Fst.made w _ 2 n _).alloc _).alloc _).alloc _).alloc _, ?_, ?_, ?_, ?_⟩
  · have h := (((Fst.made (w.alloc (.cells (madeCells #[.int .i64 0] n) 2)) #[.int .u8 0] 5 n (fun j => .int .u8 (Kd j))).alloc (.cells (madeCells #[.int .i64 0] n) 2)).alloc (.cells (madeCells #[.bool false] n) 4)).alloc (.cells (madeCells #[.bool false] n) 4)
    rwa [World.size_alloc] at h
  · have h := ((Fst.made ((w.alloc (.cells (madeCells #[.int .i64 0] n) 2)).alloc (.cells (madeCells #[.int .u8 0] n) 5)) #[.int .i64 0] 2 n (fun j => .int .i64 (Ps j))).alloc (.cells (madeCells #[.bool false] n) 4)).alloc (.cells (madeCells #[.bool false] n) 4)
    rwa [World.size_alloc, World.size_alloc] at h
  · have h := (Fst.made (((w.alloc (.cells (madeCells #[.int .i64 0] n) 2)).alloc (.cells (madeCells #[.int .u8 0] n) 5)).alloc (.cells (madeCells #[.int .i64 0] n) 2)) #[.bool false] 4 n (fun j => .bool (Pl j))).alloc (.cells (madeCells #[.bool false] n) 4)
    rwa [World.size_alloc, World.size_alloc, World.size_alloc] at h
  · have h := Fst.made ((((w.alloc (.cells (madeCells #[.int .i64 0] n) 2)).alloc (.cells (madeCells #[.int .u8 0] n) 5)).alloc (.cells (madeCells #[.int .i64 0] n) 2)).alloc (.cells (madeCells #[.bool false] n) 4)) #[.bool false] 4 n (fun j => .bool (On j))
    rwa [World.size_alloc, World.size_alloc, World.size_alloc, World.size_alloc] at h

theorem five_step {w : World} {B n k : Nat} {At Kd Ps : Nat → Int} {Pl On : Nat → Bool} (h : Five w B n k At Kd Ps Pl On) :
    Five (((((w.setCell ⟨B, k, none⟩ (.int .i64 (At k))).setCell ⟨B + 1, k, none⟩ (.int .u8 (Kd k))).setCell ⟨B + 1 + 1, k, none⟩ (.int .i64 (Ps k))).setCell ⟨B + 1 + 1 + 1, k, none⟩ (.bool (Pl k))).setCell ⟨B + 1 + 1 + 1 + 1, k, none⟩ (.bool (On k))) B n (k + 1) At Kd Ps Pl On := by
  obtain ⟨r0, r1, r2, r3, r4⟩ := h
  refine ⟨?_, ?_, ?_, ?_, ?_⟩
  · exact ((((r0.step).other (by omega) _).other (by omega) _).other (by omega) _).other (by omega) _
  · exact ((((r1.other (by omega) _).step).other (by omega) _).other (by omega) _).other (by omega) _
  · exact ((((r2.other (by omega) _).other (by omega) _).step).other (by omega) _).other (by omega) _
  · exact ((((r3.other (by omega) _).other (by omega) _).other (by omega) _).step).other (by omega) _
  · exact ((((r4.other (by omega) _).other (by omega) _).other (by omega) _).other (by omega) _).step

set_option maxHeartbeats 800000 in
theorem at_any (nm : ByteArray) (bl bt L t : Int) (At Kd Ps : Nat → Int) (Pl On : Nat → Bool) (b off : Nat) (n cap : Nat) (w : World) (hL : Hid (wrap64 (bl * bt) = L)) (h1 : 1 ≤ L) (h2 : L ≤ 1125899906842624)
   (hn : 1 ≤ n) (hn2 : n ≤ 1048576) (p1 : 0 ≤ Ps (n - 1)) (p2 : Ps (n - 1) < L) (d1 : At (n - 1) ≤ t) (d2 : t - At (n - 1) ≤ 9223372036854775807) (hb : b < w.heap.size)
   (c0 : ∀ j, j < n → w.cell? ⟨b, off + j * 5, none⟩ = some (.int .i64 (At j)))
   (c1 : ∀ j, j < n → w.cell? ⟨b, off + j * 5 + 1, none⟩ = some (.int .u8 (Kd j)))
   (c2 : ∀ j, j < n → w.cell? ⟨b, off + j * 5 + 2, none⟩ = some (.int .i64 (Ps j)))
   (c3 : ∀ j, j < n → w.cell? ⟨b, off + j * 5 + 3, none⟩ = some (.bool (Pl j)))
   (c4 : ∀ j, j < n → w.cell? ⟨b, off + j * 5 + 4, none⟩ = some (.bool (On j))) :
    Calls Try.prog 6 #[.slice (some ⟨b, off, none⟩) n cap, .string nm, .int .i64 bl, .int .i64 bt, .int .i64 t] w fun e w' => e = .returned (.int .i64 (posOf L (Pl (n - 1)) (Ps (n - 1)) (At (n - 1)) t)) ∧ Below w.heap.size w w' := by
  have hm29 := run_make_row' (P := Try.prog) 29 2 (.int .i64 0) 8 Try.underlying29 Try.info2 rfl .i64 .i64 n (by omega) (by omega)
  have hm30 := run_make_row' (P := Try.prog) 30 5 (.int .u8 0) 1 Try.underlying30 Try.info5 rfl .i64 .i64 n (by omega) (by omega)
  have hm31 := run_make_row' (P := Try.prog) 31 4 (.bool false) 1 Try.underlying31 Try.info4 rfl .i64 .i64 n (by omega) (by omega)
  go_enter Try.func6, Try.ntmps6
  go_wp2
  go_loopw [17] (fun i wr => ∃ k : Nat, k ≤ n ∧ i = .int .i64 k ∧ Below w.heap.size w wr ∧ Five wr w.heap.size n k At Kd Ps Pl On) (fun i _ => n - (intOf i).toNat)
  case atStart => exact ⟨0, Nat.zero_le _, rfl, (((((Below.refl _ _).alloc (Nat.le_refl _) _).alloc (by simp) _).alloc (by simp; omega) _).alloc (by simp; omega) _).alloc (by simp; omega) _, five_start _ _ _ _ _ _ _⟩
  case round =>
    obtain ⟨k, hk, rfl, hbel, hF⟩ := hrel
    obtain ⟨r0, r1, r2, r3, r4⟩ := id hF
    by_cases hlt : k < n
    · have x0 : wr.cell? ⟨b, off + k * 5, none⟩ = some (.int .i64 (At k)) := (hbel.cell (by exact hb)).trans (c0 k hlt)
      have x1 : wr.cell? ⟨b, off + k * 5 + 1, none⟩ = some (.int .u8 (Kd k)) := (hbel.cell (by exact hb)).trans (c1 k hlt)
      have x2 : wr.cell? ⟨b, off + k * 5 + 2, none⟩ = some (.int .i64 (Ps k)) := (hbel.cell (by exact hb)).trans (c2 k hlt)
      have x3 : wr.cell? ⟨b, off + k * 5 + 3, none⟩ = some (.bool (Pl k)) := (hbel.cell (by exact hb)).trans (c3 k hlt)
      have x4 : wr.cell? ⟨b, off + k * 5 + 4, none⟩ = some (.bool (On k)) := (hbel.cell (by exact hb)).trans (c4 k hlt)
      obtain ⟨⟨v0, y0⟩, z0⟩ := r0.at_ hlt
      obtain ⟨⟨v1, y1⟩, z1⟩ := r1.at_ hlt
      obtain ⟨⟨v2, y2⟩, z2⟩ := r2.at_ hlt
      obtain ⟨⟨v3, y3⟩, z3⟩ := r3.at_ hlt
      obtain ⟨⟨v4, y4⟩, z4⟩ := r4.at_ hlt
      have hF' := five_step hF
      clear c0 c1 c2 c3 c4 r0 r1 r2 r3 r4 hF
      go_wp2
      go_roundw
      case rel => exact ⟨k + 1, by omega, by go_num, ((((hbel.setCell (by simp) _).setCell (by simp) _).setCell (by simp; omega) _).setCell (by simp; omega) _).setCell (by simp; omega) _, hF'⟩
      case measure => simp [intOf]; omega
    · have hkn : n = k := by omega
      subst hkn
      have s0 := r0.lt
      have s1 := r1.lt
      have s2 := r2.lt
      have s3 := r3.lt
      have s4 := r4.lt
      have q0 := r0.cells
      have q1 := r1.cells
      have q2 := r2.cells
      have q3 := r3.cells
      have q4 := r4.cells
      clear c0 c1 c2 c3 c4 r0 r1 r2 r3 r4 hF
      go_wp2_with fail
      refine (ZZ_any nm bl bt L t At Kd Ps Pl On _ _ _ _ _ n _ hL h1 h2 hn hn2 p1 p2 d1 d2 s0 s1 s2 s3 s4 q0 q1 q2 q3 q4).mono ?_
      rintro e w' ⟨rfl, hb⟩
      go_wp2
      go_ret
      exact ⟨rfl, hbel.trans (hb.mono (by omega))⟩
end Go.Proofs.Qxb6623335a
