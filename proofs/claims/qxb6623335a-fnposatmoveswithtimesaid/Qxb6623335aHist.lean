/- What is known of a history that came in, and the plain arithmetic of the stream's circle. -/
import Derived.Test.Qxb6623335aAt
namespace Go.Proofs.Qxb6623335a
open Go.RowKit

/-- n changes lie from cell off of block b on, field by field; all positions and times fit int64. -/
structure IsHist (w : World) (b off n : Nat) (F : Nat → Value) (At Kd Ps : Nat → Int) (Pl On : Nat → Bool) : Prop where
  lt : b < w.heap.size
  cell : ∀ i, i < n * 5 → w.cell? ⟨b, off + i, none⟩ = some (F i)
  has : Has F At Kd Ps Pl On n

theorem IsHist.later {w w' : World} {b off n : Nat} {F : Nat → Value} {At Kd Ps : Nat → Int} {Pl On : Nat → Bool} (h : IsHist w b off n F At Kd Ps Pl On) (hb : Below w.heap.size w w') : IsHist w' b off n F At Kd Ps Pl On :=
  ⟨Nat.lt_of_lt_of_le h.lt hb.size, fun i hi => (hb.cell (p := ⟨b, off + i, none⟩) h.lt).trans (h.cell i hi), h.has⟩

theorem has_one {F : Nat → Value} {At Kd Ps : Nat → Int} {Pl On : Nat → Bool} {n : Nat} (h : Has F At Kd Ps Pl On n) : ∀ i, i < n * 5 → (F i).oneCell' = true := by
  intro i hi
  obtain ⟨q0, q1, q2, q3, q4⟩ := h (i / 5) (by omega)
  have hr : i % 5 = 0 ∨ i % 5 = 1 ∨ i % 5 = 2 ∨ i % 5 = 3 ∨ i % 5 = 4 := by omega
  rcases hr with e | e | e | e | e
  · rw [show i = i / 5 * 5 by omega, q0]; rfl
  · rw [show i = i / 5 * 5 + 1 by omega, q1]; rfl
  · rw [show i = i / 5 * 5 + 2 by omega, q2]; rfl
  · rw [show i = i / 5 * 5 + 3 by omega, q3]; rfl
  · rw [show i = i / 5 * 5 + 4 by omega, q4]; rfl

set_option maxHeartbeats 400000 in
theorem at_hist (nm : ByteArray) (bl bt L t : Int) {F : Nat → Value} {At Kd Ps : Nat → Int} {Pl On : Nat → Bool} (b off : Nat) (n cap : Nat) (w : World) (hL : Hid (wrap64 (bl * bt) = L)) (h1 : 1 ≤ L) (h2 : L ≤ 1125899906842624)
   (hn : 1 ≤ n) (hn2 : n ≤ 1048576) (p1 : 0 ≤ Ps (n - 1)) (p2 : Ps (n - 1) < L) (d1 : At (n - 1) ≤ t) (d2 : t - At (n - 1) ≤ 9223372036854775807) (h : IsHist w b off n F At Kd Ps Pl On) :
    Calls Try.prog 6 #[.slice (some ⟨b, off, none⟩) n cap, .string nm, .int .i64 bl, .int .i64 bt, .int .i64 t] w fun e w' => e = .returned (.int .i64 (posOf L (Pl (n - 1)) (Ps (n - 1)) (At (n - 1)) t)) ∧ Below w.heap.size w w' := by
  refine at_any nm bl bt L t At Kd Ps Pl On b off n cap w hL h1 h2 hn hn2 p1 p2 d1 d2 h.lt ?_ ?_ ?_ ?_ ?_
  · intro j hj
    rw [h.cell (j * 5) (by omega), (h.has j hj).1]
  · intro j hj
    rw [Nat.add_assoc, h.cell (j * 5 + 1) (by omega), (h.has j hj).2.1]
  · intro j hj
    rw [Nat.add_assoc, h.cell (j * 5 + 2) (by omega), (h.has j hj).2.2.1]
  · intro j hj
    rw [Nat.add_assoc, h.cell (j * 5 + 3) (by omega), (h.has j hj).2.2.2.1]
  · intro j hj
    rw [Nat.add_assoc, h.cell (j * 5 + 4) (by omega), (h.has j hj).2.2.2.2]

/-! ### The circle -/

theorem mul_bounds (bl bt : Int) (h1 : 1 ≤ bl) (h2 : bl ≤ 1048576) (h3 : 1 ≤ bt) (h4 : bt ≤ 1073741824) : 1 ≤ bl * bt ∧ bl * bt ≤ 1125899906842624 := by
  have a := Int.mul_le_mul h1 h3 (by omega) (by omega)
  have b := Int.mul_le_mul h2 h4 (by omega) (by omega)
  omega
theorem wrap_len (bl bt : Int) (h1 : 1 ≤ bl) (h2 : bl ≤ 1048576) (h3 : 1 ≤ bt) (h4 : bt ≤ 1073741824) : wrap64 (bl * bt) = bl * bt := by
  have := mul_bounds bl bt h1 h2 h3 h4
  unfold wrap64
  omega
theorem pos_in (L : Int) (pl : Bool) (ps a t : Int) (h : 1 ≤ L) (p1 : 0 ≤ ps) (p2 : ps < L) : 0 ≤ posOf L pl ps a t ∧ posOf L pl ps a t < L := by
  unfold posOf
  cases pl
  · exact ⟨p1, p2⟩
  · exact ⟨Int.emod_nonneg _ (by omega), Int.emod_lt_of_pos _ (by omega)⟩
theorem pos_zero (L : Int) (pl : Bool) (ps a : Int) (p1 : 0 ≤ ps) (p2 : ps < L) : posOf L pl ps a a = ps := by
  unfold posOf
  cases pl
  · rfl
  · show (ps + (a - a)) % L = ps
    rw [Int.sub_self, Int.add_zero]
    exact Int.emod_eq_of_lt p1 p2
theorem pos_on (L : Int) (ps a t1 t2 : Int) : posOf L true (posOf L true ps a t1) t1 t2 = posOf L true ps a t2 := by
  show ((ps + (t1 - a)) % L + (t2 - t1)) % L = (ps + (t2 - a)) % L
  rw [Int.emod_add_emod]
  congr 1
  omega
theorem pos_off (L : Int) (ps a t : Int) : posOf L false ps a t = ps := rfl

end Go.Proofs.Qxb6623335a
