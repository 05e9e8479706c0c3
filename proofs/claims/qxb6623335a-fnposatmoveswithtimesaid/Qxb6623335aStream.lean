/- The walks of Stream.Length and Stream.Advance, zzInRange. -/
import Derived.Test.Qxb6623335aRows
import Derived.WalkKit
import Derived.WalkSpells
import Derived.WalkLawsBesides
namespace Go.Proofs.Qxb6623335a
open Go.RowKit

/-- Where the player stands at t: the last change's position, or that many steps further round the stream. -/
def posOf (L : Int) (pl : Bool) (ps at_ t : Int) : Int := if pl then (ps + (t - at_)) % L else ps

theorem ret_int {k : IntKind} {a b : Int} (h : a = b) : Ending.returned (.int k a) = .returned (.int k b) := by rw [h]

set_option maxHeartbeats 400000 in
theorem length_any (nm : ByteArray) (bl bt L : Int) (w : World) (hL : Hid (wrap64 (bl * bt) = L)) :
    Calls Try.prog 12 #[.agg #[.string nm, .int .i64 bl, .int .i64 bt]] w fun e w' => e = .returned (.int .i64 L) ∧ Below w.heap.size w w' := by
  go_enter Try.func12, Try.ntmps12
  go_wp2
  go_ret
  exact ⟨ret_int hL.out, (Below.refl _ _).alloc (Nat.le_refl _) _⟩

set_option maxHeartbeats 400000 in
theorem advance_any (nm : ByteArray) (bl bt L p d : Int) (w : World) (hL : Hid (wrap64 (bl * bt) = L)) (h1 : 1 ≤ L) (h2 : L ≤ 1125899906842624) (p1 : 0 ≤ p) (p2 : p < L) (d1 : 0 ≤ d) (d2 : d ≤ 9223372036854775807) :
    Calls Try.prog 11 #[.agg #[.string nm, .int .i64 bl, .int .i64 bt], .int .i64 p, .int .i64 d] w fun e w' => e = .returned (.int .i64 ((p + d) % L)) ∧ Below w.heap.size w w' := by
  have e1 : 0 ≤ d % L := Int.emod_nonneg _ (by omega)
  have e2 : d % L < L := Int.emod_lt_of_pos _ (by omega)
  have e3 : 0 ≤ (p + d % L) % L := Int.emod_nonneg _ (by omega)
  have e4 : (p + d % L) % L < L := Int.emod_lt_of_pos _ (by omega)
  have e5 : 0 ≤ (p + d) % L := Int.emod_nonneg _ (by omega)
  have z0 : (L == 0) = false := beq_eq_false_iff_ne.2 (by omega)
  go_enter Try.func11, Try.ntmps11
  go_wp2_with (go_at_call 12; refine (length_any _ _ _ L _ hL).mono ?_; rintro e w' ⟨rfl, hb⟩)
  go_ret
  exact ⟨ret_int (by simp), ((Below.refl _ _).alloc (Nat.le_refl _) _).trans (hb.mono (by simp))⟩

set_option maxHeartbeats 400000 in
theorem posAt_any (nm : ByteArray) (bl bt L at_ kd ps t : Int) (pl on : Bool) (b : Nat) (n : Nat) (w : World) (hL : Hid (wrap64 (bl * bt) = L)) (h1 : 1 ≤ L) (h2 : L ≤ 1125899906842624)
   (hn : 1 ≤ n) (hn2 : n ≤ 1048576) (p1 : 0 ≤ ps) (p2 : ps < L) (d1 : at_ ≤ t) (d2 : t - at_ ≤ 9223372036854775807) (hb : b < w.heap.size)
   (c0 : w.cell? ⟨b, (n - 1) * 5, none⟩ = some (.int .i64 at_))
   (c1 : w.cell? ⟨b, (n - 1) * 5 + 1, none⟩ = some (.int .u8 kd))
   (c2 : w.cell? ⟨b, (n - 1) * 5 + 2, none⟩ = some (.int .i64 ps))
   (c3 : w.cell? ⟨b, (n - 1) * 5 + 3, none⟩ = some (.bool pl))
   (c4 : w.cell? ⟨b, (n - 1) * 5 + 4, none⟩ = some (.bool on)) :
    Calls Try.prog 10 #[.slice (some ⟨b, 0, none⟩) n n, .agg #[.string nm, .int .i64 bl, .int .i64 bt], .int .i64 t] w fun e w' => e = .returned (.int .i64 (posOf L pl ps at_ t)) ∧ Below w.heap.size w w' := by
  cases pl
  · go_enter Try.func10, Try.ntmps10
    go_wp2
    go_ret
    exact ⟨rfl, ((Below.refl _ _).alloc (Nat.le_refl _) _).alloc (by simp) _⟩
  · go_enter Try.func10, Try.ntmps10
    go_wp2_with fail
    refine (advance_any nm bl bt L _ _ _ hL h1 h2 p1 p2 (by omega) (by omega)).mono ?_
    rintro e w' ⟨rfl, hb⟩
    go_wp2
    go_ret
    exact ⟨rfl, (((Below.refl _ _).alloc (Nat.le_refl _) _).alloc (by simp) _).trans (hb.mono (by simp; omega))⟩

end Go.Proofs.Qxb6623335a
