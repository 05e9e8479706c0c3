/- The walk of FnPosAtMovesWithTime. -/
import Derived.Test.Qxb6623335aHist
namespace Go.Proofs.Qxb6623335a
open Go.RowKit

set_option maxHeartbeats 400000 in
theorem bytesA_yes (a : Option Addr) (n cap : Nat) (nm : ByteArray) (x2 x3 x4 x5 : Int) (w : World) (h : n + nm.size ≤ 1048576) :
    Calls Try.prog 5 #[.slice a n cap, .string nm, .int .i64 x2, .int .i64 x3, .int .i64 x4, .int .i64 x5] w fun e w' => e = .returned (.bool true) ∧ w' = w := by
  go_enter Try.func5, Try.ntmps5
  go_wp2
  go_ret
  exact ⟨rfl, rfl⟩

set_option maxHeartbeats 400000 in
theorem bytesA_no (a : Option Addr) (n cap : Nat) (nm : ByteArray) (x2 x3 x4 x5 : Int) (w : World) (h : 1048576 < n + nm.size) (hn : n ≤ 9223372036854775807) (hs : nm.size ≤ 9223372036854775807) :
    Calls Try.prog 5 #[.slice a n cap, .string nm, .int .i64 x2, .int .i64 x3, .int .i64 x4, .int .i64 x5] w fun e w' => e = .returned (.bool false) ∧ w' = w := by
  by_cases c1 : n ≤ 1048576
  · by_cases c2 : nm.size ≤ 1048576
    · go_enter Try.func5, Try.ntmps5
      go_wp2
      go_ret
      exact ⟨rfl, rfl⟩
    · go_enter Try.func5, Try.ntmps5
      go_wp2
      go_ret
      exact ⟨rfl, rfl⟩
  · go_enter Try.func5, Try.ntmps5
    go_wp2
    go_ret
    exact ⟨rfl, rfl⟩

set_option maxHeartbeats 400000 in
theorem inRange_yes (r L : Int) (w : World) (h1 : 0 ≤ r) (h2 : r < L) :
    Calls Try.prog 7 #[.int .i64 r, .int .i64 L] w fun e w' => e = .returned (.bool true) ∧ w' = w := by
  go_enter Try.func7, Try.ntmps7
  go_wp2
  go_ret
  exact ⟨rfl, rfl⟩

theorem at_last (nm : ByteArray) (bl bt L t at_ ps : Int) (pl : Bool) {F : Nat → Value} {At Kd Ps : Nat → Int} {Pl On : Nat → Bool} (b off : Nat) (n cap : Nat) (w : World) (HL : Hid (wrap64 (bl * bt) = L)) (h1 : 1 ≤ L) (h2 : L ≤ 1125899906842624)
   (hn : 1 ≤ n) (hn2 : n ≤ 1048576) (Ha : Hid (At (n - 1) = at_)) (Hp : Hid (Ps (n - 1) = ps)) (Hpl : Hid (Pl (n - 1) = pl)) (p1 : 0 ≤ ps) (p2 : ps < L) (d1 : at_ ≤ t) (d2 : t - at_ ≤ 9223372036854775807) (h : Hid (IsHist w b off n F At Kd Ps Pl On)) :
    Calls Try.prog 6 #[.slice (some ⟨b, off, none⟩) n cap, .string nm, .int .i64 bl, .int .i64 bt, .int .i64 t] w fun e w' => e = .returned (.int .i64 (posOf L pl ps at_ t)) ∧ Below w.heap.size w w' := by
  have e1 := Ha.out
  have e2 := Hp.out
  have e3 := Hpl.out
  subst e1 e2 e3
  exact at_hist nm bl bt L t b off n cap w HL h1 h2 hn hn2 p1 p2 d1 d2 h.out

/-- The five cells of the local 'last' in a later world. -/
theorem last_later {w1 w2 : World} {o : Obj} (hb : Below (w1.alloc o).heap.size (w1.alloc o) w2) (j : Nat) : w2.cell? ⟨w1.heap.size, j, none⟩ = (w1.alloc o).cell? ⟨w1.heap.size, j, none⟩ :=
  hb.cell (p := ⟨w1.heap.size, j, none⟩) (by simp)


/-- The move from one time to another is, round the circle, the time that passed. -/
theorem moved (L r0 r d : Int) (h : r = (r0 + d) % L) : ((r - r0) - d % L).tmod L = 0 := by
  subst h
  apply Int.tmod_eq_zero_of_dvd
  have h1 := Int.emod_add_mul_ediv (r0 + d) L
  have h2 := Int.emod_add_mul_ediv d L
  refine ⟨d / L - (r0 + d) / L, ?_⟩
  rw [Int.mul_sub]
  omega

end Go.Proofs.Qxb6623335a
