/- The walks of zzB1Add, zzB1SizeOne, zzB1Size: they answer some number from 0 to the bound plus 1. -/
import Derived.Test.Qxb6623445aModel
namespace Go.Proofs.Qxb6623445a
open Go.RowKit

set_option maxHeartbeats 400000 in
theorem add_any (n k : Int) (w : World) (h1 : 0 ≤ n) (h2 : n ≤ 1048577) (h3 : 0 ≤ k) (h4 : k ≤ 9223372036854775807) :
    Calls Try.prog 15 #[.int .i64 n, .int .i64 k] w fun e w' => ∃ r : Int, e = .returned (.int .i64 r) ∧ 0 ≤ r ∧ r ≤ 1048577 ∧ w' = w := by
  by_cases c1 : 1048576 < n
  · go_enter Try.func15, Try.ntmps15
    go_wp2
    go_ret
    exact ⟨_, rfl, by omega, by omega, rfl⟩
  · by_cases c2 : 1048576 - n < k
    · go_enter Try.func15, Try.ntmps15
      go_wp2
      go_ret
      exact ⟨_, rfl, by omega, by omega, rfl⟩
    · go_enter Try.func15, Try.ntmps15
      go_wp2
      go_ret
      exact ⟨_, rfl, by omega, by omega, rfl⟩

set_option maxRecDepth 100000 in
set_option maxHeartbeats 1000000 in
theorem sizeOne_any (ok : Nat → Prop) (n : Int) (t : TD) (sl : Value) (w : World) (h1 : 0 ≤ n) (h2 : n ≤ 1048577) (hs : SlV ok w sl t) (hid : t.id.size ≤ 9223372036854775807)
    (hst : ∀ j, j < t.n → (t.P j).cur.size ≤ 9223372036854775807 ∧ ∀ s, (t.P j).sp = some s → s.size ≤ 9223372036854775807) (hn : t.n ≤ 9223372036854775807) :
    Calls Try.prog 6 #[.int .i64 n, .agg #[.string t.id, .int .i64 t.ca, .int .i64 t.cv, sl]] w fun e w' => ∃ r : Int, e = .returned (.int .i64 r) ∧ 0 ≤ r ∧ r ≤ 1048577 ∧ Below w.heap.size w w' := by
  rcases hs with ⟨rfl, _, _⟩ | ⟨hnil, a, cap, rfl, hp⟩
  · go_enter Try.func6, Try.ntmps6
    go_wp2_with fail
    refine (add_any _ _ _ h1 h2 (by omega) (by omega)).mono ?_
    rintro e w1 ⟨r, rfl, r1, r2, rfl⟩
    go_wp2_with fail
    refine (add_any _ _ _ r1 r2 (by omega) (by omega)).mono ?_
    rintro e w1 ⟨r', rfl, r1', r2', rfl⟩
    go_wp2_with fail
    refine wp_loop_rounds 1 ?_
    rw [rounds_succ]
    go_wp2_with fail
    go_ret
    exact ⟨_, rfl, by omega, by omega, below_alloc _ _⟩
  · have HP : Hid (0 < t.n → ∃ b off, a = ⟨b, off, none⟩ ∧ ok b ∧ PrV ok w b off t.n t.P) := hp
    have HS : Hid (∀ j, j < t.n → (t.P j).cur.size ≤ 9223372036854775807 ∧ ∀ s, (t.P j).sp = some s → s.size ≤ 9223372036854775807) := hst
    clear hp hst
    go_enter Try.func6, Try.ntmps6
    go_wp2_with fail
    refine (add_any _ _ _ h1 h2 (by omega) (by omega)).mono ?_
    rintro e w1 ⟨r, rfl, r1, r2, rfl⟩
    go_wp2_with fail
    refine (add_any _ _ _ r1 r2 (by omega) (by omega)).mono ?_
    rintro e w1 ⟨r', rfl, r1', r2', rfl⟩
    go_wp2_with fail
    go_loop [0, 5] (fun v0 v5 => ∃ (x : Int) (j : Nat), 0 ≤ x ∧ x ≤ 1048577 ∧ j ≤ t.n ∧ v0 = .int .i64 x ∧ v5 = .int .i64 j) (fun _ v5 => t.n - (intOf v5).toNat)
    case atStart => exact ⟨r', 0, r1', r2', by omega, rfl, rfl⟩
    case round =>
      obtain ⟨x, j, x1, x2, hj, rfl, rfl⟩ := hrel
      by_cases hgo : j < t.n ∧ x ≤ 1048576
      · obtain ⟨hlt, hx⟩ := hgo
        obtain ⟨b, off, rfl, hok, hpr⟩ := HP.out (by omega)
        obtain ⟨c0, c1, v, c2, hv⟩ := hpr j hlt
        obtain ⟨s1, s2⟩ := HS.out j hlt
        have hblt := block_lt_of_cell c0
        clear hpr
        cases hsp : (t.P j).sp with
        | none =>
          rw [hsp] at hv
          have hv' : v = .pointer none := hv
          subst hv'
          clear hsp s2 hv
          go_wp2_with fail
          refine (add_any _ _ _ x1 x2 (by omega) (by omega)).mono ?_
          rintro e w1 ⟨y, rfl, y1, y2, rfl⟩
          go_wp2_with fail
          refine (add_any _ _ _ y1 y2 (by omega) (by omega)).mono ?_
          rintro e w1 ⟨y', rfl, y1', y2', rfl⟩
          go_wp2_with fail
          go_round
          case rel => exact ⟨y', j + 1, y1', y2', by omega, rfl, by go_num⟩
          case measure => simp [intOf]; omega
        | some s =>
          rw [hsp] at hv
          obtain ⟨b', o', rfl, hok', c3⟩ := hv
          have s3 := s2 s hsp
          have hblt' := block_lt_of_cell c3
          clear hsp s2
          go_wp2_with fail
          refine (add_any _ _ _ x1 x2 (by omega) (by omega)).mono ?_
          rintro e w1 ⟨y, rfl, y1, y2, rfl⟩
          go_wp2_with fail
          refine (add_any _ _ _ y1 y2 (by omega) (by omega)).mono ?_
          rintro e w1 ⟨y', rfl, y1', y2', rfl⟩
          go_wp2_with fail
          refine (add_any _ _ _ y1' y2' (by omega) (by omega)).mono ?_
          rintro e w1 ⟨y'', rfl, y1'', y2'', rfl⟩
          go_wp2_with fail
          go_round
          case rel => exact ⟨y'', j + 1, y1'', y2'', by omega, rfl, by go_num⟩
          case measure => simp [intOf]; omega
      · by_cases hlt : j < t.n
        · have hx : 1048576 < x := by omega
          clear hgo
          go_wp2_with fail
          go_ret
          exact ⟨_, rfl, by omega, by omega, below_alloc _ _⟩
        · clear hgo
          go_wp2_with fail
          go_ret
          exact ⟨_, rfl, by omega, by omega, below_alloc _ _⟩

/-- Every length in a top-up fits an int. -/
def Fits (t : TD) : Prop := t.id.size ≤ 9223372036854775807 ∧ t.n ≤ 9223372036854775807 ∧ ∀ j, j < t.n → (t.P j).cur.size ≤ 9223372036854775807 ∧ ∀ s, (t.P j).sp = some s → s.size ≤ 9223372036854775807

theorem sizeOne_fits (ok : Nat → Prop) (n : Int) (t : TD) (sl : Value) (w : World) (h1 : 0 ≤ n) (h2 : n ≤ 1048577) (hs : SlV ok w sl t) (hf : Fits t) :
    Calls Try.prog 6 #[.int .i64 n, .agg #[.string t.id, .int .i64 t.ca, .int .i64 t.cv, sl]] w fun e w' => ∃ r : Int, e = .returned (.int .i64 r) ∧ 0 ≤ r ∧ r ≤ 1048577 ∧ Below w.heap.size w w' :=
  sizeOne_any ok n t sl w h1 h2 hs hf.1 hf.2.2 hf.2.1

set_option maxRecDepth 100000 in
set_option maxHeartbeats 1000000 in
theorem size_any (ok : Nat → Prop) (x0 : Int) (n : Nat) (T : Nat → TD) (l : Value) (w : World) (h1 : 0 ≤ x0) (h2 : x0 ≤ 1048577) (hl : ListV ok w l n T) (hf : ∀ i, i < n → Fits (T i)) (hn : n ≤ 9223372036854775807) :
    Calls Try.prog 7 #[l, .int .i64 x0] w fun e w' => ∃ r : Int, e = .returned (.int .i64 r) ∧ 0 ≤ r ∧ r ≤ 1048577 ∧ Below w.heap.size w w' := by
  rcases hl with ⟨rfl, rfl⟩ | ⟨a, cap, rfl, _, hp⟩
  · go_enter Try.func7, Try.ntmps7
    go_wp2_with fail
    refine wp_loop_rounds 1 ?_
    rw [rounds_succ]
    go_wp2_with fail
    go_ret
    exact ⟨_, rfl, by omega, by omega, Below.refl _ _⟩
  · have HP : Hid (0 < n → ∃ b off, a = ⟨b, off, none⟩ ∧ ok b ∧ RowV ok w b off n T) := hp
    have HF : Hid (∀ i, i < n → Fits (T i)) := hf
    clear hp hf
    go_enter Try.func7, Try.ntmps7
    go_wp2_with fail
    go_loopw [1, 5] (fun v1 v5 wr => ∃ (x : Int) (i : Nat), 0 ≤ x ∧ x ≤ 1048577 ∧ i ≤ n ∧ v1 = .int .i64 x ∧ v5 = .int .i64 i ∧ Below w.heap.size w wr) (fun _ v5 _ => n - (intOf v5).toNat)
    case atStart => exact ⟨x0, 0, h1, h2, by omega, rfl, rfl, Below.refl _ _⟩
    case round =>
      obtain ⟨x, i, x1, x2, hi, rfl, rfl, hbel⟩ := hrel
      by_cases hgo : i < n ∧ x ≤ 1048576
      · obtain ⟨hlt, hx⟩ := hgo
        obtain ⟨b, off, rfl, hok, hrow⟩ := HP.out (by omega)
        obtain ⟨c0, c1, c2, sl, c3, hsl⟩ := hrow.later hok hbel i hlt
        clear hrow
        go_wp2_with fail
        refine (sizeOne_fits ok _ (T i) sl _ x1 x2 hsl (HF.out i hlt)).mono ?_
        rintro e w1 ⟨y, rfl, y1, y2, hb1⟩
        go_wp2_with fail
        go_roundw
        case rel => exact ⟨y, i + 1, y1, y2, by omega, rfl, by go_num, hbel.trans (hb1.mono hbel.size)⟩
        case measure => simp [intOf]; omega
      · by_cases hlt : i < n
        · have hx : 1048576 < x := by omega
          clear hgo
          go_wp2_with fail
          go_ret
          exact ⟨_, rfl, by omega, by omega, hbel⟩
        · clear hgo
          go_wp2_with fail
          go_ret
          exact ⟨_, rfl, by omega, by omega, hbel⟩
end Go.Proofs.Qxb6623445a
