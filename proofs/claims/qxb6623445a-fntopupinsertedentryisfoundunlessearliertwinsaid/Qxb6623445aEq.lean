/- The walks of zzB1EqPrice, zzB1Eq, zzB1IsZero: two copies of one thing are equal. -/
import Derived.Test.Qxb6623445aModel
import Derived.Deep.QuietTactic
import Derived.BigQuiet
import Derived.Deep.RegionWith
namespace Go.Proofs.Qxb6623445a
open Go.RowKit

set_option maxRecDepth 100000 in
set_option maxHeartbeats 1000000 in
theorem eqPrice_any (ok : Nat → Prop) (p : PD) (va vb : Value) (w : World) (ha : SpV ok w va p.sp) (hb : SpV ok w vb p.sp) :
    Calls Try.prog 17 #[.agg #[.string p.cur, .int .i64 p.amt, va], .agg #[.string p.cur, .int .i64 p.amt, vb]] w fun e w' => e = .returned (.bool true) ∧ Below w.heap.size w w' := by
  cases hsp : p.sp with
  | none =>
    rw [hsp] at ha hb
    have ha' : va = .pointer none := ha
    have hb' : vb = .pointer none := hb
    subst ha' hb'
    clear ha hb hsp
    go_enter Try.func17, Try.ntmps17
    go_wp2_with fail
    go_quiet (fail)
    go_wp2_with fail
    go_ret
    exact ⟨rfl, below_drewN ((below_alloc _ _).alloc (by simp) _) _⟩
  | some s =>
    rw [hsp] at ha hb
    obtain ⟨b1, o1, rfl, hok1, c1⟩ := ha
    obtain ⟨b2, o2, rfl, hok2, c2⟩ := hb
    have hlt1 := block_lt_of_cell c1
    have hlt2 := block_lt_of_cell c2
    clear hsp
    go_enter Try.func17, Try.ntmps17
    go_wp2_with fail
    go_quiet (fail)
    go_wp2_with fail
    go_ret
    exact ⟨rfl, below_drewN ((below_alloc _ _).alloc (by simp) _) _⟩

set_option maxRecDepth 100000 in
set_option maxHeartbeats 1000000 in
theorem eq_any (ok : Nat → Prop) (t : TD) (sa sb : Value) (w : World) (ha : SlV ok w sa t) (hb : SlV ok w sb t) (hn : t.n ≤ 1048576) :
    Calls Try.prog 11 #[.agg #[.string t.id, .int .i64 t.ca, .int .i64 t.cv, sa], .agg #[.string t.id, .int .i64 t.ca, .int .i64 t.cv, sb]] w fun e w' => e = .returned (.bool true) ∧ Below w.heap.size w w' := by
  have heqn : ∀ w, (binOp .eql 32 (.slice none 0 0) (.slice none 0 0)).run Try.prog w = .ok (.bool true) w := fun w => Lib.run_eql_slice_nil w 32 53 none 0 0 0 0 Try.underlying32
  have heqs : ∀ (a : Addr) (n c : Nat) w, (binOp .eql 32 (.slice (some a) n c) (.slice none 0 0)).run Try.prog w = .ok (.bool false) w := fun a n c w => Lib.run_eql_slice_nil w 32 53 (some a) n c 0 0 Try.underlying32
  rcases ha with ⟨rfl, hnil, hn0⟩ | ⟨hnil, a, ca, rfl, hpa⟩
  · rcases hb with ⟨rfl, _, _⟩ | ⟨hnil', _⟩
    · clear hnil hn0
      go_enter Try.func11, Try.ntmps11
      go_wp2_with fail
      refine wp_loop_rounds 1 ?_
      rw [rounds_succ]
      go_wp2_with fail
      go_ret
      exact ⟨rfl, (below_alloc _ _).alloc (by simp) _⟩
    · rw [hnil] at hnil'; cases hnil'
  · rcases hb with ⟨_, hnil', _⟩ | ⟨hnil2, b, cb, rfl, hpb⟩
    · rw [hnil] at hnil'; cases hnil'
    · have HA : Hid (0 < t.n → ∃ b off, a = ⟨b, off, none⟩ ∧ ok b ∧ PrV ok w b off t.n t.P) := hpa
      have HB : Hid (0 < t.n → ∃ b1 off, b = ⟨b1, off, none⟩ ∧ ok b1 ∧ PrV ok w b1 off t.n t.P) := hpb
      clear hpa hpb hnil hnil2
      go_enter Try.func11, Try.ntmps11
      go_wp2_with fail
      go_loopw [5] (fun v5 wr => ∃ j : Nat, j ≤ t.n ∧ v5 = .int .i64 j ∧ Below (w.heap.size + 1 + 1) ((w.alloc (.cells #[.string t.id, .int .i64 t.ca, .int .i64 t.cv, .slice (some a) t.n ca] 34)).alloc (.cells #[.string t.id, .int .i64 t.ca, .int .i64 t.cv, .slice (some b) t.n cb] 34)) wr) (fun v5 _ => t.n - (intOf v5).toNat)
      case atStart => exact ⟨0, by omega, rfl, Below.refl _ _⟩
      case round =>
        obtain ⟨j, hj, rfl, hbel⟩ := hrel
        have hBw : Below w.heap.size w wr := (((below_alloc w _).alloc (by simp) _)).trans (hbel.mono (by omega))
        have hsz : w.heap.size + 1 + 1 ≤ wr.heap.size := by have := hbel.size; simpa using this
        have k3 : wr.cell? ⟨w.heap.size, 3, none⟩ = some (.slice (some a) t.n ca) := (hbel.cell (p := ⟨w.heap.size, 3, none⟩) (by show w.heap.size < _; omega)).trans (by simp)
        have l3 : wr.cell? ⟨w.heap.size + 1, 3, none⟩ = some (.slice (some b) t.n cb) := (hbel.cell (p := ⟨w.heap.size + 1, 3, none⟩) (by show w.heap.size + 1 < _; omega)).trans (by simp)
        by_cases hlt : j < t.n
        · obtain ⟨b1, off1, rfl, hok1, hp1⟩ := HA.out (by omega)
          obtain ⟨b2, off2, rfl, hok2, hp2⟩ := HB.out (by omega)
          obtain ⟨c0, c1, va, c2, hva⟩ := hp1.later hok1 hBw j hlt
          obtain ⟨d0, d1, vb, d2, hvb⟩ := hp2.later hok2 hBw j hlt
          clear hp1 hp2
          have hlt' : (j : Int) < t.n := by omega
          have hlt'' : (0 : Int) ≤ j := by omega
          go_wp2_with fail
          go_region_with (go_at_call 17; refine (eqPrice_any ok (t.P j) va vb _ (by exact hva) (by exact hvb)).mono ?_; rintro e w1 ⟨rfl, hb1⟩)
          all_goals
            go_wp2_with fail
            go_roundw
            case rel => exact ⟨j + 1, by omega, by go_num, hbel.drew.trans (hb1.mono (by exact hsz))⟩
            case measure => simp [intOf]; omega
        · go_wp2_with fail
          go_ret
          exact ⟨rfl, hBw⟩

set_option maxHeartbeats 400000 in
theorem isZero_yes (w : World) :
    Calls Try.prog 14 #[.agg #[.string ⟨#[]⟩, .int .i64 0, .int .i64 0, .slice none 0 0]] w fun e w' => e = .returned (.bool true) ∧ Below w.heap.size w w' := by
  have heqn : ∀ w, (binOp .eql 32 (.slice none 0 0) (.slice none 0 0)).run Try.prog w = .ok (.bool true) w := fun w => Lib.run_eql_slice_nil w 32 53 none 0 0 0 0 Try.underlying32
  go_enter Try.func14, Try.ntmps14
  go_wp2_with fail
  go_ret
  exact ⟨rfl, below_alloc _ _⟩
end Go.Proofs.Qxb6623445a
