/- The statement FnPosAtMovesWithTimeSaid. -/
import Derived.Test.Qxb6623335aLawAOut
import Derived.Test.Qxb6623335aOpen
namespace Go.Proofs.Qxb6623335a.fnPosAtMovesWithTime
open Go.ChangeShapes Go.WideShapes Go.ChangeAt Go.RowKit
open Go.ChangeMaps (open_string shut_string)

theorem own : ownKnob Try.prog.godebug = none := by kernel_rfl
theorem laidOut : laidOutB Try.prog = true := by kernel_rfl

theorem walk (a : Option Addr) (n cap : Nat) (nm : ByteArray) (bl bt t1 t2 : Int) (w : World) (hn : n ≤ 9223372036854775807) (hs : nm.size ≤ maxLen)
    (hh : n = 0 ∨ ∃ (b off : Nat) (F : Nat → Value) (At Kd Ps : Nat → Int) (Pl On : Nat → Bool), a = some ⟨b, off, none⟩ ∧ IsHist w b off n F At Kd Ps Pl On ∧ ∀ j, j < n → (Lit.int .i64 (At j)).wf = true ∧ (Lit.int .i64 (Ps j)).wf = true)
    (w5 : (Lit.int .i64 t2).wf = true) :
    Calls Try.prog 3 #[.slice a n cap, .string nm, .int .i64 bl, .int .i64 bt, .int .i64 t1, .int .i64 t2] w fun e w' => e = .returned (.bool true) ∧ Below w.heap.size w w' := by
  unfold maxLen at hs
  by_cases hout : 1048576 < n + nm.size ∨ 65536 < n ∨ n = 0 ∨ bl < 1 ∨ 1048576 < bl ∨ bt < 1 ∨ 1073741824 < bt
  · exact lawA_out a n cap nm bl bt t1 t2 w hn hs hout
  rcases hh with h0 | ⟨b, off, F, At, Kd, Ps, Pl, On, rfl, h, hwf⟩
  · omega
  have hb := mul_bounds bl bt (by omega) (by omega) (by omega) (by omega)
  have hw := wrap_len bl bt (by omega) (by omega) (by omega) (by omega)
  have ba := bounds_i64 (hwf (n - 1) (by omega)).1
  have bt2 := bounds_i64 w5
  by_cases hlate : Ps (n - 1) < 0 ∨ bl * bt ≤ Ps (n - 1) ∨ t1 < At (n - 1) ∨ t2 < t1 ∨ 9223372036854775807 < t2 - At (n - 1)
  · exact lawA_late b off n cap nm bl bt t1 t2 F At Kd Ps Pl On (bl * bt) w h (by omega) (by omega) (by omega) hw hb.1 hb.2 (by omega) (by omega) (by omega) (by omega) (by omega) (by omega) (by omega) (by omega) hlate
  · exact lawA_main b off n cap nm bl bt t1 t2 F At Kd Ps Pl On (bl * bt) w h (by omega) (by omega) (by omega) hw hw hb.1 hb.2 (by omega) (by omega) (by omega) (by omega) (by omega) (by omega) (by omega) (by omega) (by omega)

set_option maxRecDepth 100000 in
theorem lifted (os : Os) (started : os.Started) (H : Type) (enc : TypeId × Value → H) :
    ReturnsInHanded {} Try.checked os 3 .any (Rows.fnPosAtMovesWithTimeSpec.pre6 enc Try.prog Try.f3 Rows.fnPosAtMovesWithTimeRow.domain false) (Rows.fnPosAtMovesWithTimeSpec.post enc Try.prog Try.f3 false true false false) := by
  refine returnsInHanded_of_change (C := Try.checked) own started (by kernel_rfl) Try.func3
    (ChangeSpec.witness6 (enc := enc) (C := Try.checked) false ⟨#[], #[.slice none 0 0, .string ByteArray.empty, .int .i64 0, .int .i64 0, .int .i64 0, .int .i64 0], []⟩ 8 (by kernel_rfl) (by kernel_rfl) (by kernel_rfl) (by kernel_rfl)) ?_
  intro W base args ds gs before hval0 hW hcnd _
  have hval : ∀ (j : Nat) t v, Try.f3.params[j]? = some t → args[j]? = some v → Value.okWide Try.prog W .any base t v := hval0
  have hW' := hW
  obtain ⟨p, q, hA0, hV, rfl, hfz, hnd⟩ := hW
  have hA : DataW.TrodAll enc Try.prog W 0 (fun _ => true) true Try.f3.params.toList args.toList ds p := hA0
  rw [Try.params3] at hA hval
  obtain ⟨v0, vs0, d0, ds0, p0, q0, hargs, rfl, rfl, h0, r0⟩ := trodAll_cons hA
  obtain ⟨v1, vs1, d1, ds1, p1, q1, rfl, rfl, rfl, h1, r1⟩ := trodAll_cons r0
  obtain ⟨v2, vs2, d2, ds2, p2, q2, rfl, rfl, rfl, h2, r2⟩ := trodAll_cons r1
  obtain ⟨v3, vs3, d3, ds3, p3, q3, rfl, rfl, rfl, h3, r3⟩ := trodAll_cons r2
  obtain ⟨v4, vs4, d4, ds4, p4, q4, rfl, rfl, rfl, h4, r4⟩ := trodAll_cons r3
  obtain ⟨v5, vs5, d5, ds5, p5, q5, rfl, rfl, rfl, h5, r5⟩ := trodAll_cons r4
  obtain ⟨rfl, rfl, rfl⟩ := trodAll_nil r5
  obtain rfl : args = #[v0, v1, v2, v3, v4, v5] := by cases args; simp_all
  obtain ⟨rfl, rfl⟩ := trodVars_none hV
  obtain ⟨a0, len0, cap0, rfl⟩ := okWide_slice Try.underlying22 (hval 0 22 v0 rfl rfl)
  have k0 := h0
  have lt0 : ∀ x ∈ p0, x.block < W.heap.size := by obtain ⟨m, hm⟩ := k0; exact DataW.trod_lt m _ _ _ hm
  obtain ⟨hlen, hh⟩ := open_hist h0
  obtain ⟨s1, rfl, rfl, rfl, hs1⟩ := open_string Try.underlying9 (hval 1 9 v1 rfl rfl) h1
  obtain ⟨a2, rfl, rfl, rfl, w2⟩ := open_int Try.underlying3 (hval 2 3 v2 rfl rfl) h2
  obtain ⟨a3, rfl, rfl, rfl, w3⟩ := open_int Try.underlying2 (hval 3 2 v3 rfl rfl) h3
  obtain ⟨a4, rfl, rfl, rfl, w4⟩ := open_int Try.underlying2 (hval 4 2 v4 rfl rfl) h4
  obtain ⟨a5, rfl, rfl, rfl, w5⟩ := open_int Try.underlying2 (hval 5 2 v5 rfl rfl) h5
  clear hA0 hval0
  refine (walk a0 len0 cap0 s1 a2 a3 a4 a5 W hlen hs1 hh w5).mono fun e W' ⟨he, bel⟩ => ?_
  subst he
  exact ⟨_, rfl, _, _, _, [], _, [], hW', trodAll_mk1 (shut_bool Try.underlying4 _), (trodAll_cons_mk (Below.trod laidOut (by kernel_rfl) (of_decide_eq_true (by kernel_rfl)) k0 bel lt0) (trodAll_cons_mk (shut_string Try.underlying9 hs1) (trodAll_cons_mk (shut_int Try.underlying3 w2) (trodAll_cons_mk (shut_int Try.underlying2 w3) (trodAll_cons_mk (shut_int Try.underlying2 w4) (trodAll_cons_mk (shut_int Try.underlying2 w5) trodAll_mk0)))))), rfl, bel.frame _, fun h => by cases h⟩

theorem over : Rows.fnPosAtMovesWithTimeRow.holds Try.pinned (OpenSpec.ofChange Rows.fnPosAtMovesWithTimeSpec) :=
  OpenClaim.holds_of_wide 3 Try.f3 rfl rfl rfl rfl rfl rfl rfl ⟨rfl, rfl, rfl, rfl, rfl⟩ rfl rfl rfl rfl rfl (by kernel_rfl) Try.func3 (by kernel_rfl)
    (of_decide_eq_true (by kernel_rfl)) (by unfold Func.isWrapper; first | (rw [if_pos (by decide +kernel)]; kernel_rfl) | (rw [if_neg (by decide +kernel)]; exact ⟨rfl, rfl⟩))
    (fun os started H enc _ => lifted os started H enc)

theorem proved : Rows.FnPosAtMovesWithTimeSaid := over
#print axioms proved
end Go.Proofs.Qxb6623335a.fnPosAtMovesWithTime
