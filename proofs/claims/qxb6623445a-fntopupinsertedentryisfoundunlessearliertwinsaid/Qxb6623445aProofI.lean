/- The statement FnTopUpInsertedEntryIsFoundUnlessEarlierTwinSaid. -/
import Derived.Test.Qxb6623445aLawI
import Derived.Test.Qxb6623445aOpen
namespace Go.Proofs.Qxb6623445a.fnTopUpInsertedEntryIsFoundUnlessEarlierTwin
open Go.ChangeShapes Go.WideShapes Go.ChangeAt Go.RowKit

theorem own : ownKnob Try.prog.godebug = none := by kernel_rfl
theorem laidOut : laidOutB Try.prog = true := by kernel_rfl

theorem open_td_arg {H : Type} {enc : TypeId × Value → H} {W : World} {r : Reach} {base : Nat} {v : Value} {d : DataW H} {p : List MemPlace} (hv : Value.okWide Try.prog W r base 25 v)
    (h : DataW.Trod enc Try.prog W 0 (fun _ => true) true 25 v d p) :
    ∃ (t : TD) (st : Value), v = .agg #[.string t.id, .int .i64 t.ca, .int .i64 t.cv, st] ∧ SlV Any W st t ∧ Fits t := by
  obtain ⟨cs, rfl, _⟩ := okWide_struct Try.underlying25 hv
  obtain ⟨fuel, hf⟩ := h
  obtain ⟨t, st, hcs, hs, hft⟩ := open_td hf
  refine ⟨t, st, ?_, hs, hft⟩
  simp only [Value.cells] at hcs
  rw [← Array.toArray_toList (xs := cs), hcs]

theorem walk (la : Option Addr) (n lcp : Nat) (T : Nat → TD) (t : TD) (st : Value) (k : Int) (w : World) (hl : ListV Any w (.slice la n lcp) n T) (ht : SlV Any w st t) (hf : ∀ i, i < n → Fits (T i)) (hft : Fits t) (hn : n ≤ 9223372036854775807) (hcp : n ≤ lcp) :
    Calls Try.prog 3 #[.slice la n lcp, .agg #[.string t.id, .int .i64 t.ca, .int .i64 t.cv, st], .int .i64 k] w fun e w' => e = .returned (.bool true) ∧ Below w.heap.size w w' := by
  by_cases hout : k < 0 ∨ (n : Int) < k
  · exact lawI_out n T t la lcp st k w hl ht hf hft hn hout
  · obtain ⟨j, rfl⟩ := Int.eq_ofNat_of_zero_le (show 0 ≤ k by omega)
    exact lawI_main n T t la lcp st j w hl ht hf hft hn (by omega) hcp

set_option maxRecDepth 100000 in
theorem lifted (os : Os) (started : os.Started) (H : Type) (enc : TypeId × Value → H) :
    ReturnsInHanded {} Try.checked os 3 .any (Rows.fnTopUpInsertedEntryIsFoundUnlessEarlierTwinSpec.pre6 enc Try.prog Try.f3 Rows.fnTopUpInsertedEntryIsFoundUnlessEarlierTwinRow.domain false) (Rows.fnTopUpInsertedEntryIsFoundUnlessEarlierTwinSpec.post enc Try.prog Try.f3 false true false false) := by
  refine returnsInHanded_of_change (C := Try.checked) own started (by kernel_rfl) Try.func3
    (ChangeSpec.witness6 (enc := enc) (C := Try.checked) false ⟨#[], #[.slice none 0 0, .agg #[.string ByteArray.empty, .int .i64 0, .int .i64 0, .slice none 0 0], .int .i64 0], []⟩ 8 (by kernel_rfl) (by kernel_rfl) (by kernel_rfl) (by kernel_rfl)) ?_
  intro W base args ds gs before hval0 hW hcnd _
  have hval : ∀ (j : Nat) t v, Try.f3.params[j]? = some t → args[j]? = some v → Value.okWide Try.prog W .any base t v := hval0
  have hW' := hW
  obtain ⟨p, q, hA0, hV, rfl, hfz, hnd⟩ := hW
  have hA : DataW.TrodAll enc Try.prog W 0 (fun _ => true) true Try.f3.params.toList args.toList ds p := hA0
  rw [Try.params3] at hA hval
  obtain ⟨v0, vs0, d0, ds0, p0, q0, hargs, rfl, rfl, h0, r0⟩ := trodAll_cons hA
  obtain ⟨v1, vs1, d1, ds1, p1, q1, rfl, rfl, rfl, h1, r1⟩ := trodAll_cons r0
  obtain ⟨v2, vs2, d2, ds2, p2, q2, rfl, rfl, rfl, h2, r2⟩ := trodAll_cons r1
  obtain ⟨rfl, rfl, rfl⟩ := trodAll_nil r2
  obtain rfl : args = #[v0, v1, v2] := by cases args; simp_all
  obtain ⟨rfl, rfl⟩ := trodVars_none hV
  obtain ⟨a0, len0, cap0, rfl⟩ := okWide_slice Try.underlying22 (hval 0 22 v0 rfl rfl)
  have k0 := h0
  have lt0 : ∀ x ∈ p0, x.block < W.heap.size := by obtain ⟨m, hm⟩ := k0; exact DataW.trod_lt m _ _ _ hm
  obtain ⟨T, hl, hf, hn, hcp⟩ := open_list h0
  have k1 := h1
  have lt1 : ∀ x ∈ p1, x.block < W.heap.size := by obtain ⟨m, hm⟩ := k1; exact DataW.trod_lt m _ _ _ hm
  obtain ⟨t, st, rfl, ht, hft⟩ := open_td_arg (hval 1 25 v1 rfl rfl) h1
  obtain ⟨a2, rfl, rfl, rfl, w2⟩ := open_int Try.underlying3 (hval 2 3 v2 rfl rfl) h2
  clear hA0 hval0
  refine (walk a0 len0 cap0 T t st a2 W hl ht hf hft hn hcp).mono fun e W' ⟨he, bel⟩ => ?_
  subst he
  exact ⟨_, rfl, _, _, _, [], _, [], hW', trodAll_mk1 (shut_bool Try.underlying4 _), (trodAll_cons_mk (Below.trod laidOut (by kernel_rfl) (of_decide_eq_true (by kernel_rfl)) k0 bel lt0) (trodAll_cons_mk (Below.trod laidOut (by kernel_rfl) (of_decide_eq_true (by kernel_rfl)) k1 bel lt1) (trodAll_cons_mk (shut_int Try.underlying3 w2) trodAll_mk0))), rfl, bel.frame _, fun h => by cases h⟩

theorem over : Rows.fnTopUpInsertedEntryIsFoundUnlessEarlierTwinRow.holds Try.pinned (OpenSpec.ofChange Rows.fnTopUpInsertedEntryIsFoundUnlessEarlierTwinSpec) :=
  OpenClaim.holds_of_wide 3 Try.f3 rfl rfl rfl rfl rfl rfl rfl ⟨rfl, rfl, rfl, rfl, rfl⟩ rfl rfl rfl rfl rfl (by kernel_rfl) Try.func3 (by kernel_rfl)
    (of_decide_eq_true (by kernel_rfl)) (by unfold Func.isWrapper; first | (rw [if_pos (by decide +kernel)]; kernel_rfl) | (rw [if_neg (by decide +kernel)]; exact ⟨rfl, rfl⟩))
    (fun os started H enc _ => lifted os started H enc)

theorem proved : Rows.FnTopUpInsertedEntryIsFoundUnlessEarlierTwinSaid := over
#print axioms proved
end Go.Proofs.Qxb6623445a.fnTopUpInsertedEntryIsFoundUnlessEarlierTwin
