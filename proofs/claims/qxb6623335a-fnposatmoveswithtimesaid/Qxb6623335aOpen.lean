/- A slice of changes that came in, opened. -/
import Derived.Test.Qxb6623335aHist
import Derived.ProofKit
import Derived.OpenShut
import Derived.ShutString
import Derived.ChangeOld
import Derived.Deep.Slices
namespace Go.Proofs.Qxb6623335a
open Go.ChangeShapes Go.WideShapes Go.ChangeAt Go.RowKit

theorem Try.cells25 : Try.prog.cellsOf 25 = 5 := by kernel_rfl
theorem Try.cells2 : Try.prog.cellsOf 2 = 1 := by kernel_rfl
theorem Try.cells5 : Try.prog.cellsOf 5 = 1 := by kernel_rfl
theorem Try.cells4 : Try.prog.cellsOf 4 = 1 := by kernel_rfl

theorem list5 {α : Type} (l : List α) (h : l.length = 5) : ∃ a b c d e, l = [a, b, c, d, e] := by
  match l, h with
  | [a, b, c, d, e], _ => exact ⟨a, b, c, d, e, rfl⟩

theorem open_change {H : Type} {enc : TypeId × Value → H} {W : World} {fuel : Nat} {cs : List Value} {x : DataW H × List MemPlace} (h : DataW.trod enc Try.prog W 0 (fun _ => true) true fuel 25 cs = some x) :
    ∃ q : Int × Int × Int × Bool × Bool, cs = [.int .i64 q.1, .int .u8 q.2.1, .int .i64 q.2.2.1, .bool q.2.2.2.1, .bool q.2.2.2.2] ∧ (Lit.int .i64 q.1).wf = true ∧ (Lit.int .i64 q.2.2.1).wf = true := by
  obtain ⟨xs, n, _, _, hl, hxl, hf⟩ := DataW.trod_struct Try.underlying25 h
  rw [Try.cells25] at hl
  obtain ⟨v0, v1, v2, v3, v4, rfl⟩ := list5 cs hl
  obtain ⟨y0, y1, y2, y3, y4, rfl⟩ := list5 xs hxl
  have g0 := hf 0 _ rfl
  have g1 := hf 1 _ rfl
  have g2 := hf 2 _ rfl
  have g3 := hf 3 _ rfl
  have g4 := hf 4 _ rfl
  simp [Try.cells2, Try.cells5, Try.cells4] at g0 g1 g2 g3 g4
  obtain ⟨a0, e0, _, w0⟩ := DataW.trod_int Try.underlying2 g0
  obtain ⟨a1, e1, _, w1⟩ := DataW.trod_int Try.underlying5 g1
  obtain ⟨a2, e2, _, w2⟩ := DataW.trod_int Try.underlying2 g2
  obtain ⟨a3, e3, _⟩ := DataW.trod_bool Try.underlying4 g3
  obtain ⟨a4, e4, _⟩ := DataW.trod_bool Try.underlying4 g4
  simp at e0 e1 e2 e3 e4
  subst e0 e1 e2 e3 e4
  exact ⟨(a0, a1, a2, a3, a4), rfl, w0, w2⟩

theorem open_hist {H : Type} {enc : TypeId × Value → H} {W : World} {a : Option Addr} {len cap : Nat} {d : DataW H} {p : List MemPlace}
    (h : DataW.Trod enc Try.prog W 0 (fun _ => true) true 22 (.slice a len cap) d p) :
    len ≤ 9223372036854775807 ∧ (len = 0 ∨ ∃ (b off : Nat) (F : Nat → Value) (At Kd Ps : Nat → Int) (Pl On : Nat → Bool), a = some ⟨b, off, none⟩ ∧ IsHist W b off len F At Kd Ps Pl On ∧
      ∀ j, j < len → (Lit.int .i64 (At j)).wf = true ∧ (Lit.int .i64 (Ps j)).wf = true) := by
  obtain ⟨fuel, hf⟩ := h
  simp only [Value.cells] at hf
  rcases Deep.open_slice Try.underlying22 hf with ⟨hcs, _⟩ | ⟨x, l, c, m, n, D, Pc, hcs, _, hl, hm, hmm, _, hx⟩
  · simp at hcs
    exact ⟨by omega, .inl (by omega)⟩
  · simp at hcs
    obtain ⟨rfl, rfl, rfl⟩ := hcs
    unfold maxLen at hm
    refine ⟨by omega, ?_⟩
    by_cases h0 : len = 0
    · exact .inl h0
    right
    simp only [if_true] at hmm
    subst hmm
    rw [Try.cells25] at hx
    obtain ⟨q, hq⟩ := Deep.choose_lt (n := m) (α := Int × Int × Int × Bool × Bool) (p := fun i q => W.cells? 0 (x.add (i * 5)) 5 = some [.int .i64 q.1, .int .u8 q.2.1, .int .i64 q.2.2.1, .bool q.2.2.2.1, .bool q.2.2.2.2] ∧ (Lit.int .i64 q.1).wf = true ∧ (Lit.int .i64 q.2.2.1).wf = true) (fun i hi => by
      obtain ⟨cs', h1, h2⟩ := hx i hi
      obtain ⟨q, rfl, hw⟩ := open_change h2
      exact ⟨q, h1, hw⟩)
    obtain ⟨b, off, spot⟩ := x
    have hc : ∀ i, i < len → ∀ r, r < 5 → W.cell? ((⟨b, off, spot⟩ : Addr).add (i * 5 + r)) = [Value.int .i64 (q i).1, .int .u8 (q i).2.1, .int .i64 (q i).2.2.1, .bool (q i).2.2.2.1, .bool (q i).2.2.2.2][r]? := fun i hi r hr => by
      have := (World.cells?_some (hq i (by omega)).1).2.2 r hr
      rwa [Deep.add_add] at this
    have hspot : spot = none := by
      have := hc 0 (by omega) 0 (by omega)
      simp [Addr.add] at this
      exact World.cell?_spot this
    subst hspot
    have hc' : ∀ i, i < len → ∀ r, r < 5 → W.cell? ⟨b, off + (i * 5 + r), none⟩ = [Value.int .i64 (q i).1, .int .u8 (q i).2.1, .int .i64 (q i).2.2.1, .bool (q i).2.2.2.1, .bool (q i).2.2.2.2][r]? := fun i hi r hr => by
      rw [← WideShapes.add_plain]; exact hc i hi r hr
    have hlt : b < W.heap.size := by
      have := hc' 0 (by omega) 0 (by omega)
      simp at this
      exact block_lt_of_cell this
    refine ⟨b, off, fun i => (W.cell? ⟨b, off + i, none⟩).getD (.bool false), fun i => (q i).1, fun i => (q i).2.1, fun i => (q i).2.2.1, fun i => (q i).2.2.2.1, fun i => (q i).2.2.2.2, rfl, ⟨hlt, ?_, ?_⟩, fun j hj => (hq j (by omega)).2⟩
    · intro i hi
      have := hc' (i / 5) (by omega) (i % 5) (by omega)
      rw [show i / 5 * 5 + i % 5 = i by omega] at this
      have h5 : i % 5 < 5 := by omega
      rw [this, List.getElem?_eq_getElem (by simpa using h5)]
      rfl
    · intro j hj
      refine ⟨?_, ?_, ?_, ?_, ?_⟩
      · have := hc' j hj 0 (by omega); simp at this ⊢; simp [this]
      · have := hc' j hj 1 (by omega); simp at this ⊢; simp [this]
      · have := hc' j hj 2 (by omega); simp at this ⊢; simp [this]
      · have := hc' j hj 3 (by omega); simp at this ⊢; simp [this]
      · have := hc' j hj 4 (by omega); simp at this ⊢; simp [this]
end Go.Proofs.Qxb6623335a
