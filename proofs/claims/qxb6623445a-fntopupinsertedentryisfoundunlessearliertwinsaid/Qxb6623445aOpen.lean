/- Top-ups that came in, opened. -/
import Derived.Test.Qxb6623445aShared
import Derived.Test.Qxb6623445aSize
import Derived.ProofKit
import Derived.OpenShut
import Derived.ShutString
import Derived.ChangeOld
import Derived.Deep.Slices
namespace Go.Proofs.Qxb6623445a
open Go.ChangeShapes Go.WideShapes Go.ChangeAt Go.RowKit

theorem Try.cells25 : Try.prog.cellsOf 25 = 4 := by kernel_rfl
theorem Try.cells50 : Try.prog.cellsOf 50 = 3 := by kernel_rfl
theorem Try.cells48 : Try.prog.cellsOf 48 = 1 := by kernel_rfl
theorem Try.cells23 : Try.prog.cellsOf 23 = 1 := by kernel_rfl
theorem Try.cells9 : Try.prog.cellsOf 9 = 1 := by kernel_rfl
theorem Try.cells2 : Try.prog.cellsOf 2 = 1 := by kernel_rfl
theorem Try.cells3 : Try.prog.cellsOf 3 = 1 := by kernel_rfl

theorem list3 {α : Type} (l : List α) (h : l.length = 3) : ∃ a b c, l = [a, b, c] := by
  match l, h with
  | [a, b, c], _ => exact ⟨a, b, c, rfl⟩
theorem list4 {α : Type} (l : List α) (h : l.length = 4) : ∃ a b c d, l = [a, b, c, d] := by
  match l, h with
  | [a, b, c, d], _ => exact ⟨a, b, c, d, rfl⟩

section
variable {H : Type} {enc : TypeId × Value → H} {W : World}

theorem open_sp {fuel : Nat} {v : Value} {x : DataW H × List MemPlace} (h : DataW.trod enc Try.prog W 0 (fun _ => true) true fuel 48 [v] = some x) :
    ∃ sp : Option ByteArray, SpV Any W v sp ∧ ∀ s, sp = some s → s.size ≤ 9223372036854775807 := by
  rcases DataW.trod_pointer Try.underlying48 h with ⟨e, _⟩ | ⟨a, cs', y, n, _, e, _, hc, hy⟩
  · simp at e
    exact ⟨none, e, fun s hs => by cases hs⟩
  · simp at e
    subst e
    obtain ⟨s, rfl, _, hs⟩ := DataW.trod_string Try.underlying9 hy
    rw [Try.cells9] at hc
    have hcell := (World.cells?_some hc).2.2 0 (by omega)
    simp [Addr.add] at hcell
    obtain ⟨b, o, spot⟩ := a
    have hspot : spot = none := World.cell?_spot hcell
    subst hspot
    exact ⟨some s, ⟨b, o, rfl, trivial, hcell⟩, fun s' hs' => by cases hs'; simpa [maxLen] using hs⟩

theorem open_price {fuel : Nat} {cs : List Value} {x : DataW H × List MemPlace} (h : DataW.trod enc Try.prog W 0 (fun _ => true) true fuel 50 cs = some x) :
    ∃ (p : PD) (v : Value), cs = [.string p.cur, .int .i64 p.amt, v] ∧ SpV Any W v p.sp ∧ p.cur.size ≤ 9223372036854775807 ∧ ∀ s, p.sp = some s → s.size ≤ 9223372036854775807 := by
  obtain ⟨xs, n, _, _, hl, hxl, hf⟩ := DataW.trod_struct Try.underlying50 h
  rw [Try.cells50] at hl
  obtain ⟨v0, v1, v2, rfl⟩ := list3 cs hl
  obtain ⟨y0, y1, y2, rfl⟩ := list3 xs hxl
  have g0 := hf 0 _ rfl
  have g1 := hf 1 _ rfl
  have g2 := hf 2 _ rfl
  simp [Try.cells9, Try.cells2, Try.cells48] at g0 g1 g2
  obtain ⟨s, e0, _, hs⟩ := DataW.trod_string Try.underlying9 g0
  obtain ⟨a, e1, _, _⟩ := DataW.trod_int Try.underlying2 g1
  obtain ⟨sp, hsp, hsz⟩ := open_sp g2
  simp at e0 e1
  subst e0 e1
  exact ⟨⟨s, a, sp⟩, v2, rfl, hsp, by simpa [maxLen] using hs, hsz⟩

theorem open_prices {fuel : Nat} {v : Value} {x : DataW H × List MemPlace} (h : DataW.trod enc Try.prog W 0 (fun _ => true) true fuel 23 [v] = some x) :
    ∃ (nl : Bool) (n : Nat) (P : Nat → PD), (∀ id ca cv, SlV Any W v ⟨id, ca, cv, nl, n, P⟩) ∧ n ≤ 9223372036854775807 ∧
      ∀ j, j < n → (P j).cur.size ≤ 9223372036854775807 ∧ ∀ s, (P j).sp = some s → s.size ≤ 9223372036854775807 := by
  rcases Deep.open_slice Try.underlying23 h with ⟨hcs, _⟩ | ⟨a, l, c, m, n, D, Pc, hcs, _, hl, hm, hmm, _, hx⟩
  · simp at hcs
    subst hcs
    exact ⟨true, 0, fun _ => ⟨⟨#[]⟩, 0, none⟩, fun _ _ _ => .inl ⟨rfl, rfl, rfl⟩, by omega, fun j hj => absurd hj (by omega)⟩
  · simp at hcs
    subst hcs
    unfold maxLen at hm
    simp only [if_true] at hmm
    subst hmm
    rw [Try.cells50] at hx
    obtain ⟨q, hq⟩ := @Deep.choose_lt (PD × Value) ⟨(⟨⟨#[]⟩, 0, none⟩, .bool false)⟩ m (fun i q => W.cells? 0 (a.add (i * 3)) 3 = some [.string q.1.cur, .int .i64 q.1.amt, q.2] ∧ SpV Any W q.2 q.1.sp ∧ q.1.cur.size ≤ 9223372036854775807 ∧ ∀ s, q.1.sp = some s → s.size ≤ 9223372036854775807) (fun i hi => by
      obtain ⟨cs', h1, h2⟩ := hx i hi
      obtain ⟨p, v, rfl, r⟩ := open_price h2
      exact ⟨(p, v), h1, r⟩)
    refine ⟨false, l, fun i => (q i).1, fun _ _ _ => .inr ⟨rfl, a, m, rfl, fun hpos => ?_⟩, by omega, fun j hj => (hq j (by omega)).2.2⟩
    have hpos' : 0 < l := hpos
    obtain ⟨b, off, spot⟩ := a
    have hc : ∀ i, i < l → ∀ r, r < 3 → W.cell? ((⟨b, off, spot⟩ : Addr).add (i * 3 + r)) = [Value.string (q i).1.cur, .int .i64 (q i).1.amt, (q i).2][r]? := fun i hi r hr => by
      have := (World.cells?_some (hq i (by omega)).1).2.2 r hr
      rwa [Deep.add_add] at this
    have hspot : spot = none := by
      have := hc 0 hpos' 0 (by omega)
      simp [Addr.add] at this
      exact World.cell?_spot this
    subst hspot
    refine ⟨b, off, rfl, trivial, fun j hj => ?_⟩
    have hj' : j < l := hj
    refine ⟨?_, ?_, (q j).2, ?_, (hq j (by omega)).2.1⟩
    · have := hc j hj' 0 (by omega)
      rw [WideShapes.add_plain] at this
      simpa using this
    · have := hc j hj' 1 (by omega)
      rw [WideShapes.add_plain, ← Nat.add_assoc] at this
      simpa using this
    · have := hc j hj' 2 (by omega)
      rw [WideShapes.add_plain, ← Nat.add_assoc] at this
      simpa using this

theorem open_td {fuel : Nat} {cs : List Value} {x : DataW H × List MemPlace} (h : DataW.trod enc Try.prog W 0 (fun _ => true) true fuel 25 cs = some x) :
    ∃ (t : TD) (v : Value), cs = [.string t.id, .int .i64 t.ca, .int .i64 t.cv, v] ∧ SlV Any W v t ∧ Fits t := by
  obtain ⟨xs, n, _, _, hl, hxl, hf⟩ := DataW.trod_struct Try.underlying25 h
  rw [Try.cells25] at hl
  obtain ⟨v0, v1, v2, v3, rfl⟩ := list4 cs hl
  obtain ⟨y0, y1, y2, y3, rfl⟩ := list4 xs hxl
  have g0 := hf 0 _ rfl
  have g1 := hf 1 _ rfl
  have g2 := hf 2 _ rfl
  have g3 := hf 3 _ rfl
  simp [Try.cells9, Try.cells2, Try.cells3, Try.cells23] at g0 g1 g2 g3
  obtain ⟨s, e0, _, hs⟩ := DataW.trod_string Try.underlying9 g0
  obtain ⟨a, e1, _, _⟩ := DataW.trod_int Try.underlying2 g1
  obtain ⟨c, e2, _, _⟩ := DataW.trod_int Try.underlying3 g2
  obtain ⟨nl, m, P, hsl, hm, hP⟩ := open_prices g3
  simp at e0 e1 e2
  subst e0 e1 e2
  exact ⟨⟨s, a, c, nl, m, P⟩, v3, rfl, hsl _ _ _, by simpa [maxLen] using hs, hm, hP⟩

theorem open_list {a : Option Addr} {len cap : Nat} {d : DataW H} {p : List MemPlace} (h : DataW.Trod enc Try.prog W 0 (fun _ => true) true 22 (.slice a len cap) d p) :
    ∃ T : Nat → TD, ListV Any W (.slice a len cap) len T ∧ (∀ i, i < len → Fits (T i)) ∧ len ≤ 9223372036854775807 ∧ len ≤ cap := by
  obtain ⟨fuel, hf⟩ := h
  simp only [Value.cells] at hf
  rcases Deep.open_slice Try.underlying22 hf with ⟨hcs, _⟩ | ⟨x, l, c, m, n, D, Pc, hcs, _, hl, hm, hmm, _, hx⟩
  · simp at hcs
    obtain ⟨rfl, rfl, rfl⟩ := hcs
    exact ⟨fun _ => zeroTD, .inl ⟨rfl, rfl⟩, fun i hi => absurd hi (by omega), by omega, by omega⟩
  · simp at hcs
    obtain ⟨rfl, rfl, rfl⟩ := hcs
    unfold maxLen at hm
    simp only [if_true] at hmm
    subst hmm
    rw [Try.cells25] at hx
    obtain ⟨q, hq⟩ := @Deep.choose_lt (TD × Value) ⟨(zeroTD, .bool false)⟩ m (fun i q => W.cells? 0 (x.add (i * 4)) 4 = some [.string q.1.id, .int .i64 q.1.ca, .int .i64 q.1.cv, q.2] ∧ SlV Any W q.2 q.1 ∧ Fits q.1) (fun i hi => by
      obtain ⟨cs', h1, h2⟩ := hx i hi
      obtain ⟨p, v, rfl, r⟩ := open_td h2
      exact ⟨(p, v), h1, r⟩)
    refine ⟨fun i => (q i).1, .inr ⟨x, m, rfl, hl, fun hpos => ?_⟩, fun i hi => (hq i (by omega)).2.2, by omega, hl⟩
    obtain ⟨b, off, spot⟩ := x
    have hc : ∀ i, i < len → ∀ r, r < 4 → W.cell? ((⟨b, off, spot⟩ : Addr).add (i * 4 + r)) = [Value.string (q i).1.id, .int .i64 (q i).1.ca, .int .i64 (q i).1.cv, (q i).2][r]? := fun i hi r hr => by
      have := (World.cells?_some (hq i (by omega)).1).2.2 r hr
      rwa [Deep.add_add] at this
    have hspot : spot = none := by
      have := hc 0 hpos 0 (by omega)
      simp [Addr.add] at this
      exact World.cell?_spot this
    subst hspot
    refine ⟨b, off, rfl, trivial, fun j hj => ?_⟩
    refine ⟨?_, ?_, ?_, (q j).2, ?_, (hq j (by omega)).2.1⟩
    · have := hc j hj 0 (by omega)
      rw [WideShapes.add_plain] at this
      simpa using this
    · have := hc j hj 1 (by omega)
      rw [WideShapes.add_plain, ← Nat.add_assoc] at this
      simpa using this
    · have := hc j hj 2 (by omega)
      rw [WideShapes.add_plain, ← Nat.add_assoc] at this
      simpa using this
    · have := hc j hj 3 (by omega)
      rw [WideShapes.add_plain, ← Nat.add_assoc] at this
      simpa using this

end
end Go.Proofs.Qxb6623445a
