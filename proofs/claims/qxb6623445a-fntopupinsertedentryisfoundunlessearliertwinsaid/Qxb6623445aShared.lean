/- Small lemmas that both laws want. -/
import Derived.Test.Qxb6623445aWithout
import Derived.Test.Qxb6623445aFind
import Derived.Test.Qxb6623445aEq
namespace Go.Proofs.Qxb6623445a
open Go.RowKit

/-- Any block. -/
def Any : Nat → Prop := fun _ => True

theorem ListV.any {ok : Nat → Prop} {w : World} {v : Value} {n : Nat} {T : Nat → TD} (h : ListV ok w v n T) : ListV Any w v n T := h.keep (fun _ _ _ => rfl) (fun _ _ => trivial)
theorem TuV.any {ok : Nat → Prop} {w : World} {v : Value} {t : TD} (h : TuV ok w v t) : TuV Any w v t := h.keep (fun _ _ _ => rfl) (fun _ _ => trivial)

/-- A list, its value laid open. -/
theorem ListV.shown {ok : Nat → Prop} {w : World} {v : Value} {n : Nat} {T : Nat → TD} (h : ListV ok w v n T) : ∃ oa cp, v = .slice oa n cp := by
  rcases h with ⟨h, h0⟩ | ⟨a, cap, h, hc, hp⟩
  · exact ⟨none, 0, by rw [h0]; exact h⟩
  · exact ⟨some a, cap, h⟩

theorem ListV.front {ok : Nat → Prop} {w : World} {oa : Option Addr} {n cp k : Nat} {T : Nat → TD} (h : ListV ok w (.slice oa n cp) n T) (hk : k ≤ n) : ListV ok w (.slice oa k cp) k T := by
  rcases h with ⟨h, h0⟩ | ⟨a, cap, h, hc, hp⟩
  · simp at h
    obtain ⟨rfl, h1, rfl⟩ := h
    exact .inl ⟨by rw [show k = 0 by omega], by omega⟩
  · simp at h
    obtain ⟨rfl, rfl⟩ := h
    refine .inr ⟨a, cp, rfl, by omega, fun h0 => ?_⟩
    obtain ⟨b, off, e, hok, hrow⟩ := hp (by omega)
    exact ⟨b, off, e, hok, fun i hi => hrow i (by omega)⟩

theorem ListV.back {ok : Nat → Prop} {w : World} {oa lb : Option Addr} {n cp k : Nat} {T : Nat → TD} (h : ListV ok w (.slice oa n cp) n T) (hk : k ≤ n)
    (hb : (if cp = k then oa else Option.map (fun x => Addr.add x (k * 4)) oa) = lb) : ListV ok w (.slice lb (n - k) (cp - k)) (n - k) (fun i => T (k + i)) := by
  rcases h with ⟨h, h0⟩ | ⟨a, cap, h, hc, hp⟩
  · simp at h
    obtain ⟨rfl, h1, rfl⟩ := h
    subst hb
    refine .inl ⟨?_, by omega⟩
    rw [show n - k = 0 by omega, show k = 0 by omega]; rfl
  · simp at h
    obtain ⟨rfl, rfl⟩ := h
    by_cases e : cp = k
    · rw [if_pos e] at hb
      subst hb
      exact .inr ⟨a, _, rfl, by omega, fun h0 => absurd h0 (by omega)⟩
    · rw [if_neg e] at hb
      subst hb
      refine .inr ⟨a.add (k * 4), _, rfl, by omega, fun h0 => ?_⟩
      obtain ⟨b, off, e', hok, hrow⟩ := hp (by omega)
      refine ⟨b, off + k * 4, by rw [e', WideShapes.add_plain], hok, fun i hi => ?_⟩
      have := hrow (k + i) (by omega)
      rw [show off + (k + i) * 4 = off + k * 4 + i * 4 by omega] at this
      exact this

/-- Four cells of a local. -/
def Box4 (w : World) (b : Nat) (v0 v1 v2 v3 : Value) : Prop := w.cell? ⟨b, 0, none⟩ = some v0 ∧ w.cell? ⟨b, 1, none⟩ = some v1 ∧ w.cell? ⟨b, 2, none⟩ = some v2 ∧ w.cell? ⟨b, 3, none⟩ = some v3

theorem cell_later' {w w' : World} {b o : Nat} {v : Value} (h : w.cell? ⟨b, o, none⟩ = some v) (hb : Below w.heap.size w w') : w'.cell? ⟨b, o, none⟩ = some v :=
  (hb.cell (p := ⟨b, o, none⟩) (block_lt_of_cell h)).trans h

theorem Box4.later {w w' : World} {b : Nat} {v0 v1 v2 v3 : Value} (h : Box4 w b v0 v1 v2 v3) (hb : Below w.heap.size w w') : Box4 w' b v0 v1 v2 v3 :=
  ⟨cell_later' h.1 hb, cell_later' h.2.1 hb, cell_later' h.2.2.1 hb, cell_later' h.2.2.2 hb⟩

theorem Found.later {ok : Nat → Prop} {w w' : World} {v : Value} {b : Bool} {n : Nat} {T : Nat → TD} {id : ByteArray} (h : Found ok w v b n T id) (hb : Below w.heap.size w w') : Found ok w' v b n T id := by
  rcases h with ⟨h1, f, h2, h3, h4, h5⟩ | h
  · exact .inl ⟨h1, f, h2, h3, h4, h5.later hb⟩
  · exact .inr h

theorem Found.shape {ok : Nat → Prop} {w : World} {v : Value} {b : Bool} {n : Nat} {T : Nat → TD} {id : ByteArray} (h : Found ok w v b n T id) : ∃ s c d x y z, v = .agg #[.string s, .int .i64 c, .int .i64 d, .slice x y z] := by
  rcases h with ⟨_, f, _, _, _, sl, h, hs⟩ | ⟨_, _, h⟩
  · obtain ⟨x, y, z, rfl⟩ := hs.shape
    exact ⟨_, _, _, _, _, _, h⟩
  · exact ⟨_, _, _, _, _, _, h⟩

theorem box_new (w : World) (v0 v1 v2 v3 : Value) : Box4 (w.alloc (.cells #[v0, v1, v2, v3] 34)) w.heap.size v0 v1 v2 v3 := by
  refine ⟨?_, ?_, ?_, ?_⟩ <;> simp

theorem four_boxes (w : World) (a0 a1 b0 b1 c0 c1 d0 d1 v1 v2 v3 v4 : Value) (W : World)
    (h : (((w.alloc (.cells #[a0, a1, v1] 41)).alloc (.cells #[b0, b1, v2] 41)).alloc (.cells #[c0, c1, v3] 41)).alloc (.cells #[d0, d1, v4] 41) = W) :
    Below w.heap.size w W ∧ W.cell? ⟨w.heap.size, 2, none⟩ = some v1 ∧ W.cell? ⟨w.heap.size + 1, 2, none⟩ = some v2 ∧ W.cell? ⟨w.heap.size + 1 + 1, 2, none⟩ = some v3 ∧ W.cell? ⟨w.heap.size + 1 + 1 + 1, 2, none⟩ = some v4 := by
  subst h
  refine ⟨(((below_alloc w _).alloc (by simp) _).alloc (by simp; omega) _).alloc (by simp; omega) _, ?_, ?_, ?_, ?_⟩
  · go_simp
  · go_simp
  · go_simp
  · go_simp

theorem Box4.same {w : World} {b : Nat} {v0 v1 v2 v3 : Value} (h : Box4 w b v0 v1 v2 v3) : w.cell? ⟨b, 0, none⟩ = some v0 ∧ w.cell? ⟨b, 1, none⟩ = some v1 ∧ w.cell? ⟨b, 2, none⟩ = some v2 ∧ w.cell? ⟨b, 3, none⟩ = some v3 := h

/-- The zero top-up. -/
def zeroTD : TD := { id := ⟨#[]⟩, ca := 0, cv := 0, nil := true, n := 0, P := fun _ => { cur := ⟨#[]⟩, amt := 0, sp := none } }

theorem zero_sl (w : World) : SlV Any w (.slice none 0 0) zeroTD := .inl ⟨rfl, rfl, rfl⟩

end Go.Proofs.Qxb6623445a
