/- What a price, a top-up, a list of top-ups is, and how it lies in memory. -/
import Derived.Test.Qxb6623445aRows
import Derived.WalkKit
import Derived.WalkSpells
import Derived.WalkLawsBesides
import Derived.Deep.OwnRows
namespace Go.Proofs.Qxb6623445a
open Go.RowKit

/-- A price. -/
structure PD where
  cur : ByteArray
  amt : Int
  sp : Option ByteArray

/-- A top-up; 'nil': its list of prices is nil; n prices P 0, P 1, .. -/
structure TD where
  id : ByteArray
  ca : Int
  cv : Int
  nil : Bool
  n : Nat
  P : Nat → PD

/-- A pointer to a string, or nil, at blocks that 'ok' lets. -/
def SpV (ok : Nat → Prop) (w : World) (v : Value) : Option ByteArray → Prop
  | none => v = .pointer none
  | some s => ∃ b o, v = .pointer (some ⟨b, o, none⟩) ∧ ok b ∧ w.cell? ⟨b, o, none⟩ = some (.string s)

/-- m prices from cell off of block b on. -/
def PrV (ok : Nat → Prop) (w : World) (b off m : Nat) (P : Nat → PD) : Prop :=
  ∀ j, j < m → w.cell? ⟨b, off + j * 3, none⟩ = some (.string (P j).cur) ∧ w.cell? ⟨b, off + j * 3 + 1, none⟩ = some (.int .i64 (P j).amt) ∧
    ∃ v, w.cell? ⟨b, off + j * 3 + 2, none⟩ = some v ∧ SpV ok w v (P j).sp

/-- A slice of prices: nil, or n of them. -/
def SlV (ok : Nat → Prop) (w : World) (v : Value) (t : TD) : Prop :=
  (v = .slice none 0 0 ∧ t.nil = true ∧ t.n = 0) ∨
  (t.nil = false ∧ ∃ a cap, v = .slice (some a) t.n cap ∧ (0 < t.n → ∃ b off, a = ⟨b, off, none⟩ ∧ ok b ∧ PrV ok w b off t.n t.P))

/-- A top-up's value. -/
def TuV (ok : Nat → Prop) (w : World) (v : Value) (t : TD) : Prop :=
  ∃ sl, v = .agg #[.string t.id, .int .i64 t.ca, .int .i64 t.cv, sl] ∧ SlV ok w sl t

/-- n top-ups from cell off of block b on. -/
def RowV (ok : Nat → Prop) (w : World) (b off n : Nat) (T : Nat → TD) : Prop :=
  ∀ i, i < n → w.cell? ⟨b, off + i * 4, none⟩ = some (.string (T i).id) ∧ w.cell? ⟨b, off + i * 4 + 1, none⟩ = some (.int .i64 (T i).ca) ∧
    w.cell? ⟨b, off + i * 4 + 2, none⟩ = some (.int .i64 (T i).cv) ∧ ∃ sl, w.cell? ⟨b, off + i * 4 + 3, none⟩ = some sl ∧ SlV ok w sl (T i)

/-- A slice of top-ups. -/
def ListV (ok : Nat → Prop) (w : World) (v : Value) (n : Nat) (T : Nat → TD) : Prop :=
  (v = .slice none 0 0 ∧ n = 0) ∨ ∃ a cap, v = .slice (some a) n cap ∧ n ≤ cap ∧ (0 < n → ∃ b off, a = ⟨b, off, none⟩ ∧ ok b ∧ RowV ok w b off n T)

section
variable {ok ok' : Nat → Prop} {w w' : World}

/-- What stands at the blocks that 'ok' lets is as it was. -/
def Keep (ok : Nat → Prop) (w w' : World) : Prop := ∀ b, ok b → b < w.heap.size → w'.heap[b]? = w.heap[b]?

theorem Keep.cell (h : Keep ok w w') {b o : Nat} {v : Value} (hb : ok b) (hc : w.cell? ⟨b, o, none⟩ = some v) : w'.cell? ⟨b, o, none⟩ = some v := by
  have hlt := block_lt_of_cell hc
  rw [World.cell?_of_block (w := w) (a := ⟨b, o, none⟩) (h b hb hlt)]
  exact hc
theorem SpV.keep (hk : Keep ok w w') (hm : ∀ b, ok b → ok' b) {v : Value} {s : Option ByteArray} (h : SpV ok w v s) : SpV ok' w' v s := by
  cases s with
  | none => exact h
  | some s =>
    obtain ⟨b, o, h1, h2, h3⟩ := h
    exact ⟨b, o, h1, hm b h2, hk.cell h2 h3⟩
theorem PrV.keep (hk : Keep ok w w') (hm : ∀ b, ok b → ok' b) {b off m : Nat} {P : Nat → PD} (hb : ok b) (h : PrV ok w b off m P) : PrV ok' w' b off m P := by
  intro j hj
  obtain ⟨h1, h2, v, h3, h4⟩ := h j hj
  exact ⟨hk.cell hb h1, hk.cell hb h2, v, hk.cell hb h3, h4.keep hk hm⟩
theorem SlV.keep (hk : Keep ok w w') (hm : ∀ b, ok b → ok' b) {v : Value} {t : TD} (h : SlV ok w v t) : SlV ok' w' v t := by
  rcases h with h | ⟨h1, a, cap, h2, h3⟩
  · exact .inl h
  · refine .inr ⟨h1, a, cap, h2, fun hn => ?_⟩
    obtain ⟨b, off, e, hb, hp⟩ := h3 hn
    exact ⟨b, off, e, hm b hb, hp.keep hk hm hb⟩
theorem TuV.keep (hk : Keep ok w w') (hm : ∀ b, ok b → ok' b) {v : Value} {t : TD} (h : TuV ok w v t) : TuV ok' w' v t := by
  obtain ⟨sl, h1, h2⟩ := h
  exact ⟨sl, h1, h2.keep hk hm⟩
theorem RowV.keep (hk : Keep ok w w') (hm : ∀ b, ok b → ok' b) {b off n : Nat} {T : Nat → TD} (hb : ok b) (h : RowV ok w b off n T) : RowV ok' w' b off n T := by
  intro i hi
  obtain ⟨h1, h2, h3, sl, h4, h5⟩ := h i hi
  exact ⟨hk.cell hb h1, hk.cell hb h2, hk.cell hb h3, sl, hk.cell hb h4, h5.keep hk hm⟩
theorem ListV.keep (hk : Keep ok w w') (hm : ∀ b, ok b → ok' b) {v : Value} {n : Nat} {T : Nat → TD} (h : ListV ok w v n T) : ListV ok' w' v n T := by
  rcases h with h | ⟨a, cap, h1, h2, h3⟩
  · exact .inl h
  · refine .inr ⟨a, cap, h1, h2, fun hn => ?_⟩
    obtain ⟨b, off, e, hb, hp⟩ := h3 hn
    exact ⟨b, off, e, hm b hb, hp.keep hk hm hb⟩

theorem Keep.below (h : Below w.heap.size w w') : Keep ok w w' := fun b _ hb => h.block b hb
theorem Keep.under {B : Nat} (h : Below B w w') (ho : ∀ b, ok b → b < B) : Keep ok w w' := fun b hb _ => h.block b (ho b hb)

theorem SpV.later {v : Value} {s : Option ByteArray} (h : SpV ok w v s) (hb : Below w.heap.size w w') : SpV ok w' v s := h.keep (Keep.below hb) (fun _ q => q)
theorem SlV.later {v : Value} {t : TD} (h : SlV ok w v t) (hb : Below w.heap.size w w') : SlV ok w' v t := h.keep (Keep.below hb) (fun _ q => q)
theorem TuV.later {v : Value} {t : TD} (h : TuV ok w v t) (hb : Below w.heap.size w w') : TuV ok w' v t := h.keep (Keep.below hb) (fun _ q => q)
theorem ListV.later {v : Value} {n : Nat} {T : Nat → TD} (h : ListV ok w v n T) (hb : Below w.heap.size w w') : ListV ok w' v n T := h.keep (Keep.below hb) (fun _ q => q)
theorem RowV.later {b off n : Nat} {T : Nat → TD} (h : RowV ok w b off n T) (hok : ok b) (hb : Below w.heap.size w w') : RowV ok w' b off n T := h.keep (Keep.below hb) (fun _ q => q) hok
theorem PrV.later {b off n : Nat} {P : Nat → PD} (h : PrV ok w b off n P) (hok : ok b) (hb : Below w.heap.size w w') : PrV ok w' b off n P := h.keep (Keep.below hb) (fun _ q => q) hok
end

theorem ret_eq {a b : Value} (h : a = b) : Ending.returned a = .returned b := by rw [h]
theorem cell_alloc {w : World} {o : Obj} {b j : Nat} (h : b < w.heap.size) : (w.alloc o).cell? ⟨b, j, none⟩ = w.cell? ⟨b, j, none⟩ :=
  ((Below.refl w.heap.size w).alloc (Nat.le_refl _) o).cell (p := ⟨b, j, none⟩) h
theorem below_alloc (w : World) (o : Obj) : Below w.heap.size w (w.alloc o) := (Below.refl _ _).alloc (Nat.le_refl _) _
end Go.Proofs.Qxb6623445a
