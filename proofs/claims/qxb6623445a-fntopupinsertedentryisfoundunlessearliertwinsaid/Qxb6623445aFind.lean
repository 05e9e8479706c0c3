/- The walk of (*Catalog).TopUp. -/
import Derived.Test.Qxb6623445aModel
namespace Go.Proofs.Qxb6623445a
open Go.RowKit

/-- What the search answers: the first entry of that id, or the zero top-up. -/
def Found (ok : Nat → Prop) (w : World) (v : Value) (b : Bool) (n : Nat) (T : Nat → TD) (id : ByteArray) : Prop :=
  (b = true ∧ ∃ f, f < n ∧ (T f).id.toList = id.toList ∧ (∀ i, i < f → (T i).id.toList ≠ id.toList) ∧ TuV ok w v (T f)) ∨
  (b = false ∧ (∀ i, i < n → (T i).id.toList ≠ id.toList) ∧ v = .agg #[.string ⟨#[]⟩, .int .i64 0, .int .i64 0, .slice none 0 0])

def FindPost (ok : Nat → Prop) (n : Nat) (T : Nat → TD) (id : ByteArray) (w : World) (e : Ending) (w' : World) : Prop :=
  ∃ v b, e = .returned (.tuple #[v, .bool b]) ∧ Found ok w' v b n T id ∧ Below w.heap.size w w'

set_option maxRecDepth 100000 in
set_option maxHeartbeats 1000000 in
theorem find_any (ok : Nat → Prop) (n : Nat) (T : Nat → TD) (l : Value) (id : ByteArray) (c : Nat) (w : World) (hl : ListV ok w l n T) (hn : n ≤ 1048577)
    (hc : w.cell? ⟨c, 2, none⟩ = some l) :
    Calls Try.prog 10 #[.pointer (some ⟨c, 0, none⟩), .string id] w fun e w' => FindPost ok n T id w e w' := by
  have hclt := block_lt_of_cell hc
  rcases hl with ⟨rfl, rfl⟩ | ⟨a, cap, rfl, _, hp⟩
  · go_enter Try.func10, Try.ntmps10
    go_wp2_with fail
    refine wp_loop_rounds 1 ?_
    rw [rounds_succ]
    go_wp2_with fail
    refine bodyPost_ret (v := .tuple #[.agg #[.string ⟨#[]⟩, .int .i64 0, .int .i64 0, .slice none 0 0], .bool false]) (by simp [results, Try.results10, go_sem]) rfl ⟨_, _, rfl, ?_, ?_⟩
    · exact .inr ⟨rfl, fun i hi => absurd hi (by omega), rfl⟩
    · exact below_alloc _ _
  · have HP : Hid (0 < n → ∃ b off, a = ⟨b, off, none⟩ ∧ ok b ∧ RowV ok w b off n T) := hp
    clear hp
    go_enter Try.func10, Try.ntmps10
    go_wp2_with fail
    go_loopw [13] (fun v13 wr => ∃ j : Nat, j ≤ n ∧ v13 = .int .i64 j ∧ Below (w.heap.size + 1) (w.alloc (.cells #[.string ⟨#[]⟩, .int .i64 0, .int .i64 0, .slice none 0 0] 34)) wr ∧ Hid (∀ i, i < j → (T i).id.toList ≠ id.toList)) (fun v13 _ => n - (intOf v13).toNat)
    case atStart => exact ⟨0, by omega, rfl, Below.refl _ _, fun i hi => absurd hi (by omega)⟩
    case round =>
      obtain ⟨j, hj, rfl, hbel, HN⟩ := hrel
      have hBw : Below w.heap.size w wr := (below_alloc w _).trans (hbel.mono (by omega))
      have hsz : w.heap.size + 1 ≤ wr.heap.size := by have := hbel.size; simpa using this
      have hsz' : w.heap.size < wr.heap.size := by omega
      have q0 : wr.cell? ⟨w.heap.size, 0, none⟩ = some (.string ⟨#[]⟩) := (hbel.cell (p := ⟨w.heap.size, 0, none⟩) (by show w.heap.size < _; omega)).trans (by simp)
      have z0 : wr.frozen? ⟨w.heap.size, 0, none⟩ = false := (hbel.frozen (p := ⟨w.heap.size, 0, none⟩) (by show w.heap.size < _; omega)).trans (by simp)
      have q1 : wr.cell? ⟨w.heap.size, 1, none⟩ = some (.int .i64 0) := (hbel.cell (p := ⟨w.heap.size, 1, none⟩) (by show w.heap.size < _; omega)).trans (by simp)
      have z1 : wr.frozen? ⟨w.heap.size, 1, none⟩ = false := (hbel.frozen (p := ⟨w.heap.size, 1, none⟩) (by show w.heap.size < _; omega)).trans (by simp)
      have q2 : wr.cell? ⟨w.heap.size, 2, none⟩ = some (.int .i64 0) := (hbel.cell (p := ⟨w.heap.size, 2, none⟩) (by show w.heap.size < _; omega)).trans (by simp)
      have z2 : wr.frozen? ⟨w.heap.size, 2, none⟩ = false := (hbel.frozen (p := ⟨w.heap.size, 2, none⟩) (by show w.heap.size < _; omega)).trans (by simp)
      have q3 : wr.cell? ⟨w.heap.size, 3, none⟩ = some (.slice none 0 0) := (hbel.cell (p := ⟨w.heap.size, 3, none⟩) (by show w.heap.size < _; omega)).trans (by simp)
      have z3 : wr.frozen? ⟨w.heap.size, 3, none⟩ = false := (hbel.frozen (p := ⟨w.heap.size, 3, none⟩) (by show w.heap.size < _; omega)).trans (by simp)
      by_cases hlt : j < n
      · obtain ⟨b, off, rfl, hok, hrow⟩ := HP.out (by omega)
        obtain ⟨e0, e1, e2, sl, e3, hsl⟩ := hrow j hlt
        have c0 := (Keep.below (ok := ok) hBw).cell hok e0
        have c1 := (Keep.below (ok := ok) hBw).cell hok e1
        have c2 := (Keep.below (ok := ok) hBw).cell hok e2
        have c3 := (Keep.below (ok := ok) hBw).cell hok e3
        have hblt := block_lt_of_cell c0
        clear hrow e0 e1 e2 e3
        obtain ⟨ya, yn, yc, rfl⟩ : ∃ a n c, sl = .slice a n c := by
          rcases hsl with ⟨h, _⟩ | ⟨_, a, cap, h, _⟩
          · exact ⟨_, _, _, h⟩
          · exact ⟨_, _, _, h⟩
        by_cases hid : (T j).id.toList = id.toList
        · have HID : Hid ((T j).id.toList = id.toList) := hid
          have hstr : ((T j).id.toList == id.toList) = true := by rw [hid]; exact beq_self_eq_true _
          clear hid
          go_wp2_with fail
          refine bodyPost_ret (v := .tuple #[.agg #[.string (T j).id, .int .i64 (T j).ca, .int .i64 (T j).cv, .slice ya yn yc], .bool true]) (by simp [results, Try.results10, go_sem, q0, q1, q2, q3, hsz']) rfl ?_
          have hBz := (((((hBw.setCell (p := ⟨w.heap.size, 0, none⟩) (Nat.le_refl _) (.string (T j).id)).setCell (p := ⟨w.heap.size, 1, none⟩) (Nat.le_refl _) (.int .i64 (T j).ca)).setCell (p := ⟨w.heap.size, 2, none⟩) (Nat.le_refl _) (.int .i64 (T j).cv)).setCell (p := ⟨w.heap.size, 3, none⟩) (Nat.le_refl _) (.slice ya yn yc)).alloc (by simp; omega) (.cells #[.string (T j).id, .int .i64 (T j).ca, .int .i64 (T j).cv, .slice ya yn yc] 34))
          exact ⟨_, _, rfl, .inl ⟨rfl, j, hlt, HID.out, HN.out, _, rfl, hsl.later hBz⟩, hBz⟩
        · have HID : Hid ((T j).id.toList ≠ id.toList) := hid
          have hstr : ((T j).id.toList == id.toList) = false := beq_eq_false_iff_ne.2 hid
          clear hid
          go_wp2_with fail
          go_roundw
          case rel =>
            refine ⟨j + 1, by omega, by go_num, hbel.alloc (by exact hsz) _, fun i hi => ?_⟩
            by_cases e : i = j
            · rw [e]; exact HID.out
            · exact HN.out i (by omega)
          case measure => simp [intOf]; omega
      · have hjn : j = n := by omega
        subst hjn
        go_wp2_with fail
        refine bodyPost_ret (v := .tuple #[.agg #[.string ⟨#[]⟩, .int .i64 0, .int .i64 0, .slice none 0 0], .bool false]) (by simp [results, Try.results10, go_sem, q0, q1, q2, q3]) rfl ?_
        have hBz := (((hBw.setCell (p := ⟨w.heap.size, 0, none⟩) (Nat.le_refl _) (.string ⟨#[]⟩)).setCell (p := ⟨w.heap.size, 1, none⟩) (Nat.le_refl _) (.int .i64 0)).setCell (p := ⟨w.heap.size, 2, none⟩) (Nat.le_refl _) (.int .i64 0)).setCell (p := ⟨w.heap.size, 3, none⟩) (Nat.le_refl _) (.slice none 0 0)
        exact ⟨_, _, rfl, .inr ⟨rfl, HN.out, rfl⟩, hBz⟩
end Go.Proofs.Qxb6623445a
