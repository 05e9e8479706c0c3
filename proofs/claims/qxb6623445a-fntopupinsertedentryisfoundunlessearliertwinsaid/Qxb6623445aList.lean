/- The walk of zzB1TopUps. -/
import Derived.Test.Qxb6623445aCopy
namespace Go.Proofs.Qxb6623445a
open Go.RowKit

theorem Try.info34 : (Try.prog.info? 34).map (fun i => (i.zero, i.size, i.bytes)) = some (some (.agg #[.string ⟨#[]⟩, .int .i64 0, .int .i64 0, .slice none 0 0]), 4, 56) := by kernel_rfl

/-- The first j top-ups stand in row R. -/
def FillT (w : World) (R N : Nat) (T : Nat → TD) (j : Nat) : Prop :=
  ∃ f, w.rowIs R 34 N f ∧ ∀ i, i < j → f (i * 4) = .string (T i).id ∧ f (i * 4 + 1) = .int .i64 (T i).ca ∧ f (i * 4 + 2) = .int .i64 (T i).cv ∧ SlV (fun b => R < b) w (f (i * 4 + 3)) (T i)

theorem FillT.at_ {w : World} {R N j : Nat} {T : Nat → TD} (h : FillT w R N T j) (i : Nat) (hi : i < N) : (∃ v, w.cell? ⟨R, i, none⟩ = some v) ∧ w.frozen? ⟨R, i, none⟩ = false := by
  obtain ⟨f, h1, _⟩ := h
  exact ⟨⟨_, h1.cell hi⟩, h1.frozen i⟩
theorem FillT.lt {w : World} {R N j : Nat} {T : Nat → TD} (h : FillT w R N T j) : R < w.heap.size := by
  obtain ⟨f, h1, _⟩ := h
  exact h1.lt
theorem FillT.later {w w1 : World} {R N j : Nat} {T : Nat → TD} (h : FillT w R N T j) (hb : Below w.heap.size w w1) : FillT w1 R N T j := by
  obtain ⟨f, h1, h2⟩ := h
  refine ⟨f, h1.of_block (hb.block R h1.lt), fun i hi => ?_⟩
  obtain ⟨a, b, c, d⟩ := h2 i hi
  exact ⟨a, b, c, d.later hb⟩

theorem FillT.step {w : World} {R N j : Nat} {T : Nat → TD} {v : Value} (h : FillT w R N T j) (hv : SlV (fun b => R < b) w v (T j)) :
    FillT ((((w.setCell ⟨R, j * 4, none⟩ (.string (T j).id)).setCell ⟨R, j * 4 + 1, none⟩ (.int .i64 (T j).ca)).setCell ⟨R, j * 4 + 2, none⟩ (.int .i64 (T j).cv)).setCell ⟨R, j * 4 + 3, none⟩ v) R N T (j + 1) := by
  obtain ⟨f, h1, h2⟩ := h
  have hk : Keep (fun b => R < b) w ((((w.setCell ⟨R, j * 4, none⟩ (.string (T j).id)).setCell ⟨R, j * 4 + 1, none⟩ (.int .i64 (T j).ca)).setCell ⟨R, j * 4 + 2, none⟩ (.int .i64 (T j).cv)).setCell ⟨R, j * 4 + 3, none⟩ v) :=
    ((keep_set.trans keep_set (by simp)).trans keep_set (by simp)).trans keep_set (by simp)
  refine ⟨_, (((h1.set _ _).set _ _).set _ _).set _ _, fun i hi => ?_⟩
  by_cases e : i = j
  · subst e
    refine ⟨by simp, by simp, by simp, ?_⟩
    simp only [if_true]
    exact hv.keep hk (fun _ q => q)
  · obtain ⟨a, b, c, d⟩ := h2 i (by omega)
    refine ⟨?_, ?_, ?_, ?_⟩
    · rw [if_neg (by omega), if_neg (by omega), if_neg (by omega), if_neg (by omega)]; exact a
    · rw [if_neg (by omega), if_neg (by omega), if_neg (by omega), if_neg (by omega)]; exact b
    · rw [if_neg (by omega), if_neg (by omega), if_neg (by omega), if_neg (by omega)]; exact c
    · rw [if_neg (by omega), if_neg (by omega), if_neg (by omega), if_neg (by omega)]; exact d.keep hk (fun _ q => q)

theorem FillT.whole {w : World} {R N n : Nat} {T : Nat → TD} (h : FillT w R N T n) (hN : n * 4 ≤ N) : RowV (fun b => R ≤ b) w R 0 n T := by
  obtain ⟨f, h1, h2⟩ := h
  intro j hj
  obtain ⟨a, b, c, d⟩ := h2 j hj
  refine ⟨?_, ?_, ?_, f (j * 4 + 3), ?_, d.keep (fun _ _ _ => rfl) (fun b q => Nat.le_of_lt q)⟩
  · rw [Nat.zero_add, h1.cell (by omega), a]
  · rw [Nat.zero_add, h1.cell (by omega), b]
  · rw [Nat.zero_add, h1.cell (by omega), c]
  · rw [Nat.zero_add, h1.cell (by omega)]

theorem SlV.shape {ok : Nat → Prop} {w : World} {v : Value} {t : TD} (h : SlV ok w v t) : ∃ a n c, v = .slice a n c := by
  rcases h with ⟨h, _⟩ | ⟨_, a, cap, h, _⟩
  · exact ⟨_, _, _, h⟩
  · exact ⟨_, _, _, h⟩

set_option maxRecDepth 100000 in
set_option maxHeartbeats 1000000 in
theorem topups_any (ok : Nat → Prop) (n : Nat) (T : Nat → TD) (l : Value) (w : World) (hl : ListV ok w l n T) (hn : n ≤ 1048576) (hT : ∀ i, i < n → (T i).n ≤ 1048576) :
    Calls Try.prog 9 #[l] w fun e w' => ∃ v, e = .returned v ∧ ListV (fun b => w.heap.size ≤ b) w' v n T ∧ Below w.heap.size w w' := by
  rcases hl with ⟨rfl, rfl⟩ | ⟨a, cap, rfl, _, hp⟩
  · have heq : ∀ w, (binOp .eql 22 (.slice none 0 0) (.slice none 0 0)).run Try.prog w = .ok (.bool true) w := fun w => Lib.run_eql_slice_nil w 22 25 none 0 0 0 0 Try.underlying22
    go_enter Try.func9, Try.ntmps9
    go_wp2_with fail
    go_ret
    exact ⟨_, rfl, .inl ⟨rfl, rfl⟩, Below.refl _ _⟩
  · have heq : ∀ w, (binOp .eql 22 (.slice (some a) n cap) (.slice none 0 0)).run Try.prog w = .ok (.bool false) w := fun w => Lib.run_eql_slice_nil w 22 25 (some a) n cap 0 0 Try.underlying22
    have hmk := run_make_rows (P := Try.prog) 29 34 _ 4 56 Try.underlying29 Try.info34 .i64 .i64 n (by omega) (by omega)
    have HP : Hid (0 < n → ∃ b off, a = ⟨b, off, none⟩ ∧ ok b ∧ RowV ok w b off n T) := hp
    have HT : Hid (∀ i, i < n → (T i).n ≤ 1048576) := hT
    clear hp hT
    go_enter Try.func9, Try.ntmps9
    go_wp2_with fail
    go_loopw [4] (fun v4 wr => ∃ j : Nat, j ≤ n ∧ v4 = .int .i64 j ∧ Below w.heap.size w wr ∧ FillT wr w.heap.size (n * 4) T j) (fun v4 _ => n - (intOf v4).toNat)
    case atStart => exact ⟨0, by omega, rfl, below_alloc _ _, _, rowIs_madeAny _ _ _ _, fun i hi => absurd hi (by omega)⟩
    case round =>
      obtain ⟨j, hj, rfl, hB, hfill⟩ := hrel
      have hRlt := hfill.lt
      by_cases hlt : j < n
      · obtain ⟨b, off, rfl, hok, hrow⟩ := HP.out (by omega)
        obtain ⟨c0, c1, c2, sl, c3, hsl⟩ := hrow.later hok hB j hlt
        clear hrow
        go_wp2_with fail
        refine (topup_any ok (T j) sl _ hsl (HT.out j hlt)).mono ?_
        rintro e w1 ⟨v', rfl, hv1, hb1⟩
        obtain ⟨sl', rfl, hsl'⟩ := hv1
        have hfill1 := hfill.later hb1
        obtain ⟨⟨y0, g0⟩, f0⟩ := hfill1.at_ (j * 4) (by omega)
        obtain ⟨⟨y1, g1⟩, f1⟩ := hfill1.at_ (j * 4 + 1) (by omega)
        obtain ⟨⟨y2, g2⟩, f2⟩ := hfill1.at_ (j * 4 + 2) (by omega)
        obtain ⟨⟨y3, g3⟩, f3⟩ := hfill1.at_ (j * 4 + 3) (by omega)
        have hfill2 := hfill1.step (v := sl') (hsl'.keep (ok' := fun b => w.heap.size < b) (fun _ _ _ => rfl) (fun b q => Nat.lt_of_lt_of_le hRlt q))
        have hB1 := hB.trans (hb1.mono (Nat.le_of_lt hRlt))
        obtain ⟨ya, yn, yc, rfl⟩ := hsl'.shape
        clear hfill hfill1 c0 c1 c2 c3 hsl hsl'
        go_wp2_with fail
        go_roundw
        case rel => exact ⟨j + 1, by omega, by go_num, (((hB1.setCell (p := ⟨w.heap.size, _, none⟩) (Nat.le_refl _) _).setCell (p := ⟨w.heap.size, _, none⟩) (Nat.le_refl _) _).setCell (p := ⟨w.heap.size, _, none⟩) (Nat.le_refl _) _).setCell (p := ⟨w.heap.size, _, none⟩) (Nat.le_refl _) _, hfill2⟩
        case measure => simp [intOf]; omega
      · have hjn : j = n := by omega
        subst hjn
        go_wp2_with fail
        go_ret
        exact ⟨_, rfl, .inr ⟨_, _, rfl, Nat.le_refl _, fun _ => ⟨_, _, rfl, Nat.le_refl _, hfill.whole (Nat.le_refl _)⟩⟩, hB⟩
end Go.Proofs.Qxb6623445a
