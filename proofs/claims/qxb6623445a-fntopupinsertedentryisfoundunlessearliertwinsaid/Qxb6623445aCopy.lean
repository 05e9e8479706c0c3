/- The walks of zzB1Price and zzB1TopUp: fresh copies. -/
import Derived.Test.Qxb6623445aModel
namespace Go.Proofs.Qxb6623445a
open Go.RowKit

set_option maxHeartbeats 400000 in
theorem price_any (ok : Nat → Prop) (p : PD) (v : Value) (w : World) (hv : SpV ok w v p.sp) :
    Calls Try.prog 16 #[.agg #[.string p.cur, .int .i64 p.amt, v]] w fun e w' => ∃ v', e = .returned (.agg #[.string p.cur, .int .i64 p.amt, v']) ∧ SpV (fun b => w.heap.size ≤ b) w' v' p.sp ∧ Below w.heap.size w w' := by
  cases hsp : p.sp with
  | none =>
    rw [hsp] at hv
    have hv' : v = .pointer none := hv
    subst hv'
    clear hv
    go_enter Try.func16, Try.ntmps16
    go_wp2
    refine bodyPost_ret (v := .agg #[.string p.cur, .int .i64 p.amt, .pointer none]) (by simp [results, Try.results16, go_sem]) rfl ⟨_, rfl, rfl, ?_⟩
    exact (below_alloc _ _).alloc (by simp) _
  | some s =>
    rw [hsp] at hv
    obtain ⟨b, o, rfl, hok, c0⟩ := hv
    have hlt := block_lt_of_cell c0
    clear hsp
    go_enter Try.func16, Try.ntmps16
    go_wp2
    refine bodyPost_ret (v := .agg #[.string p.cur, .int .i64 p.amt, .pointer (some ⟨w.heap.size + 1 + 1, 0, none⟩)]) (by simp [results, Try.results16, go_sem]) rfl ⟨_, rfl, ?_, ?_⟩
    · refine ⟨w.heap.size + 1 + 1, 0, rfl, by omega, ?_⟩
      rw [World.cell?_alloc_at _ _ _ _ (by simp)]
      rfl
    · exact ((below_alloc _ _).alloc (by simp) _).alloc (by simp; omega) _

theorem Try.info53 : (Try.prog.info? 53).map (fun i => (i.zero, i.size, i.bytes)) = some (some (.agg #[.string ⟨#[]⟩, .int .i64 0, .pointer none]), 3, 32) := by kernel_rfl

theorem run_make_rows {P : Program} (t e : TypeId) (z : Value) (size bytes : Nat) (ht : P.underlying t = some (.slice e)) (hinfo : (P.info? e).map (fun i => (i.zero, i.size, i.bytes)) = some (some z, size, bytes))
    (kl kc : IntKind) (n : Nat) (hbytes : bytes * n ≤ 281474976710656) (h63 : n ≤ 9223372036854775807) (w : World) :
    (Instr.makeSlice t (.int kl (n : Int)) (.int kc (n : Int))).run P w = .ok (.slice (some ⟨w.heap.size, 0, none⟩) n n) (w.alloc (.cells (madeCells z.cells (n * size)) e)) := by
  obtain ⟨i, hi, hzz⟩ := Option.map_eq_some_iff.1 hinfo
  simp only [Prod.mk.injEq] at hzz
  obtain ⟨hz, hs, hb⟩ := hzz
  subst hs hb
  have hb' : (i.bytes : Int) * (n : Int) ≤ 281474976710656 := by
    have h : ((i.bytes * n : Nat) : Int) ≤ 281474976710656 := by omega
    rwa [Int.natCast_mul] at h
  have hr := run_make (P := P) w t e i z ht hi hz kl kc n n (by omega) (Int.le_refl _) hb' (by omega)
  simp only [Int.toNat_natCast] at hr
  exact hr
theorem rowIs_madeAny (w : World) (z : Array Value) (n : Nat) (t : TypeId) : (w.alloc (.cells (madeCells z n) t)).rowIs w.heap.size t n (fun i => z[i % z.size]!) :=
  ⟨_, Deep.blk_alloc_new _ _, size_madeCells _ _, fun i hi => by simp [madeCells, hi]⟩

/-- The first j prices stand in row R. -/
def Fill (w : World) (R N : Nat) (P : Nat → PD) (j : Nat) : Prop :=
  ∃ f, w.rowIs R 53 N f ∧ ∀ i, i < j → f (i * 3) = .string (P i).cur ∧ f (i * 3 + 1) = .int .i64 (P i).amt ∧ SpV (fun b => R < b) w (f (i * 3 + 2)) (P i).sp

theorem Fill.at_ {w : World} {R N j : Nat} {P : Nat → PD} (h : Fill w R N P j) (i : Nat) (hi : i < N) : (∃ v, w.cell? ⟨R, i, none⟩ = some v) ∧ w.frozen? ⟨R, i, none⟩ = false := by
  obtain ⟨f, h1, _⟩ := h
  exact ⟨⟨_, h1.cell hi⟩, h1.frozen i⟩
theorem Fill.lt {w : World} {R N j : Nat} {P : Nat → PD} (h : Fill w R N P j) : R < w.heap.size := by
  obtain ⟨f, h1, _⟩ := h
  exact h1.lt
theorem Fill.later {w w1 : World} {R N j : Nat} {P : Nat → PD} (h : Fill w R N P j) (hb : Below w.heap.size w w1) : Fill w1 R N P j := by
  obtain ⟨f, h1, h2⟩ := h
  refine ⟨f, h1.of_block (hb.block R h1.lt), fun i hi => ?_⟩
  obtain ⟨a, b, c⟩ := h2 i hi
  exact ⟨a, b, c.later hb⟩

theorem keep_set {w : World} {R o : Nat} {v : Value} : Keep (fun b => R < b) w (w.setCell ⟨R, o, none⟩ v) := fun b hb _ => Below.heap_setCell w _ v b (by simp; omega)
theorem keep_above {w : World} {R o : Nat} {v : Value} : Keep (fun b => R + 1 ≤ b) w (w.setCell ⟨R, o, none⟩ v) := fun b hb _ => Below.heap_setCell w _ v b (by simp; omega)
theorem Keep.trans {ok : Nat → Prop} {a b c : World} (h : Keep ok a b) (k : Keep ok b c) (hs : a.heap.size ≤ b.heap.size) : Keep ok a c := fun i hi hlt => (k i hi (by omega)).trans (h i hi hlt)

theorem Fill.step {w : World} {R N j : Nat} {P : Nat → PD} {v : Value} (h : Fill w R N P j) (hv : SpV (fun b => R < b) w v (P j).sp) :
    Fill (((w.setCell ⟨R, j * 3, none⟩ (.string (P j).cur)).setCell ⟨R, j * 3 + 1, none⟩ (.int .i64 (P j).amt)).setCell ⟨R, j * 3 + 2, none⟩ v) R N P (j + 1) := by
  obtain ⟨f, h1, h2⟩ := h
  have hk : Keep (fun b => R < b) w (((w.setCell ⟨R, j * 3, none⟩ (.string (P j).cur)).setCell ⟨R, j * 3 + 1, none⟩ (.int .i64 (P j).amt)).setCell ⟨R, j * 3 + 2, none⟩ v) :=
    (keep_set.trans keep_set (by simp)).trans keep_set (by simp)
  refine ⟨_, ((h1.set _ _).set _ _).set _ _, fun i hi => ?_⟩
  by_cases e : i = j
  · subst e
    refine ⟨by simp, by simp, ?_⟩
    simp only [if_true]
    exact hv.keep hk (fun _ q => q)
  · obtain ⟨a, b, c⟩ := h2 i (by omega)
    refine ⟨?_, ?_, ?_⟩
    · rw [if_neg (by omega), if_neg (by omega), if_neg (by omega)]; exact a
    · rw [if_neg (by omega), if_neg (by omega), if_neg (by omega)]; exact b
    · rw [if_neg (by omega), if_neg (by omega), if_neg (by omega)]; exact c.keep hk (fun _ q => q)

theorem Fill.whole {w : World} {R n : Nat} {P : Nat → PD} (h : Fill w R (n * 3) P n) : PrV (fun b => R ≤ b) w R 0 n P := by
  obtain ⟨f, h1, h2⟩ := h
  intro j hj
  obtain ⟨a, b, c⟩ := h2 j hj
  refine ⟨?_, ?_, f (j * 3 + 2), ?_, c.keep (fun _ _ _ => rfl) (fun b q => Nat.le_of_lt q)⟩
  · rw [Nat.zero_add, h1.cell (by omega), a]
  · rw [Nat.zero_add, h1.cell (by omega), b]
  · rw [Nat.zero_add, h1.cell (by omega)]

set_option maxRecDepth 100000 in
set_option maxHeartbeats 1000000 in
theorem topup_any (ok : Nat → Prop) (t : TD) (sl : Value) (w : World) (hs : SlV ok w sl t) (hn : t.n ≤ 1048576) :
    Calls Try.prog 8 #[.agg #[.string t.id, .int .i64 t.ca, .int .i64 t.cv, sl]] w fun e w' => ∃ v, e = .returned v ∧ TuV (fun b => w.heap.size ≤ b) w' v t ∧ Below w.heap.size w w' := by
  rcases hs with ⟨rfl, hnil, hn0⟩ | ⟨hnil, a, cap, rfl, hp⟩
  · have hne : ∀ w, (binOp .neq 23 (.slice none 0 0) (.slice none 0 0)).run Try.prog w = .ok (.bool false) w := fun w => run_neq_slice_nil_any w 23 50 none 0 0 0 0 Try.underlying23
    have HN : Hid (t.nil = true ∧ t.n = 0) := ⟨hnil, hn0⟩
    clear hnil hn0
    go_enter Try.func8, Try.ntmps8
    go_wp2_with fail
    refine bodyPost_ret (v := .agg #[.string t.id, .int .i64 t.ca, .int .i64 t.cv, .slice none 0 0]) (by simp [results, Try.results8, go_sem]) rfl ⟨_, rfl, ⟨_, rfl, .inl ⟨rfl, HN.out⟩⟩, ?_⟩
    exact (below_alloc _ _).alloc (by simp) _
  · have hne : ∀ w, (binOp .neq 23 (.slice (some a) t.n cap) (.slice none 0 0)).run Try.prog w = .ok (.bool true) w := fun w => run_neq_slice_nil_any w 23 50 (some a) t.n cap 0 0 Try.underlying23
    have hmk := run_make_rows (P := Try.prog) 32 53 _ 3 32 Try.underlying32 Try.info53 .i64 .i64 t.n (by omega) (by omega)
    have HP : Hid (0 < t.n → ∃ b off, a = ⟨b, off, none⟩ ∧ ok b ∧ PrV ok w b off t.n t.P) := hp
    clear hp
    go_enter Try.func8, Try.ntmps8
    go_wp2_with fail
    go_loopw [4] (fun v4 wr => ∃ j : Nat, j ≤ t.n ∧ v4 = .int .i64 j ∧ Below (w.heap.size + 1 + 1) ((w.alloc (.cells #[.string t.id, .int .i64 t.ca, .int .i64 t.cv, .slice (some a) t.n cap] 25)).alloc (.cells #[.string ⟨#[]⟩, .int .i64 0, .int .i64 0, .slice none 0 0] 34)) wr ∧ Fill wr (w.heap.size + 1 + 1) (t.n * 3) t.P j) (fun v4 _ => t.n - (intOf v4).toNat)
    case atStart =>
      refine ⟨0, by omega, rfl, (Below.refl _ _).alloc (by simp) _, ?_⟩
      have h := rowIs_madeAny ((w.alloc (.cells #[.string t.id, .int .i64 t.ca, .int .i64 t.cv, .slice (some a) t.n cap] 25)).alloc (.cells #[.string ⟨#[]⟩, .int .i64 0, .int .i64 0, .slice none 0 0] 34)) #[.string ⟨#[]⟩, .int .i64 0, .pointer none] (t.n * 3) 53
      rw [World.size_alloc, World.size_alloc] at h
      exact ⟨_, h, fun i hi => absurd hi (by omega)⟩
    case round =>
      obtain ⟨j, hj, rfl, hbel, hfill⟩ := hrel
      have hB : Below w.heap.size w wr := (((below_alloc w _).alloc (by simp) _)).trans (hbel.mono (by omega))
      have k3 : wr.cell? ⟨w.heap.size, 3, none⟩ = some (.slice (some a) t.n cap) := (hbel.cell (p := ⟨w.heap.size, 3, none⟩) (by show w.heap.size < _; omega)).trans (by simp)
      have hRlt := hfill.lt
      by_cases hlt : j < t.n
      · obtain ⟨b, off, rfl, hok, hpr⟩ := HP.out (by omega)
        obtain ⟨c0, c1, v, c2, hv⟩ := hpr.later hok hB j hlt
        clear hpr
        go_wp2_with fail
        refine (price_any ok (t.P j) v _ hv).mono ?_
        rintro e w1 ⟨v', rfl, hv1, hb1⟩
        have hfill1 := hfill.later hb1
        obtain ⟨⟨y0, g0⟩, f0⟩ := hfill1.at_ (j * 3) (by omega)
        obtain ⟨⟨y1, g1⟩, f1⟩ := hfill1.at_ (j * 3 + 1) (by omega)
        obtain ⟨⟨y2, g2⟩, f2⟩ := hfill1.at_ (j * 3 + 2) (by omega)
        have hfill2 := hfill1.step (v := v') (hv1.keep (ok' := fun b => w.heap.size + 1 + 1 < b) (fun _ _ _ => rfl) (fun b q => Nat.lt_of_lt_of_le hRlt q))
        have hbel1 := hbel.trans (hb1.mono (Nat.le_of_lt hRlt))
        clear hfill hfill1 c0 c1 c2 hv k3
        have hex : ∃ u, v' = .pointer u := by
          cases hsp : (t.P j).sp with
          | none => rw [hsp] at hv1; exact ⟨_, hv1⟩
          | some s => rw [hsp] at hv1; obtain ⟨b, o, e, _⟩ := hv1; exact ⟨_, e⟩
        obtain ⟨u, rfl⟩ := hex
        go_wp2_with fail
        go_roundw
        case rel => exact ⟨j + 1, by omega, by go_num, ((hbel1.setCell (Nat.le_refl _) _).setCell (Nat.le_refl _) _).setCell (Nat.le_refl _) _, hfill2⟩
        case measure => simp [intOf]; omega
      · have hjn : j = t.n := by omega
        subst hjn
        have HW := hfill.whole
        have k0 : wr.cell? ⟨w.heap.size, 0, none⟩ = some (.string t.id) := (hbel.cell (p := ⟨w.heap.size, 0, none⟩) (by show w.heap.size < _; omega)).trans (by simp)
        have k1 : wr.cell? ⟨w.heap.size, 1, none⟩ = some (.int .i64 t.ca) := (hbel.cell (p := ⟨w.heap.size, 1, none⟩) (by show w.heap.size < _; omega)).trans (by simp)
        have k2 : wr.cell? ⟨w.heap.size, 2, none⟩ = some (.int .i64 t.cv) := (hbel.cell (p := ⟨w.heap.size, 2, none⟩) (by show w.heap.size < _; omega)).trans (by simp)
        have q0 : wr.cell? ⟨w.heap.size + 1, 0, none⟩ = some (.string ⟨#[]⟩) := (hbel.cell (p := ⟨w.heap.size + 1, 0, none⟩) (by show w.heap.size + 1 < _; omega)).trans (by simp)
        have q1 : wr.cell? ⟨w.heap.size + 1, 1, none⟩ = some (.int .i64 0) := (hbel.cell (p := ⟨w.heap.size + 1, 1, none⟩) (by show w.heap.size + 1 < _; omega)).trans (by simp)
        have q2 : wr.cell? ⟨w.heap.size + 1, 2, none⟩ = some (.int .i64 0) := (hbel.cell (p := ⟨w.heap.size + 1, 2, none⟩) (by show w.heap.size + 1 < _; omega)).trans (by simp)
        have q3 : wr.cell? ⟨w.heap.size + 1, 3, none⟩ = some (.slice none 0 0) := (hbel.cell (p := ⟨w.heap.size + 1, 3, none⟩) (by show w.heap.size + 1 < _; omega)).trans (by simp)
        have z0 : wr.frozen? ⟨w.heap.size + 1, 0, none⟩ = false := (hbel.frozen (p := ⟨w.heap.size + 1, 0, none⟩) (by show w.heap.size + 1 < _; omega)).trans (by simp)
        have z1 : wr.frozen? ⟨w.heap.size + 1, 1, none⟩ = false := (hbel.frozen (p := ⟨w.heap.size + 1, 1, none⟩) (by show w.heap.size + 1 < _; omega)).trans (by simp)
        have z2 : wr.frozen? ⟨w.heap.size + 1, 2, none⟩ = false := (hbel.frozen (p := ⟨w.heap.size + 1, 2, none⟩) (by show w.heap.size + 1 < _; omega)).trans (by simp)
        have z3 : wr.frozen? ⟨w.heap.size + 1, 3, none⟩ = false := (hbel.frozen (p := ⟨w.heap.size + 1, 3, none⟩) (by show w.heap.size + 1 < _; omega)).trans (by simp)
        go_wp2_with fail
        refine bodyPost_ret (v := .agg #[.string t.id, .int .i64 t.ca, .int .i64 t.cv, .slice (some ⟨w.heap.size + 1 + 1, 0, none⟩) t.n t.n]) (by simp [results, Try.results8, go_sem, q0, q1, q2, q3]) rfl ⟨_, rfl, ?_, ?_⟩
        · have hk : Keep (fun b => w.heap.size + 1 + 1 ≤ b) wr ((((wr.setCell ⟨w.heap.size + 1, 0, none⟩ (.string t.id)).setCell ⟨w.heap.size + 1, 1, none⟩ (.int .i64 t.ca)).setCell ⟨w.heap.size + 1, 2, none⟩ (.int .i64 t.cv)).setCell ⟨w.heap.size + 1, 3, none⟩ (.slice (some ⟨w.heap.size + 1 + 1, 0, none⟩) t.n t.n)) :=
            ((keep_above.trans keep_above (by simp)).trans keep_above (by simp)).trans keep_above (by simp)
          exact ⟨_, rfl, .inr ⟨hnil, _, _, rfl, fun _ => ⟨_, _, rfl, by omega, HW.keep hk (fun b q => by omega) (Nat.le_refl _)⟩⟩⟩
        · exact (((hB.setCell (p := ⟨w.heap.size + 1, 0, none⟩) (by show w.heap.size ≤ w.heap.size + 1; omega) _).setCell (p := ⟨w.heap.size + 1, 1, none⟩) (by show w.heap.size ≤ w.heap.size + 1; omega) _).setCell (p := ⟨w.heap.size + 1, 2, none⟩) (by show w.heap.size ≤ w.heap.size + 1; omega) _).setCell (p := ⟨w.heap.size + 1, 3, none⟩) (by show w.heap.size ≤ w.heap.size + 1; omega) _
end Go.Proofs.Qxb6623445a
