/- The walk of FnTopUpInsertedEntryIsFoundUnlessEarlierTwin. -/
import Derived.Test.Qxb6623445aShared
import Derived.Test.Qxb6623445aBytesI
import Derived.Deep.Cut
import Derived.Deep.RegionWith
namespace Go.Proofs.Qxb6623445a
open Go.RowKit

theorem box_new25 (w : World) (v0 v1 v2 v3 : Value) : Box4 (w.alloc (.cells #[v0, v1, v2, v3] 25)) w.heap.size v0 v1 v2 v3 := by
  refine ⟨?_, ?_, ?_, ?_⟩ <;> simp

theorem two_boxes (w : World) (m : Nat) (hm : w.heap.size = m) (a0 a1 b0 b1 v1 v2 : Value) (W : World)
    (h : (w.alloc (.cells #[a0, a1, v1] 41)).alloc (.cells #[b0, b1, v2] 41) = W) :
    Below w.heap.size w W ∧ W.cell? ⟨m, 2, none⟩ = some v1 ∧ W.cell? ⟨m + 1, 2, none⟩ = some v2 := by
  subst h hm
  refine ⟨(below_alloc w _).alloc (by simp) _, ?_, ?_⟩
  · go_simp
  · go_simp

/-- The list with t put in at p. -/
def ins (T : Nat → TD) (p : Nat) (t : TD) : Nat → TD := fun j => if j < p then T j else if j = p then t else T (j - 1)
theorem ins_lt {T : Nat → TD} {p j : Nat} {t : TD} (h : j < p) : ins T p t j = T j := if_pos h
theorem ins_at (T : Nat → TD) (p : Nat) (t : TD) : ins T p t p = t := by unfold ins; rw [if_neg (Nat.lt_irrefl _), if_pos rfl]
theorem ins_gt {T : Nat → TD} {p j : Nat} {t : TD} (h : p < j) : ins T p t j = T (j - 1) := by unfold ins; rw [if_neg (by omega), if_neg (by omega)]

set_option maxRecDepth 100000 in
set_option maxHeartbeats 4000000 in
theorem lawI_main (n : Nat) (T : Nat → TD) (t : TD) (la : Option Addr) (lcp : Nat) (st : Value) (p : Nat) (w : World) (hl : ListV Any w (.slice la n lcp) n T) (ht : SlV Any w st t) (hf : ∀ i, i < n → Fits (T i)) (hft : Fits t) (hn : n ≤ 9223372036854775807) (hp : p ≤ n) (hcp : n ≤ lcp) :
    Calls Try.prog 3 #[.slice la n lcp, .agg #[.string t.id, .int .i64 t.ca, .int .i64 t.cv, st], .int .i64 p] w fun e w' => e = .returned (.bool true) ∧ Below w.heap.size w w' := by
  obtain ⟨sx, sy, sz, rfl⟩ := ht.shape
  have hpc : p ≤ lcp := by omega
  have HF : Hid (∀ i, i < n → Fits (T i)) := hf
  have HFT : Hid (Fits t) := hft
  obtain ⟨la', lcp', hlv, hp0⟩ := hl.view
  simp only [Value.slice.injEq, true_and] at hlv
  obtain ⟨rfl, rfl⟩ := hlv
  have HP : Hid (0 < n → ∃ b off, la = some ⟨b, off, none⟩ ∧ Any b ∧ RowV Any w b off n T) := hp0
  have Bt0 := box_new25 w (.string t.id) (.int .i64 t.ca) (.int .i64 t.cv) (.slice sx sy sz)
  have hba := below_alloc w (.cells #[.string t.id, .int .i64 t.ca, .int .i64 t.cv, .slice sx sy sz] 25)
  clear hf hft hp0
  go_enter Try.func3, Try.ntmps3
  go_wp2_with fail
  refine (bytesI_any Any n T t _ _ p _ (hl.later hba) (ht.later hba) HF.out HFT.out hn).mono ?_
  rintro e w1 ⟨b, rfl, hb1, hgood⟩
  have hB1 := hba.trans (hb1.mono hba.size)
  have Bt1 := Bt0.later hb1
  clear Bt0 hba hb1
  cases b
  · go_wp2_with fail
    go_ret
    exact ⟨rfl, hB1⟩
  obtain ⟨⟨hn1, hT0⟩, htn⟩ := hgood rfl
  have HT : Hid (∀ i, i < n → (T i).n ≤ 1048576) := hT0
  clear hgood hT0
  obtain ⟨k0, k1, k2, k3⟩ := Bt1.same
  have HL1 : Hid (ListV Any w1 (.slice la n lcp) n T) := hl.later hB1
  have HS1 : Hid (SlV Any w1 (.slice sx sy sz) t) := ht.later hB1
  go_upto_region 3 with fail
  go_cut [27] from 18 (fun v wc => ∃ q : Bool, v = .bool q ∧ Below w1.heap.size w1 wc)
  case first =>
    go_region_with (first | (go_at_call 7; refine (size_any Any 0 n T _ _ (by omega) (by omega) (by exact HL1.out) HF.out hn).mono ?_; rintro e w2 ⟨r, rfl, r1, r2, hb2⟩; have l0 := cell_later' (by exact k0) hb2; have l1 := cell_later' (by exact k1) hb2; have l2 := cell_later' (by exact k2) hb2; have l3 := cell_later' (by exact k3) hb2) | (go_at_call 6; refine (sizeOne_fits Any _ t _ _ (by assumption) (by assumption) (by exact HS1.out.later ((Below.refl _ w1).drew.trans (by assumption))) HFT.out).mono ?_; rintro e w3 ⟨r', rfl, r1', r2', hb3⟩))
    all_goals
      go_wp2_with fail
      go_meet
      case rel => exact ⟨_, rfl, ((Below.refl _ w1).drew.trans hb2).trans (hb3.mono hb2.size)⟩
  case rest =>
    obtain ⟨q, rfl, hbc⟩ := hcut
    have hBc := hB1.trans (hbc.mono hB1.size)
    have Btc := Bt1.later hbc
    clear Bt1 k0 k1 k2 k3 HL1 HS1 hbc hB1
    cases q
    rotate_left
    · go_wp2_with fail
      go_ret
      exact ⟨rfl, hBc⟩
    have hmk := run_make_room (P := Try.prog) 29 34 _ 4 56 Try.underlying29 Try.info34 .i64 .i64 (n + 1) (by omega) (by omega)
    rw [show ((n + 1 : Nat) : Int) = (n : Int) + 1 by omega] at hmk
    have t1 : decide ((p : Int) < 0) = false := by simp
    have t2 : decide (n < p) = false := by simp; omega
    go_wp2_with fail
    go_loopw [7, 8] (fun v7 v8 wr => ∃ i : Nat, i ≤ p ∧ v7 = .slice (some ⟨wc.heap.size, 0, none⟩) i (n + 1) ∧ v8 = .int .i64 i ∧ Below wc.heap.size wc wr ∧ FillT wr wc.heap.size ((n + 1) * 4) T i) (fun _ v8 _ => p - (intOf v8).toNat)
    case atStart => exact ⟨0, by omega, rfl, rfl, below_alloc _ _, ⟨_, rowIs_madeAny _ _ _ _, fun i hi => absurd hi (by omega)⟩⟩
    case round =>
      obtain ⟨i, hi, rfl, rfl, hbr, hfill⟩ := hrel
      have hBr := hBc.trans (hbr.mono hBc.size)
      have hRlt := hfill.lt
      by_cases hlt : i < p
      · obtain ⟨b, off, rfl, hok, hrow⟩ := HP.out (by omega)
        obtain ⟨c0, c1, c2, sl, c3, hsl⟩ := hrow.later hok hBr i (by omega)
        clear hrow
        go_wp2_with fail
        refine (topup_any Any (T i) sl _ hsl (HT.out i (by omega))).mono ?_
        rintro e w5 ⟨v', rfl, hv1, hb5⟩
        obtain ⟨sl', rfl, hsl'⟩ := hv1
        have hfill1 := hfill.later hb5
        have hb51 := hbr.trans (hb5.mono hbr.size)
        have hsl1 : SlV (fun b => wc.heap.size < b) w5 sl' (T i) := hsl'.keep (fun _ _ _ => rfl) (fun b q => Nat.lt_of_lt_of_le hRlt q)
        obtain ⟨ya, yn, yc, rfl⟩ := hsl'.shape
        obtain ⟨⟨y0, g0⟩, f0⟩ := hfill1.at_ (i * 4) (by omega)
        obtain ⟨⟨y1, g1⟩, f1⟩ := hfill1.at_ (i * 4 + 1) (by omega)
        obtain ⟨⟨y2, g2⟩, f2⟩ := hfill1.at_ (i * 4 + 2) (by omega)
        obtain ⟨⟨y3, g3⟩, f3⟩ := hfill1.at_ (i * 4 + 3) (by omega)
        have hRlt1 := hfill1.lt
        have hF2 := hfill1.push (t := T i) (v := .slice ya yn yc) (.cells #[.string (T i).id, .int .i64 (T i).ca, .int .i64 (T i).cv, .slice ya yn yc] 34) hsl1
        clear hfill c0 c1 c2 c3 hsl hsl' hfill1 hsl1
        go_wp2_with fail
        go_roundw
        case rel =>
          have hF3 := hF2.congr (T' := T) (fun j hj => by
            by_cases e : j < i
            · exact push_lt e
            · rw [show j = i by omega, push_at])
          have hb6 := below_set4 hb51 (Nat.le_refl _) (i * 4) (i * 4 + 1) (i * 4 + 2) (i * 4 + 3) (.string (T i).id) (.int .i64 (T i).ca) (.int .i64 (T i).cv) (.slice ya yn yc) (.cells #[.string (T i).id, .int .i64 (T i).ca, .int .i64 (T i).cv, .slice ya yn yc] 34) (Nat.le_of_lt hRlt1)
          exact ⟨i + 1, by omega, rfl, by go_num, hb6, hF3⟩
        case measure => simp [intOf]; omega
      · have hip : i = p := by omega
        subst hip
        have Btr := Btc.later hbr
        obtain ⟨k0, k1, k2, k3⟩ := Btr.same
        go_wp2_with fail
        refine (topup_any Any t _ _ (ht.later hBr) htn).mono ?_
        rintro e w5 ⟨v', rfl, hv1, hb5⟩
        obtain ⟨sl', rfl, hsl'⟩ := hv1
        have hfill1 := hfill.later hb5
        have hb51 := hbr.trans (hb5.mono hbr.size)
        have hsl1 : SlV (fun b => wc.heap.size < b) w5 sl' t := hsl'.keep (fun _ _ _ => rfl) (fun b q => Nat.lt_of_lt_of_le hRlt q)
        obtain ⟨ya, yn, yc, rfl⟩ := hsl'.shape
        obtain ⟨⟨y0, g0⟩, f0⟩ := hfill1.at_ (i * 4) (by omega)
        obtain ⟨⟨y1, g1⟩, f1⟩ := hfill1.at_ (i * 4 + 1) (by omega)
        obtain ⟨⟨y2, g2⟩, f2⟩ := hfill1.at_ (i * 4 + 2) (by omega)
        obtain ⟨⟨y3, g3⟩, f3⟩ := hfill1.at_ (i * 4 + 3) (by omega)
        have hRlt1 := hfill1.lt
        have hF2 := (hfill1.push (t := t) (v := .slice ya yn yc) (.cells #[.string t.id, .int .i64 t.ca, .int .i64 t.cv, .slice ya yn yc] 34) hsl1).congr (T' := ins T i t) (fun j hj => by
          by_cases e : j < i
          · rw [push_lt e, ins_lt e]
          · rw [show j = i by omega, push_at, ins_at])
        have hb6 := below_set4 hb51 (Nat.le_refl _) (i * 4) (i * 4 + 1) (i * 4 + 2) (i * 4 + 3) (.string t.id) (.int .i64 t.ca) (.int .i64 t.cv) (.slice ya yn yc) (.cells #[.string t.id, .int .i64 t.ca, .int .i64 t.cv, .slice ya yn yc] 34) (Nat.le_of_lt hRlt1)
        clear hfill hsl' hfill1 hsl1 k0 k1 k2 k3 Btr hb5 hb51 hbr hBr
        go_wp2_with fail
        go_loopw [7, 9] (fun v7 v9 wr => ∃ j : Nat, i ≤ j ∧ j ≤ n ∧ v7 = .slice (some ⟨wc.heap.size, 0, none⟩) (j + 1) (n + 1) ∧ v9 = .int .i64 j ∧ Below wc.heap.size wc wr ∧ FillT wr wc.heap.size ((n + 1) * 4) (ins T i t) (j + 1)) (fun _ v9 _ => n - (intOf v9).toNat)
        case atStart => exact ⟨i, Nat.le_refl _, hp, rfl, rfl, hb6, hF2⟩
        case round =>
          obtain ⟨j, hij, hj, rfl, rfl, hbr, hfill⟩ := hrel
          have hBr := hBc.trans (hbr.mono hBc.size)
          have hRlt := hfill.lt
          by_cases hjn : j < n
          · obtain ⟨b, off, rfl, hok, hrow⟩ := HP.out (by omega)
            obtain ⟨c0, c1, c2, sl, c3, hsl⟩ := hrow.later hok hBr j hjn
            clear hrow
            go_wp2_with fail
            refine (topup_any Any (T j) sl _ hsl (HT.out j hjn)).mono ?_
            rintro e w8 ⟨v', rfl, hv1, hb8⟩
            obtain ⟨sl', rfl, hsl'⟩ := hv1
            have hfill1 := hfill.later hb8
            have hb81 := hbr.trans (hb8.mono hbr.size)
            have hsl1 : SlV (fun b => wc.heap.size < b) w8 sl' (T j) := hsl'.keep (fun _ _ _ => rfl) (fun b q => Nat.lt_of_lt_of_le hRlt q)
            obtain ⟨xa, xn, xc, rfl⟩ := hsl'.shape
            obtain ⟨⟨y0, g0⟩, f0⟩ := hfill1.at_ ((j + 1) * 4) (by omega)
            obtain ⟨⟨y1, g1⟩, f1⟩ := hfill1.at_ ((j + 1) * 4 + 1) (by omega)
            obtain ⟨⟨y2, g2⟩, f2⟩ := hfill1.at_ ((j + 1) * 4 + 2) (by omega)
            obtain ⟨⟨y3, g3⟩, f3⟩ := hfill1.at_ ((j + 1) * 4 + 3) (by omega)
            have hRlt1 := hfill1.lt
            have hF4 := hfill1.push (t := T j) (v := .slice xa xn xc) (.cells #[.string (T j).id, .int .i64 (T j).ca, .int .i64 (T j).cv, .slice xa xn xc] 34) hsl1
            clear hfill c0 c1 c2 c3 hsl hsl' hfill1 hsl1
            go_wp2_with fail
            go_roundw
            case rel =>
              have hF5 := hF4.congr (T' := ins T i t) (fun q hq => by
                by_cases e : q < j + 1
                · exact push_lt e
                · rw [show q = j + 1 by omega, push_at, ins_gt (by omega)]; rfl)
              have hb9 := below_set4 hb81 (Nat.le_refl _) ((j + 1) * 4) ((j + 1) * 4 + 1) ((j + 1) * 4 + 2) ((j + 1) * 4 + 3) (.string (T j).id) (.int .i64 (T j).ca) (.int .i64 (T j).cv) (.slice xa xn xc) (.cells #[.string (T j).id, .int .i64 (T j).ca, .int .i64 (T j).cv, .slice xa xn xc] 34) (Nat.le_of_lt hRlt1)
              exact ⟨j + 1, by omega, by omega, rfl, by go_num, hb9, hF5⟩
            case measure => simp [intOf]; omega
          · have hjn' : j = n := by omega
            subst hjn'
            have LW : ListV Any wr (.slice (some ⟨wc.heap.size, 0, none⟩) (j + 1) (j + 1)) (j + 1) (ins T i t) := .inr ⟨_, _, rfl, Nat.le_refl _, fun _ => ⟨_, _, rfl, trivial, (hfill.whole (Nat.le_refl _)).keep (ok' := Any) (fun _ _ _ => rfl) (fun _ _ => trivial) (Nat.le_refl _)⟩⟩
            have Btr := Btc.later hbr
            clear hfill hF2 hb6 hRlt hRlt1
            go_wp2_with fail
            refine (topups_any Any i T _ wr ((hl.later hBr).front hp) (by omega) (fun q hq => HT.out q (by omega))).mono ?_
            rintro e wf ⟨vf, rfl, hvf, hbf⟩
            obtain ⟨fa, fcp, rfl⟩ := hvf.shown
            have hBf := hBr.trans (hbf.mono hBr.size)
            replace LW := LW.later hbf
            have LF := hvf.any
            replace Btr := Btr.later hbf
            obtain ⟨k0, k1, k2, k3⟩ := Btr.same
            clear hvf hbf hBr hbr
            go_wp2_with fail
            refine (topup_any Any t _ _ (ht.later hBf) htn).mono ?_
            rintro e wg ⟨vw, rfl, hvw, hbg⟩
            obtain ⟨slw, rfl, hslw⟩ := hvw
            obtain ⟨wa, wn, wq, rfl⟩ := hslw.shape
            have hbw := below_alloc wg (.cells #[.string t.id, .int .i64 t.ca, .int .i64 t.cv, .slice wa wn wq] 34)
            have Bw := box_new wg (.string t.id) (.int .i64 t.ca) (.int .i64 t.cv) (.slice wa wn wq)
            have hbgw := hbg.trans (hbw.mono hbg.size)
            replace LW := LW.later hbgw
            replace LF := LF.later hbgw
            replace Btr := Btr.later hbgw
            have SW : SlV Any _ (.slice wa wn wq) t := (hslw.keep (ok' := Any) (fun _ _ _ => rfl) (fun _ _ => trivial)).later hbw
            have hBw := hBf.trans (hbgw.mono hBf.size)
            have kw := (cell_later' k0 hbg)
            have hw1 : w.heap.size < wg.heap.size := block_lt_of_cell kw
            have kx : ∀ o1 o2 o3, (((wg.alloc o1).alloc o2).alloc o3).cell? ⟨w.heap.size, 0, none⟩ = some (.string t.id) := fun o1 o2 o3 => by
              rw [cell_alloc (by simp; omega), cell_alloc (by simp; omega), cell_alloc hw1]; exact kw
            clear k0 k1 k2 k3 hslw hbg hbgw hbw hBf
            go_wp2_with fail
            generalize hw7 : ((wg.alloc (Obj.cells #[Value.string t.id, Value.int IntKind.i64 t.ca, Value.int IntKind.i64 t.cv, Value.slice wa wn wq] 34)).alloc (Obj.cells #[Value.slice none 0 0, Value.slice none 0 0, Value.slice (some { block := wc.heap.size, off := 0 }) (j + 1) (j + 1)] 41)).alloc (Obj.cells #[Value.slice none 0 0, Value.slice none 0 0, Value.slice fa i fcp] 41) = w7
            obtain ⟨hb7, c1, c2⟩ := two_boxes _ (wg.heap.size + 1) (by simp) _ _ _ _ _ _ _ hw7
            clear hw7 kx
            replace LW := LW.later hb7
            replace LF := LF.later hb7
            replace Btr := Btr.later hb7
            replace Bw := Bw.later hb7
            replace SW := SW.later hb7
            have hB7 := hBw.trans (hb7.mono hBw.size)
            clear hb7 hBw kw
            generalize wg.heap.size = wb at *
            refine (find_any Any (j + 1) (ins T i t) _ t.id (wb + 1) w7 LW (by omega) c1).mono ?_
            rintro e w8 ⟨g, gok, rfl, hg, hb8⟩
            obtain ⟨gs, gc, gd, gx, gy, gz, rfl⟩ := hg.shape
            have hbx := hb8.trans ((below_alloc w8 (.cells #[.string gs, .int .i64 gc, .int .i64 gd, .slice gx gy gz] 34)).mono hb8.size)
            have Bg := box_new w8 (.string gs) (.int .i64 gc) (.int .i64 gd) (.slice gx gy gz)
            replace hg := hg.later (below_alloc w8 (.cells #[.string gs, .int .i64 gc, .int .i64 gd, .slice gx gy gz] 34))
            replace LF := LF.later hbx
            replace Btr := Btr.later hbx
            replace Bw := Bw.later hbx
            replace SW := SW.later hbx
            replace c2 := cell_later' c2 hbx
            have hB8 := hB7.trans (hbx.mono hB7.size)
            obtain ⟨k0, k1, k2, k3⟩ := Btr.same
            clear LW hbx hb8 hB7 c1
            go_wp2_with fail
            generalize w8.heap.size = gb at *
            generalize w8.alloc (.cells #[.string gs, .int .i64 gc, .int .i64 gd, .slice gx gy gz] 34) = w9 at *
            refine (find_any Any i T _ t.id (wb + 1 + 1) w9 LF (by omega) c2).mono ?_
            rintro e w10 ⟨f, fok, rfl, hfd, hb10⟩
            obtain ⟨fs, fc, fd, fx, fy, fz, rfl⟩ := hfd.shape
            have hbx := hb10.trans ((below_alloc w10 (.cells #[.string fs, .int .i64 fc, .int .i64 fd, .slice fx fy fz] 34)).mono hb10.size)
            have Bf := box_new w10 (.string fs) (.int .i64 fc) (.int .i64 fd) (.slice fx fy fz)
            replace hfd := hfd.later (below_alloc w10 (.cells #[.string fs, .int .i64 fc, .int .i64 fd, .slice fx fy fz] 34))
            replace hg := hg.later hbx
            replace Bg := Bg.later hbx
            replace Bw := Bw.later hbx
            replace SW := SW.later hbx
            have hB10 := hB8.trans (hbx.mono hB8.size)
            clear LF hbx hb10 hB8 c2 Btr k0 k1 k2 k3
            have HID : Hid ((ins T i t i).id.toList = t.id.toList) := by rw [ins_at]; rfl
            rcases hg with ⟨rfl, fi, f1, f2, f3, slg, hgv, hgs⟩ | ⟨rfl, hall, hgz⟩
            rotate_left
            · exact absurd HID.out (hall i (by omega))
            simp only [Value.agg.injEq, Array.mk.injEq, List.cons.injEq, Value.string.injEq, Value.int.injEq, and_true, true_and] at hgv
            obtain ⟨e1, e2, e3, rfl⟩ := hgv
            subst e1 e2 e3
            rcases hfd with ⟨rfl, fj, j1, j2, j3, slf, hfv, hfs⟩ | ⟨rfl, hfall, hfz⟩
            · have e : fj = fi := by
                rcases Nat.lt_trichotomy fj fi with h | h | h
                · have := f3 fj h
                  rw [ins_lt j1] at this
                  exact absurd j2 this
                · exact h
                · have := j3 fi h
                  rw [ins_lt (by omega)] at f2
                  exact absurd f2 this
              subst e
              simp only [Value.agg.injEq, Array.mk.injEq, List.cons.injEq, Value.string.injEq, Value.int.injEq, and_true, true_and] at hfv
              obtain ⟨e1, e2, e3, rfl⟩ := hfv
              subst e1 e2 e3
              have et : ins T i t fj = T fj := ins_lt j1
              rw [et] at hgs Bg
              have HX : Hid (SlV Any _ (.slice gx gy gz) (T fj) ∧ SlV Any _ (.slice fx fy fz) (T fj)) := ⟨hgs, hfs⟩
              rw [et]
              obtain ⟨k0, k1, k2, k3⟩ := Bg.same
              obtain ⟨p0, p1, p2, p3⟩ := Bf.same
              clear f2 f3 j2 j3 hgs hfs et
              go_wp2_with fail
              refine (eq_any Any (T fj) _ _ _ HX.out.1 HX.out.2 (HT.out fj (by omega))).mono ?_
              rintro e wz ⟨rfl, hbz⟩
              go_wp2_with fail
              go_ret
              exact ⟨rfl, hB10.trans (hbz.mono hB10.size)⟩
            · have e : fi = i := by
                rcases Nat.lt_trichotomy fi i with h | h | h
                · rw [ins_lt h] at f2
                  exact absurd f2 (hfall fi h)
                · exact h
                · exact absurd HID.out (f3 i h)
              subst e
              have et : ins T fi t fi = t := ins_at T fi t
              rw [et] at hgs Bg
              have HX : Hid (SlV Any _ (.slice gx gy gz) t ∧ SlV Any _ (.slice wa wn wq) t) := ⟨hgs, SW⟩
              rw [et]
              obtain ⟨k0, k1, k2, k3⟩ := Bg.same
              obtain ⟨p0, p1, p2, p3⟩ := Bw.same
              clear f2 f3 hfall hfz hgs et
              go_wp2_with fail
              refine (eq_any Any t _ _ _ HX.out.1 HX.out.2 htn).mono ?_
              rintro e wz ⟨rfl, hbz⟩
              go_wp2_with fail
              go_ret
              exact ⟨rfl, hB10.trans (hbz.mono hB10.size)⟩

set_option maxRecDepth 100000 in
set_option maxHeartbeats 4000000 in
theorem lawI_out (n : Nat) (T : Nat → TD) (t : TD) (la : Option Addr) (lcp : Nat) (st : Value) (p : Int) (w : World) (hl : ListV Any w (.slice la n lcp) n T) (ht : SlV Any w st t) (hf : ∀ i, i < n → Fits (T i)) (hft : Fits t) (hn : n ≤ 9223372036854775807) (hout : p < 0 ∨ (n : Int) < p) :
    Calls Try.prog 3 #[.slice la n lcp, .agg #[.string t.id, .int .i64 t.ca, .int .i64 t.cv, st], .int .i64 p] w fun e w' => e = .returned (.bool true) ∧ Below w.heap.size w w' := by
  obtain ⟨sx, sy, sz, rfl⟩ := ht.shape
  have HF : Hid (∀ i, i < n → Fits (T i)) := hf
  have HFT : Hid (Fits t) := hft
  have Bt0 := box_new25 w (.string t.id) (.int .i64 t.ca) (.int .i64 t.cv) (.slice sx sy sz)
  have hba := below_alloc w (.cells #[.string t.id, .int .i64 t.ca, .int .i64 t.cv, .slice sx sy sz] 25)
  clear hf hft
  go_enter Try.func3, Try.ntmps3
  go_wp2_with fail
  refine (bytesI_any Any n T t _ _ p _ (hl.later hba) (ht.later hba) HF.out HFT.out hn).mono ?_
  rintro e w1 ⟨b, rfl, hb1, hgood⟩
  have hB1 := hba.trans (hb1.mono hba.size)
  have Bt1 := Bt0.later hb1
  clear Bt0 hba hb1
  cases b
  · go_wp2_with fail
    go_ret
    exact ⟨rfl, hB1⟩
  obtain ⟨⟨hn1, _⟩, htn⟩ := hgood rfl
  clear hgood
  obtain ⟨k0, k1, k2, k3⟩ := Bt1.same
  have HL1 : Hid (ListV Any w1 (.slice la n lcp) n T) := hl.later hB1
  have HS1 : Hid (SlV Any w1 (.slice sx sy sz) t) := ht.later hB1
  go_upto_region 3 with fail
  go_cut [27] from 18 (fun v wc => ∃ q : Bool, v = .bool q ∧ Below w1.heap.size w1 wc)
  case first =>
    go_region_with (first | (go_at_call 7; refine (size_any Any 0 n T _ _ (by omega) (by omega) (by exact HL1.out) HF.out hn).mono ?_; rintro e w2 ⟨r, rfl, r1, r2, hb2⟩; have l0 := cell_later' (by exact k0) hb2; have l1 := cell_later' (by exact k1) hb2; have l2 := cell_later' (by exact k2) hb2; have l3 := cell_later' (by exact k3) hb2) | (go_at_call 6; refine (sizeOne_fits Any _ t _ _ (by assumption) (by assumption) (by exact HS1.out.later ((Below.refl _ w1).drew.trans (by assumption))) HFT.out).mono ?_; rintro e w3 ⟨r', rfl, r1', r2', hb3⟩))
    all_goals
      go_wp2_with fail
      go_meet
      case rel => exact ⟨_, rfl, ((Below.refl _ w1).drew.trans hb2).trans (hb3.mono hb2.size)⟩
  case rest =>
    obtain ⟨q, rfl, hbc⟩ := hcut
    have hBc := hB1.trans (hbc.mono hB1.size)
    clear Bt1 k0 k1 k2 k3 HL1 HS1 hbc hB1
    cases q
    rotate_left
    · go_wp2_with fail
      go_ret
      exact ⟨rfl, hBc⟩
    by_cases hp : p < 0
    · go_wp2_with fail
      go_ret
      exact ⟨rfl, hBc⟩
    · have hp2 : (n : Int) < p := by omega
      go_wp2_with fail
      go_ret
      exact ⟨rfl, hBc⟩
end Go.Proofs.Qxb6623445a
