/- The walk of FnTopUpSplitsAtAnyCutAndRefusesAbsentIDs. -/
import Derived.Test.Qxb6623445aShared
import Derived.Test.Qxb6623445aBytesS
namespace Go.Proofs.Qxb6623445a
open Go.RowKit

set_option maxRecDepth 100000 in
set_option maxHeartbeats 4000000 in
theorem lawS_main (n : Nat) (T : Nat → TD) (la : Option Addr) (lcp : Nat) (id : ByteArray) (k : Nat) (w : World) (hl : ListV Any w (.slice la n lcp) n T) (hf : ∀ i, i < n → Fits (T i)) (hn : n ≤ 9223372036854775807) (hid : id.size ≤ 9223372036854775807) (hk : k ≤ n) (hcp : n ≤ lcp) :
    Calls Try.prog 4 #[.slice la n lcp, .string id, .int .i64 k] w fun e w' => e = .returned (.bool true) ∧ Below w.heap.size w w' := by
  have hkc : k ≤ lcp := by omega
  obtain ⟨lb, hlb⟩ : ∃ x, (if lcp = k then la else Option.map (fun x => Addr.add x (k * 4)) la) = x := ⟨_, rfl⟩
  have HF : Hid (∀ i, i < n → Fits (T i)) := hf
  have HLB : Hid ((if lcp = k then la else Option.map (fun x => Addr.add x (k * 4)) la) = lb) := hlb
  clear hf
  go_enter Try.func4, Try.ntmps4
  go_wp2_with fail
  refine (bytesS_any Any n T _ id k w hl HF.out hn hid).mono ?_
  rintro e w1 ⟨b, rfl, hb1, hgood⟩
  cases b
  · go_wp2_with fail
    go_ret
    exact ⟨rfl, hb1⟩
  obtain ⟨⟨hn1, hT0⟩, hids⟩ := hgood rfl
  have HT : Hid (∀ i, i < n → (T i).n ≤ 1048576) := hT0
  clear hgood hT0
  go_wp2_with fail
  refine (size_any Any _ n T _ w1 (by omega) (by omega) (hl.later hb1) HF.out hn).mono ?_
  rintro e w2 ⟨r, rfl, r1, r2, hb2⟩
  have hB2 := hb1.trans (hb2.mono hb1.size)
  by_cases hr : 1048576 < r
  · go_wp2_with fail
    go_ret
    exact ⟨rfl, hB2⟩
  go_wp2_with fail
  refine (topups_any Any n T _ w2 (hl.later hB2) hn1 HT.out).mono ?_
  rintro e w3 ⟨va, rfl, hva, hb3⟩
  have hB3 := hB2.trans (hb3.mono hB2.size)
  obtain ⟨aa, acp, rfl⟩ := hva.shown
  go_wp2_with fail
  refine (topups_any Any k T _ w3 ((hl.later hB3).front hk) (by omega) (fun i hi => HT.out i (by omega))).mono ?_
  rintro e w4 ⟨vf, rfl, hvf, hb4⟩
  have hB4 := hB3.trans (hb4.mono hB3.size)
  obtain ⟨fa, fcp, rfl⟩ := hvf.shown
  go_wp2_with fail
  refine (topups_any Any (n - k) (fun i => T (k + i)) _ w4 ((hl.later hB4).back hk HLB.out) (by omega) (fun i hi => HT.out (k + i) (by omega))).mono ?_
  rintro e w5 ⟨vb, rfl, hvb, hb5⟩
  have hB5 := hB4.trans (hb5.mono hB4.size)
  obtain ⟨ba, bcp, rfl⟩ := hvb.shown
  go_wp2_with fail
  refine (without_any Any n T _ id w5 (hl.later hB5) hn1 HT.out).mono ?_
  rintro e w6 ⟨m, Rf, vr, hvr, rfl, hm, hR, hme, hvR, hb6⟩
  subst hvr
  have hB6 := hB5.trans (hb6.mono hB5.size)
  -- all four lists, in the world as it stands
  have LA := ((hva.any.later hb4).later hb5).later hb6
  have LF := (hvf.any.later hb5).later hb6
  have LB := hvb.any.later hb6
  have LR := hvR.any
  have HRm : Hid (∀ i, i < m → (Rf i).id.toList ≠ id.toList) := hR
  have HME : Hid (m = n ↔ ∀ i, i < n → (T i).id.toList ≠ id.toList) := hme
  clear hR hme hva hvf hvb hvR hb1 hb2 hb3 hb4 hb5 hb6 hB2 hB3 hB4 hB5 hlb HLB hl HF
  go_wp2_with fail
  generalize hw7 : (((w6.alloc (Obj.cells #[Value.slice none 0 0, Value.slice none 0 0, Value.slice aa n acp] 41)).alloc (Obj.cells #[Value.slice none 0 0, Value.slice none 0 0, Value.slice fa k fcp] 41)).alloc (Obj.cells #[Value.slice none 0 0, Value.slice none 0 0, Value.slice ba (n - k) bcp] 41)).alloc (Obj.cells #[Value.slice none 0 0, Value.slice none 0 0, Value.slice (some { block := w5.heap.size, off := 0 }) m n] 41) = w7
  obtain ⟨hb7, k1, k2, k3, k4⟩ := four_boxes _ _ _ _ _ _ _ _ _ _ _ _ _ _ hw7
  clear hw7
  replace LA := LA.later hb7
  replace LF := LF.later hb7
  replace LB := LB.later hb7
  replace LR := LR.later hb7
  have hB7 := hB6.trans (hb7.mono hB6.size)
  clear hb7 hB6
  refine (find_any Any n T _ id w6.heap.size w7 LA (by omega) k1).mono ?_
  rintro e wq ⟨g, gok, rfl, hg, hbq⟩
  obtain ⟨gs, gc, gd, gx, gy, gz, rfl⟩ := hg.shape
  go_wp2_with fail
  have hbx := hbq.trans ((below_alloc wq (.cells #[.string gs, .int .i64 gc, .int .i64 gd, .slice gx gy gz] 34)).mono hbq.size)
  have Bg := box_new wq (.string gs) (.int .i64 gc) (.int .i64 gd) (.slice gx gy gz)
  replace hg := hg.later (below_alloc wq (.cells #[.string gs, .int .i64 gc, .int .i64 gd, .slice gx gy gz] 34))
  generalize (wq.heap.size) = gblk at *
  generalize wq.alloc (.cells #[.string gs, .int .i64 gc, .int .i64 gd, .slice gx gy gz] 34) = x8 at *
  replace LA := LA.later hbx
  replace LF := LF.later hbx
  replace LB := LB.later hbx
  replace LR := LR.later hbx
  replace k1 := cell_later' k1 hbx
  replace k2 := cell_later' k2 hbx
  replace k3 := cell_later' k3 hbx
  replace k4 := cell_later' k4 hbx
  have hBx8 := hB7.trans (hbx.mono hB7.size)
  clear hbx hbq hB7
  try clear wq
  refine (find_any Any k T _ id (w6.heap.size + 1) x8 LF (by omega) k2).mono ?_
  rintro e wq ⟨g, fok, rfl, hf, hbq⟩
  obtain ⟨fs, fc, fd, fx, fy, fz, rfl⟩ := hf.shape
  go_wp2_with fail
  have hbx := hbq.trans ((below_alloc wq (.cells #[.string fs, .int .i64 fc, .int .i64 fd, .slice fx fy fz] 34)).mono hbq.size)
  have Bf := box_new wq (.string fs) (.int .i64 fc) (.int .i64 fd) (.slice fx fy fz)
  replace hf := hf.later (below_alloc wq (.cells #[.string fs, .int .i64 fc, .int .i64 fd, .slice fx fy fz] 34))
  generalize (wq.heap.size) = fblk at *
  generalize wq.alloc (.cells #[.string fs, .int .i64 fc, .int .i64 fd, .slice fx fy fz] 34) = x9 at *
  replace LA := LA.later hbx
  replace LF := LF.later hbx
  replace LB := LB.later hbx
  replace LR := LR.later hbx
  replace k1 := cell_later' k1 hbx
  replace k2 := cell_later' k2 hbx
  replace k3 := cell_later' k3 hbx
  replace k4 := cell_later' k4 hbx
  replace Bg := Bg.later hbx
  replace hg := hg.later hbx
  have hBx9 := hBx8.trans (hbx.mono hBx8.size)
  clear hbx hbq hBx8
  try clear wq
  refine (find_any Any (n - k) (fun i => T (k + i)) _ id (w6.heap.size + 1 + 1) x9 LB (by omega) k3).mono ?_
  rintro e wq ⟨g, bkok, rfl, hbk, hbq⟩
  obtain ⟨bks, bkc, bkd, bkx, bky, bkz, rfl⟩ := hbk.shape
  go_wp2_with fail
  have hbx := hbq.trans ((below_alloc wq (.cells #[.string bks, .int .i64 bkc, .int .i64 bkd, .slice bkx bky bkz] 34)).mono hbq.size)
  have Bbk := box_new wq (.string bks) (.int .i64 bkc) (.int .i64 bkd) (.slice bkx bky bkz)
  replace hbk := hbk.later (below_alloc wq (.cells #[.string bks, .int .i64 bkc, .int .i64 bkd, .slice bkx bky bkz] 34))
  generalize (wq.heap.size) = bkblk at *
  generalize wq.alloc (.cells #[.string bks, .int .i64 bkc, .int .i64 bkd, .slice bkx bky bkz] 34) = x10 at *
  replace LA := LA.later hbx
  replace LF := LF.later hbx
  replace LB := LB.later hbx
  replace LR := LR.later hbx
  replace k1 := cell_later' k1 hbx
  replace k2 := cell_later' k2 hbx
  replace k3 := cell_later' k3 hbx
  replace k4 := cell_later' k4 hbx
  replace Bg := Bg.later hbx
  replace hg := hg.later hbx
  replace Bf := Bf.later hbx
  replace hf := hf.later hbx
  have hBx10 := hBx9.trans (hbx.mono hBx9.size)
  clear hbx hbq hBx9
  try clear wq
  refine (find_any Any m Rf _ id (w6.heap.size + 1 + 1 + 1) x10 LR (by omega) k4).mono ?_
  rintro e wq ⟨g, rrok, rfl, hrr, hbq⟩
  obtain ⟨rrs, rrc, rrd, rrx, rry, rrz, rfl⟩ := hrr.shape
  replace LA := LA.later hbq
  replace LF := LF.later hbq
  replace LB := LB.later hbq
  replace LR := LR.later hbq
  replace k1 := cell_later' k1 hbq
  replace k2 := cell_later' k2 hbq
  replace k3 := cell_later' k3 hbq
  replace k4 := cell_later' k4 hbq
  replace Bg := Bg.later hbq
  replace hg := hg.later hbq
  replace Bf := Bf.later hbq
  replace hf := hf.later hbq
  replace Bbk := Bbk.later hbq
  replace hbk := hbk.later hbq
  have hBq := hBx10.trans (hbq.mono hBx10.size)
  clear hBx10 hbq
  rcases hrr with ⟨_, f0, hf1, hf2, _⟩ | ⟨rfl, _, hz⟩
  · exact absurd hf2 (HRm.out f0 hf1)
  simp only [Value.agg.injEq, Array.mk.injEq, List.cons.injEq, Value.string.injEq, Value.int.injEq, Value.slice.injEq, and_true, true_and] at hz
  obtain ⟨rfl, rfl, rfl, rfl, rfl, rfl⟩ := hz
  have Bz := box_new wq (.string ⟨#[]⟩) (.int .i64 0) (.int .i64 0) (.slice none 0 0)
  have hbz := below_alloc wq (.cells #[.string ⟨#[]⟩, .int .i64 0, .int .i64 0, .slice none 0 0] 34)
  replace Bg := Bg.later hbz
  replace Bf := Bf.later hbz
  replace Bbk := Bbk.later hbz
  replace hg := hg.later hbz
  replace hf := hf.later hbz
  replace hbk := hbk.later hbz
  have hBz := hBq.trans (hbz.mono hBq.size)
  clear LA LF LB LR k1 k2 k3 k4 hBq hbz
  rcases hg with ⟨rfl, fi, f1, f2, f3, slg, hgv, hgs⟩ | ⟨rfl, hall, hgz⟩
  · simp only [Value.agg.injEq, Array.mk.injEq, List.cons.injEq, Value.string.injEq, Value.int.injEq, and_true, true_and] at hgv
    obtain ⟨rfl, rfl, rfl, rfl⟩ := hgv
    have hmn : ((m : Int) != (n : Int)) = true := by
      rw [bne_iff_ne]
      intro e
      exact absurd f2 (HME.out.1 (by omega) fi f1)
    have hne : ((m : Int) == (n : Int)) = false := by simpa using hmn
    have hstr : ((T fi).id.toList == id.toList) = true := by rw [f2]; exact beq_self_eq_true _
    have hstr' : ((T fi).id.toList != id.toList) = false := by rw [f2]; simp
    rcases hf with ⟨rfl, fj, j1, j2, j3, slf, hfv, hfs⟩ | ⟨rfl, hfall, hfz⟩
    rotate_left
    clear hfz
    rotate_left
    · have e : fj = fi := by
        rcases Nat.lt_trichotomy fj fi with h | h | h
        · exact absurd j2 (f3 fj h)
        · exact h
        · exact absurd f2 (j3 fi h)
      subst e
      simp only [Value.agg.injEq, Array.mk.injEq, List.cons.injEq, Value.string.injEq, Value.int.injEq, and_true, true_and] at hfv
      obtain ⟨rfl, rfl, rfl, rfl⟩ := hfv
      go_wp2_with fail
      refine (isZero_yes _).mono ?_
      rintro e wy ⟨rfl, hby⟩
      obtain ⟨g0, g1, g2, g3⟩ := (Bg.later hby).same
      obtain ⟨p0, p1, p2, p3⟩ := (Bf.later hby).same
      have HX : Hid (SlV Any wy (.slice gx gy gz) (T fj) ∧ SlV Any wy (.slice fx fy fz) (T fj)) := ⟨hgs.later hby, hfs.later hby⟩
      have hBy := hBz.trans (hby.mono hBz.size)
      clear f2 f3 j2 j3 hgs hfs hbk Bbk Bg Bf Bz hby hBz
      go_wp2_with fail
      refine (eq_any Any (T fj) _ _ wy HX.out.1 HX.out.2 (HT.out fj f1)).mono ?_
      rintro e wz ⟨rfl, hbw⟩
      go_wp2_with fail
      go_ret
      exact ⟨rfl, hBy.trans (hbw.mono hBy.size)⟩
    · rcases hbk with ⟨rfl, bj, j1, j2, j3, slb, hbv, hbs⟩ | ⟨rfl, hball, hbz⟩
      · have hki : k ≤ fi := by
          rcases Nat.lt_or_ge fi k with h | h
          · exact absurd f2 (hfall fi h)
          · exact h
        have e : k + bj = fi := by
          rcases Nat.lt_trichotomy (k + bj) fi with h | h | h
          · exact absurd j2 (f3 (k + bj) h)
          · exact h
          · have : (T (k + (fi - k))).id.toList ≠ id.toList := j3 (fi - k) (by omega)
            rw [show k + (fi - k) = fi by omega] at this
            exact absurd f2 this
        subst e
        simp only [Value.agg.injEq, Array.mk.injEq, List.cons.injEq, Value.string.injEq, Value.int.injEq, and_true, true_and] at hbv
        obtain ⟨rfl, rfl, rfl, rfl⟩ := hbv
        have hbs1 : SlV Any _ (.slice bkx bky bkz) (T (k + bj)) := hbs
        go_wp2_with fail
        refine (isZero_yes _).mono ?_
        rintro e wy ⟨rfl, hby⟩
        obtain ⟨g0, g1, g2, g3⟩ := (Bg.later hby).same
        obtain ⟨p0, p1, p2, p3⟩ := (Bbk.later hby).same
        have HX : Hid (SlV Any wy (.slice gx gy gz) (T (k + bj)) ∧ SlV Any wy (.slice bkx bky bkz) (T (k + bj))) := ⟨hgs.later hby, hbs1.later hby⟩
        have hBy := hBz.trans (hby.mono hBz.size)
        clear f2 f3 j2 j3 hgs hbs hbs1 hfall Bbk Bg Bf Bz hby hBz
        go_wp2_with fail
        refine (eq_any Any (T (k + bj)) _ _ wy HX.out.1 HX.out.2 (HT.out (k + bj) f1)).mono ?_
        rintro e wz ⟨rfl, hbw⟩
        go_wp2_with fail
        go_ret
        exact ⟨rfl, hBy.trans (hbw.mono hBy.size)⟩
      · exfalso
        rcases Nat.lt_or_ge fi k with h | h
        · exact absurd f2 (hfall fi h)
        · have : (T (k + (fi - k))).id.toList ≠ id.toList := hball (fi - k) (by omega)
          rw [show k + (fi - k) = fi by omega] at this
          exact absurd f2 this
  · rcases hf with ⟨_, fj, j1, j2, _⟩ | ⟨rfl, hfall, hfz⟩
    · exact absurd j2 (hall fj (by omega))
    rcases hbk with ⟨_, bj, j1, j2, _⟩ | ⟨rfl, hball, hbz⟩
    · exact absurd j2 (hall (k + bj) (by omega))
    simp only [Value.agg.injEq, Array.mk.injEq, List.cons.injEq, Value.string.injEq, Value.int.injEq, Value.slice.injEq, and_true, true_and] at hgz hbz
    obtain ⟨rfl, rfl, rfl, rfl, rfl, rfl⟩ := hgz
    obtain ⟨rfl, rfl, rfl, rfl, rfl, rfl⟩ := hbz
    have hmn : m = n := HME.out.2 hall
    subst hmn
    clear hall hfall hball hfz
    go_wp2_with fail
    refine (isZero_yes _).mono ?_
    rintro e wy ⟨rfl, hby⟩
    replace Bg := Bg.later hby
    replace Bbk := Bbk.later hby
    have hBy := hBz.trans (hby.mono hBz.size)
    obtain ⟨g0, g1, g2, g3⟩ := Bg.same
    clear Bf Bz hby hBz
    go_wp2_with fail
    refine (isZero_yes _).mono ?_
    rintro e wu ⟨rfl, hbu⟩
    obtain ⟨u0, u1, u2, u3⟩ := (Bg.later hbu).same
    obtain ⟨p0, p1, p2, p3⟩ := (Bbk.later hbu).same
    have hBu := hBy.trans (hbu.mono hBy.size)
    clear g0 g1 g2 g3 hbu hBy Bg Bbk
    go_wp2_with fail
    refine (eq_any Any zeroTD _ _ wu (zero_sl wu) (zero_sl wu) (Nat.zero_le _)).mono ?_
    rintro e wz ⟨rfl, hbw⟩
    go_wp2_with fail
    go_ret
    exact ⟨rfl, hBu.trans (hbw.mono hBu.size)⟩

set_option maxRecDepth 100000 in
set_option maxHeartbeats 1000000 in
theorem lawS_out (n : Nat) (T : Nat → TD) (la : Option Addr) (lcp : Nat) (id : ByteArray) (k : Int) (w : World) (hl : ListV Any w (.slice la n lcp) n T) (hf : ∀ i, i < n → Fits (T i)) (hn : n ≤ 9223372036854775807) (hid : id.size ≤ 9223372036854775807) (hout : k < 0 ∨ (n : Int) < k) :
    Calls Try.prog 4 #[.slice la n lcp, .string id, .int .i64 k] w fun e w' => e = .returned (.bool true) ∧ Below w.heap.size w w' := by
  have HF : Hid (∀ i, i < n → Fits (T i)) := hf
  clear hf
  go_enter Try.func4, Try.ntmps4
  go_wp2_with fail
  refine (bytesS_any Any n T _ id k w hl HF.out hn hid).mono ?_
  rintro e w1 ⟨b, rfl, hb1, hgood⟩
  cases b
  · go_wp2_with fail
    go_ret
    exact ⟨rfl, hb1⟩
  obtain ⟨⟨hn1, _⟩, hids⟩ := hgood rfl
  clear hgood
  go_wp2_with fail
  refine (size_any Any _ n T _ w1 (by omega) (by omega) (hl.later hb1) HF.out hn).mono ?_
  rintro e w2 ⟨r, rfl, r1, r2, hb2⟩
  have hB2 := hb1.trans (hb2.mono hb1.size)
  by_cases hr : 1048576 < r
  · go_wp2_with fail
    go_ret
    exact ⟨rfl, hB2⟩
  by_cases hk : k < 0
  · go_wp2_with fail
    go_ret
    exact ⟨rfl, hB2⟩
  · have hk2 : (n : Int) < k := by omega
    go_wp2_with fail
    go_ret
    exact ⟨rfl, hB2⟩
end Go.Proofs.Qxb6623445a
