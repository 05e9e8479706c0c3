/- The walk of zzHeader. -/
import Derived.Test.Qxb6623407aRead
namespace Go.Proofs.Qxb6623407a
open Go.RowKit

def encZ : Option (Nat × Option Nat) → Value
  | none => .tuple #[.int .i64 0, .int .i64 0, .bool false, .bool false]
  | some (h, none) => .tuple #[.int .i64 h, .int .i64 0, .bool true, .bool true]
  | some (h, some L) => .tuple #[.int .i64 h, .int .i64 L, .bool false, .bool true]

theorem results_tmp4 {fn : Func} {t u v x : Tmp} (h : fn.results = #[.tmp t, .tmp u, .tmp v, .tmp x]) (tmps : Array Value) (P : Program) (w : World) :
    (results fn tmps).run P w = .ok (.tuple #[tmps.getD t undef, tmps.getD u undef, tmps.getD v undef, tmps.getD x undef]) w := by
  simp [results, h]

theorem val_zero (z : Nat → Nat) (a : Nat) : ∀ j, (∀ i, i < j → z (a + i) = 0) → val z a j = 0 := by
  intro j
  induction j with
  | zero => intro _; rfl
  | succ j ih => intro h; rw [val, ih (fun i hi => h i (by omega)), h j (by omega)]

theorem val_big (z : Nat → Nat) (a j k : Nat) (h : z (a + j) ≠ 0) (hk : j + 4 ≤ k) : 16777216 ≤ val z a k := by
  have h1 : 1 ≤ val z a (j + 1) := by rw [val]; omega
  have h2 : 256 ≤ val z a (j + 2) := by rw [val]; omega
  have h3 : 65536 ≤ val z a (j + 3) := by rw [val]; omega
  have h4 : 16777216 ≤ val z a (j + 4) := by rw [val]; omega
  exact Nat.le_trans h4 (val_mono z a _ _ hk)

theorem val_small (z : Nat → Nat) (a j k : Nat) (h0 : ∀ i, i < j → z (a + i) = 0) (hb : ∀ i, i < k → z (a + i) < 256) (hk : k ≤ j + 3) (hj : j ≤ k) : ∀ q, j ≤ q → q ≤ k → val z a q < 16777216 := by
  intro q hq1 hq2
  have e0 := val_zero z a j h0
  rcases (show q = j ∨ q = j + 1 ∨ q = j + 2 ∨ q = j + 3 by omega) with e | e | e | e
  · rw [e, e0]; omega
  · have b1 := hb j (by omega)
    rw [e, val, e0]; omega
  · have b1 := hb j (by omega)
    have b2 := hb (j + 1) (by omega)
    rw [e, val, val, e0]; omega
  · have b1 := hb j (by omega)
    have b2 := hb (j + 1) (by omega)
    have b3 := hb (j + 2) (by omega)
    rw [e, val, val, val, e0]; omega

set_option maxHeartbeats 400000 in
theorem zh_short (a : Option Addr) (n p cap : Nat) (w : World) (hp : p ≤ n) (_hn : n ≤ 1048576) (hm : n < p + 2) :
    Calls Try.prog 8 #[.slice a n cap, .int .i64 p] w fun e w' => e = .returned (encZ none) ∧ w' = w := by
  go_enter Try.func8, Try.ntmps8
  go_wp2
  try simp only [Exit.inBlock, Exit.then]
  refine bodyPost_ret (results_tmp4 rfl _ _ _) rfl ?_
  exact ⟨rfl, rfl⟩

set_option maxHeartbeats 400000 in
theorem zh_zero (g n p : Nat) (w : World) (hn : n ≤ 1048576) (hm : p + 2 ≤ n) (c0 : w.cell? ⟨g, p, none⟩ = some (.int .u8 0)) :
    Calls Try.prog 8 #[.slice (some ⟨g, 0, none⟩) n n, .int .i64 p] w fun e w' => e = .returned (encZ none) ∧ w' = w := by
  go_enter Try.func8, Try.ntmps8
  go_wp2
  try simp only [Exit.inBlock, Exit.then]
  refine bodyPost_ret (results_tmp4 rfl _ _ _) rfl ?_
  exact ⟨rfl, rfl⟩

set_option maxRecDepth 100000 in
set_option maxHeartbeats 1000000 in
theorem zh_long (g n p m : Nat) (z : Nat → Nat) (w : World) (hm : 2 ≤ m) (hn : n ≤ 1048576) (hav : (n : Int) - (p : Int) = (m : Int)) (hz : ∀ j, j < m → z j < 256)
    (hc : ∀ j, j < m → w.cell? ⟨g, p + j, none⟩ = some (.int .u8 (z j))) (h0 : z 0 ≠ 0) :
    Calls Try.prog 8 #[.slice (some ⟨g, 0, none⟩) n n, .int .i64 p] w fun e w' => e = .returned (encZ (hd z m)) ∧ w' = w := by
  have c0 := hc 0 (by omega)
  simp only [Nat.add_zero] at c0
  have b0 := hz 0 (by omega)
  have hmn : p + m = n := by omega
  have hmn1 : p + m ≤ n := by omega
  have hmn2 : n ≤ p + m := by omega
  clear hmn
  have h0' : ((z 0 : Int) == 0) = false := beq_eq_false_iff_ne.2 (by omega)
  have Hh : Hid (hd z m = (afterTag z m).bind fun t => if m ≤ t then none else lenPart z m t) := hd_bind z m hm h0
  go_enter Try.func8, Try.ntmps8
  go_upto_if 35 with fail
  go_cut [9] from 17 (fun v wc => ∃ T : Nat, v = .int .i64 T ∧ 1 ≤ T ∧ T ≤ m ∧ afterTag z m = some T ∧ wc = w)
  case first =>
    by_cases ht : z 0 % 32 = 31
    · have ht' : (((z 0 : Int) % 32) == 31) = true := beq_iff_eq.2 (by omega)
      have hA : Hid (afterTag z m = tagL z (m - 1) 1) := by unfold afterTag; rw [if_pos ht]; rfl
      clear ht
      go_wp2
      go_loop [9] (fun v => ∃ t : Nat, 1 ≤ t ∧ t ≤ m ∧ v = .int .i64 t ∧ tagL z (m - 1) 1 = tagL z (m - t) t) (fun v => m + 1 - (intOf v).toNat)
      case atStart => exact ⟨1, by omega, by omega, rfl, rfl⟩
      case round =>
        obtain ⟨t, t1, t2, rfl, htag⟩ := hrel
        have Htag : Hid (tagL z (m - 1) 1 = tagL z (m - t) t) := htag
        clear htag
        by_cases hlt : t < m
        · have ct := hc t hlt
          have bt := hz t hlt
          by_cases hs : z t < 128
          · have ha := and128_lo' (z t) hs
            have HT : Hid (afterTag z m = some (t + 1)) := by rw [hA.out, Htag.out]; exact tagL_hit z m t hlt hs
            clear hs
            go_wp2
            go_meet
            case rel => exact ⟨t + 1, by go_num, by omega, by omega, HT.out, rfl⟩
          · have ha := and128_hi' (z t) (by omega) bt
            have HT : Hid (tagL z (m - 1) 1 = tagL z (m - (t + 1)) (t + 1)) := by rw [Htag.out]; exact tagL_miss z m t hlt hs
            clear hs
            go_wp2
            go_round
            case rel => exact ⟨t + 1, by omega, by omega, by go_num, HT.out⟩
            case measure => simp [intOf]; omega
        · have HT : Hid (afterTag z m = none) := by rw [hA.out, Htag.out, show m - t = 0 by omega]; rfl
          have HE : Hid (hd z m = none) := by rw [Hh.out, HT.out]; rfl
          go_wp2
          try simp only [Exit.inBlock, Exit.then]
          refine bodyPost_ret (results_tmp4 rfl _ _ _) rfl ?_
          exact ⟨ret_eq (by rw [HE.out]; rfl), rfl⟩
    · have ht' : (((z 0 : Int) % 32) == 31) = false := beq_eq_false_iff_ne.2 (by omega)
      have hA : Hid (afterTag z m = some 1) := by unfold afterTag; rw [if_neg ht]; rfl
      clear ht
      go_wp2
      go_meet
      case rel => exact ⟨1, rfl, by omega, by omega, hA.out, rfl⟩
  case rest =>
    obtain ⟨T, rfl, T1, T2, hT, rfl⟩ := hcut
    by_cases hTm : m ≤ T
    · have HE : Hid (hd z m = none) := by rw [Hh.out, hT, Option.bind_some, if_pos hTm]; rfl
      clear hT
      go_wp2
      try simp only [Exit.inBlock, Exit.then]
      refine bodyPost_ret (results_tmp4 rfl _ _ _) rfl ?_
      exact ⟨ret_eq (by rw [HE.out]; rfl), rfl⟩
    have HT : Hid (hd z m = lenPart z m T) := by rw [Hh.out, hT, Option.bind_some, if_neg (by omega)]; rfl
    clear hT
    have cT := hc T (by omega)
    have bT := hz T (by omega)
    by_cases hx : z T < 128
    · by_cases hy : m - (T + 1) < z T
      · have HE : Hid (hd z m = none) := by rw [HT.out]; unfold lenPart; rw [if_pos hx, if_pos hy]; rfl
        go_wp2
        try simp only [Exit.inBlock, Exit.then]
        refine bodyPost_ret (results_tmp4 rfl _ _ _) rfl ?_
        exact ⟨ret_eq (by rw [HE.out]; rfl), rfl⟩
      · have HE : Hid (hd z m = some (T + 1, some (z T))) := by rw [HT.out]; unfold lenPart; rw [if_pos hx, if_neg hy]; rfl
        go_wp2
        try simp only [Exit.inBlock, Exit.then]
        refine bodyPost_ret (results_tmp4 rfl _ _ _) rfl ?_
        exact ⟨ret_eq (by rw [HE.out]; rfl), rfl⟩
    · by_cases h128 : z T = 128
      · have HE : Hid (hd z m = some (T + 1, none)) := by rw [HT.out]; unfold lenPart; rw [if_neg hx, if_pos h128]; rfl
        have e1 : ((z T : Int) == 128) = true := beq_iff_eq.2 (by omega)
        clear h128
        go_wp2
        try simp only [Exit.inBlock, Exit.then]
        refine bodyPost_ret (results_tmp4 rfl _ _ _) rfl ?_
        exact ⟨ret_eq (by rw [HE.out]; rfl), rfl⟩
      · have e1 : ((z T : Int) == 128) = false := beq_eq_false_iff_ne.2 (by omega)
        by_cases h255 : z T = 255
        · have HE : Hid (hd z m = none) := by rw [HT.out]; unfold lenPart; rw [if_neg hx, if_neg h128, if_pos h255]; rfl
          have e2 : ((z T : Int) == 255) = true := beq_iff_eq.2 (by omega)
          clear h255 h128
          go_wp2
          try simp only [Exit.inBlock, Exit.then]
          refine bodyPost_ret (results_tmp4 rfl _ _ _) rfl ?_
          exact ⟨ret_eq (by rw [HE.out]; rfl), rfl⟩
        · have e2 : ((z T : Int) == 255) = false := beq_eq_false_iff_ne.2 (by omega)
          obtain ⟨k, hk⟩ : ∃ k, z T - 128 = k := ⟨_, rfl⟩
          have hk1 : 1 ≤ k := by omega
          have hk2 : k ≤ 126 := by omega
          have e3 : bits BinOp.and IntKind.u8 (z T : Int) 127 = (k : Int) := and127 _ _ hk (by omega) bT
          have HT2 : Hid (hd z m = if m - (T + 1) < k then none else if m - (T + 1 + k) < val z (T + 1) k then none else some (T + 1 + k, some (val z (T + 1) k))) := by
            rw [HT.out]; unfold lenPart; rw [if_neg hx, if_neg h128, if_neg h255, hk]; rfl
          clear hk h128 h255
          by_cases hlk : m - (T + 1) < k
          · have HE : Hid (hd z m = none) := by rw [HT2.out, if_pos hlk]; rfl
            go_wp2
            try simp only [Exit.inBlock, Exit.then]
            refine bodyPost_ret (results_tmp4 rfl _ _ _) rfl ?_
            exact ⟨ret_eq (by rw [HE.out]; rfl), rfl⟩
          · go_wp2
            go_loop [14] (fun v => ∃ j : Nat, j ≤ k ∧ v = .int .i64 j ∧ Hid (∀ i, i < j → z (T + 1 + i) = 0)) (fun v => k - (intOf v).toNat)
            case atStart => exact ⟨0, by omega, rfl, fun i hi => absurd hi (by omega)⟩
            case round =>
              obtain ⟨j, hj, rfl, H0⟩ := hrel
              by_cases hgo : j < k ∧ z (T + 1 + j) = 0
              · obtain ⟨hjk, hzj⟩ := hgo
                have cj := hc (T + 1 + j) (by omega)
                rw [hzj, ← Nat.add_assoc] at cj
                have H0' : Hid (∀ i, i < j + 1 → z (T + 1 + i) = 0) := fun i hi => by
                  by_cases e : i = j
                  · rw [e]; exact hzj
                  · exact H0.out i (by omega)
                clear hzj
                go_wp2
                go_round
                case rel => exact ⟨j + 1, by omega, by go_num, H0'⟩
                case measure => simp [intOf]; omega
              · by_cases hjk : j < k
                · have hzj : z (T + 1 + j) ≠ 0 := fun e => hgo ⟨hjk, e⟩
                  have cj := hc (T + 1 + j) (by omega)
                  rw [← Nat.add_assoc] at cj
                  have ej : ((z (T + 1 + j) : Int) == 0) = false := beq_eq_false_iff_ne.2 (by omega)
                  clear hgo
                  by_cases hbig : 3 < k - j
                  · have HE : Hid (hd z m = none) := by
                      have := val_big z (T + 1) j k hzj (by omega)
                      rw [HT2.out, if_neg hlk, if_pos (by omega)]; rfl
                    clear hzj
                    go_wp2
                    try simp only [Exit.inBlock, Exit.then]
                    refine bodyPost_ret (results_tmp4 rfl _ _ _) rfl ?_
                    exact ⟨ret_eq (by rw [HE.out]; rfl), rfl⟩
                  · clear hzj
                    have Hvb : Hid (∀ q, j ≤ q → q ≤ k → val z (T + 1) q < 16777216) := val_small z (T + 1) j k H0.out (fun i hi => hz (T + 1 + i) (by omega)) (by omega) hj
                    have Hv0 : Hid (val z (T + 1) j = 0) := val_zero z (T + 1) j H0.out
                    go_wp2
                    go_loop [15, 16] (fun v q => ∃ i : Nat, j ≤ i ∧ i ≤ k ∧ q = .int .i64 i ∧ v = .int .i64 (val z (T + 1) i)) (fun _ q => k - (intOf q).toNat)
                    case atStart => exact ⟨j, by omega, by omega, rfl, by rw [Hv0.out]; rfl⟩
                    case round =>
                      obtain ⟨i, i1, i2, rfl, rfl⟩ := hrel
                      by_cases hik : i < k
                      · have ci := hc (T + 1 + i) (by omega)
                        rw [← Nat.add_assoc] at ci
                        have bi := hz (T + 1 + i) (by omega)
                        have hsucc : val z (T + 1) (i + 1) = val z (T + 1) i * 256 + z (T + 1 + i) := rfl
                        have hlast := Hvb.out (i + 1) (by omega) (by omega)
                        generalize hV : val z (T + 1) i = V at *
                        generalize hB : z (T + 1 + i) = B at *
                        generalize hN : val z (T + 1) (i + 1) = N at *
                        have HN : Hid (val z (T + 1) (i + 1) = N) := hN
                        have HS : Hid (N = V * 256 + B) := hsucc
                        have hs2 : V * 256 + B ≤ N := by omega
                        clear hV hB hN hsucc
                        go_wp2
                        go_round
                        case rel => exact ⟨i + 1, by omega, by omega, by go_num, by rw [HN.out, HS.out]; go_num⟩
                        case measure => simp [intOf]; omega
                      · have hik' : i = k := by omega
                        subst hik'
                        have hlast := Hvb.out i (by omega) (by omega)
                        generalize hV : val z (T + 1) i = V at *
                        have HV : Hid (val z (T + 1) i = V) := hV
                        clear hV
                        by_cases hfit : m - (T + 1 + i) < V
                        · have HE : Hid (hd z m = none) := by rw [HT2.out, if_neg hlk, if_pos hfit]; rfl
                          go_wp2
                          try simp only [Exit.inBlock, Exit.then]
                          refine bodyPost_ret (results_tmp4 rfl _ _ _) rfl ?_
                          exact ⟨ret_eq (by rw [HE.out]; rfl), rfl⟩
                        · have HE : Hid (hd z m = some (T + 1 + i, some V)) := by rw [HT2.out, if_neg hlk, if_neg hfit]; rfl
                          go_wp2
                          try simp only [Exit.inBlock, Exit.then]
                          refine bodyPost_ret (results_tmp4 rfl _ _ _) rfl ?_
                          exact ⟨ret_eq (by rw [HE.out]; rfl), rfl⟩
                · have hbig : ¬ 3 < k - j := by omega
                  clear hgo
                  have Hvb : Hid (∀ q, j ≤ q → q ≤ k → val z (T + 1) q < 16777216) := val_small z (T + 1) j k H0.out (fun i hi => hz (T + 1 + i) (by omega)) (by omega) hj
                  have Hv0 : Hid (val z (T + 1) j = 0) := val_zero z (T + 1) j H0.out
                  go_wp2
                  go_loop [15, 16] (fun v q => ∃ i : Nat, j ≤ i ∧ i ≤ k ∧ q = .int .i64 i ∧ v = .int .i64 (val z (T + 1) i)) (fun _ q => k - (intOf q).toNat)
                  case atStart => exact ⟨j, by omega, by omega, rfl, by rw [Hv0.out]; rfl⟩
                  case round =>
                    obtain ⟨i, i1, i2, rfl, rfl⟩ := hrel
                    by_cases hik : i < k
                    · have ci := hc (T + 1 + i) (by omega)
                      rw [← Nat.add_assoc] at ci
                      have bi := hz (T + 1 + i) (by omega)
                      have hsucc : val z (T + 1) (i + 1) = val z (T + 1) i * 256 + z (T + 1 + i) := rfl
                      have hlast := Hvb.out (i + 1) (by omega) (by omega)
                      generalize hV : val z (T + 1) i = V at *
                      generalize hB : z (T + 1 + i) = B at *
                      generalize hN : val z (T + 1) (i + 1) = N at *
                      have HN : Hid (val z (T + 1) (i + 1) = N) := hN
                      have HS : Hid (N = V * 256 + B) := hsucc
                      have hs2 : V * 256 + B ≤ N := by omega
                      clear hV hB hN hsucc
                      go_wp2
                      go_round
                      case rel => exact ⟨i + 1, by omega, by omega, by go_num, by rw [HN.out, HS.out]; go_num⟩
                      case measure => simp [intOf]; omega
                    · have hik' : i = k := by omega
                      subst hik'
                      have hlast := Hvb.out i (by omega) (by omega)
                      generalize hV : val z (T + 1) i = V at *
                      have HV : Hid (val z (T + 1) i = V) := hV
                      clear hV
                      by_cases hfit : m - (T + 1 + i) < V
                      · have HE : Hid (hd z m = none) := by rw [HT2.out, if_neg hlk, if_pos hfit]; rfl
                        go_wp2
                        try simp only [Exit.inBlock, Exit.then]
                        refine bodyPost_ret (results_tmp4 rfl _ _ _) rfl ?_
                        exact ⟨ret_eq (by rw [HE.out]; rfl), rfl⟩
                      · have HE : Hid (hd z m = some (T + 1 + i, some V)) := by rw [HT2.out, if_neg hlk, if_neg hfit]; rfl
                        go_wp2
                        try simp only [Exit.inBlock, Exit.then]
                        refine bodyPost_ret (results_tmp4 rfl _ _ _) rfl ?_
                        exact ⟨ret_eq (by rw [HE.out]; rfl), rfl⟩
end Go.Proofs.Qxb6623407a
