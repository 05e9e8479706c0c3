/- The walk of the other zzBytes: a list of top-ups and one more. -/
import Derived.Test.Qxb6623445aBytesS
namespace Go.Proofs.Qxb6623445a
open Go.RowKit

def SmallT (n : Nat) (T : Nat → TD) (t : TD) : Prop := Small n T ∧ t.n ≤ 1048576

set_option maxRecDepth 100000 in
set_option maxHeartbeats 4000000 in
theorem bytesI_any (ok : Nat → Prop) (n : Nat) (T : Nat → TD) (t : TD) (l st : Value) (k : Int) (w : World) (hl : ListV ok w l n T) (ht : SlV ok w st t) (hf : ∀ i, i < n → Fits (T i)) (hft : Fits t) (hn : n ≤ 9223372036854775807) :
    Calls Try.prog 5 #[l, .agg #[.string t.id, .int .i64 t.ca, .int .i64 t.cv, st], .int .i64 k] w fun e w' => BytesPost (SmallT n T t) w e w' := by
  obtain ⟨la, lcp, rfl, hp⟩ := hl.view
  have HP : Hid (0 < n → ∃ b off, la = some ⟨b, off, none⟩ ∧ ok b ∧ RowV ok w b off n T) := hp
  have HF : Hid (∀ i, i < n → Fits (T i)) := hf
  obtain ⟨ta, tcp, rfl, hpt⟩ := ht.view
  have HPT : Hid (0 < t.n → ∃ b off, ta = some ⟨b, off, none⟩ ∧ ok b ∧ PrV ok w b off t.n t.P) := hpt
  obtain ⟨ft1, ft2, ft3⟩ := hft
  have HST : Hid (∀ j, j < t.n → (t.P j).cur.size ≤ 9223372036854775807 ∧ ∀ s, (t.P j).sp = some s → s.size ≤ 9223372036854775807) := ft3
  clear hp hf hl hpt ht ft3
  by_cases hn1 : n ≤ 1048576
  · go_enter Try.func5, Try.ntmps5
    go_wp2_with fail
    go_loop [7, 8] (fun v7 v8 => ∃ (x : Nat) (i : Nat), x ≤ 1048576 ∧ i ≤ n ∧ v7 = .int .i64 x ∧ v8 = .int .i64 i ∧ Hid (∀ q, q < i → (T q).n ≤ 1048576)) (fun _ v8 => n - (intOf v8).toNat)
    case atStart => exact ⟨n, 0, hn1, by omega, rfl, rfl, fun q hq => absurd hq (by omega)⟩
    case round =>
      obtain ⟨x, i, hx, hi, rfl, rfl, HN⟩ := hrel
      by_cases hlt : i < n
      · obtain ⟨b, off, rfl, hok, hrow⟩ := HP.out (by omega)
        obtain ⟨c0, c1, c2, sl, c3, hsl⟩ := hrow i hlt
        have hblt := block_lt_of_cell c0
        obtain ⟨f1, f2, f3⟩ := HF.out i hlt
        have HS : Hid (∀ j, j < (T i).n → ((T i).P j).cur.size ≤ 9223372036854775807 ∧ ∀ s, ((T i).P j).sp = some s → s.size ≤ 9223372036854775807) := f3
        obtain ⟨oa, cp, rfl, hpr0⟩ := hsl.view
        have HPR : Hid (0 < (T i).n → ∃ b off, oa = some ⟨b, off, none⟩ ∧ ok b ∧ PrV ok w b off (T i).n (T i).P) := hpr0
        clear hrow hpr0 f3 hsl
        by_cases g1 : (T i).id.size ≤ 1048576
        · by_cases g2 : x + (T i).id.size ≤ 1048576
          · by_cases g3 : (T i).n ≤ 1048576
            · by_cases g4 : x + (T i).id.size + (T i).n ≤ 1048576
              · go_wp2_with fail
                go_loop [7, 9] (fun vx vj => ∃ (x : Nat) (j : Nat), x ≤ 1048576 ∧ j ≤ (T i).n ∧ vx = .int .i64 x ∧ vj = .int .i64 j) (fun _ vj => (T i).n - (intOf vj).toNat)
                case atStart => exact ⟨x + (T i).id.size + (T i).n, 0, by omega, by omega, by go_num, rfl⟩
                case round =>
                  obtain ⟨y, j, hy, hj, rfl, rfl⟩ := hrel
                  by_cases hlt : j < (T i).n
                  · obtain ⟨pb, poff, rfl, hpok, hpr⟩ := HPR.out (by omega)
                    obtain ⟨p0, p1, pv, p2, hpv⟩ := hpr j hlt
                    obtain ⟨s1, s2⟩ := HS.out j hlt
                    have hpblt := block_lt_of_cell p0
                    clear hpr
                    by_cases g1 : ((T i).P j).cur.size ≤ 1048576
                    · by_cases g2 : y + ((T i).P j).cur.size ≤ 1048576
                      · cases hsp : ((T i).P j).sp with
                        | none =>
                          rw [hsp] at hpv
                          have hpv' : pv = .pointer none := hpv
                          subst hpv'
                          clear hsp s2 hpv
                          go_wp2_with fail
                          go_round
                          case rel => exact ⟨y + ((T i).P j).cur.size, j + 1, by omega, by omega, by go_num, by go_num⟩
                          case measure => simp [intOf]; omega
                        | some s =>
                          rw [hsp] at hpv
                          obtain ⟨b', o', rfl, hok', p3⟩ := hpv
                          have s3 := s2 s hsp
                          have hblt' := block_lt_of_cell p3
                          clear hsp s2
                          by_cases g3 : s.size ≤ 1048576
                          · by_cases g4 : y + ((T i).P j).cur.size + s.size ≤ 1048576
                            · go_wp2_with fail
                              go_round
                              case rel => exact ⟨y + ((T i).P j).cur.size + s.size, j + 1, by omega, by omega, by go_num, by go_num⟩
                              case measure => simp [intOf]; omega
                            · go_wp2_with fail
                              go_ret
                              exact bytes_false (below_alloc _ _)
                          · go_wp2_with fail
                            go_ret
                            exact bytes_false (below_alloc _ _)
                      · go_wp2_with fail
                        go_ret
                        exact bytes_false (below_alloc _ _)
                    · go_wp2_with fail
                      go_ret
                      exact bytes_false (below_alloc _ _)
                  · go_wp2_with fail
                    go_round
                    case rel =>
                      refine ⟨y, i + 1, hy, by omega, rfl, by go_num, fun q hq => ?_⟩
                      by_cases e : q = i
                      · rw [e]; exact g3
                      · exact HN.out q (by omega)
                    case measure => simp [intOf]; omega
              · go_wp2_with fail
                go_ret
                exact bytes_false (below_alloc _ _)
            · go_wp2_with fail
              go_ret
              exact bytes_false (below_alloc _ _)
          · go_wp2_with fail
            go_ret
            exact bytes_false (below_alloc _ _)
        · go_wp2_with fail
          go_ret
          exact bytes_false (below_alloc _ _)
      · have hin : i = n := by omega
        subst hin
        by_cases g1 : t.id.size ≤ 1048576
        · by_cases g2 : x + t.id.size ≤ 1048576
          · by_cases g3 : t.n ≤ 1048576
            · by_cases g4 : x + t.id.size + t.n ≤ 1048576
              · go_wp2_with fail
                go_loop [7, 10] (fun vx vj => ∃ (x : Nat) (j : Nat), x ≤ 1048576 ∧ j ≤ t.n ∧ vx = .int .i64 x ∧ vj = .int .i64 j) (fun _ vj => t.n - (intOf vj).toNat)
                case atStart => exact ⟨x + t.id.size + t.n, 0, by omega, by omega, by go_num, rfl⟩
                case round =>
                  obtain ⟨y, j, hy, hj, rfl, rfl⟩ := hrel
                  by_cases hlt : j < t.n
                  · obtain ⟨pb, poff, rfl, hpok, hpr⟩ := HPT.out (by omega)
                    obtain ⟨p0, p1, pv, p2, hpv⟩ := hpr j hlt
                    obtain ⟨s1, s2⟩ := HST.out j hlt
                    have hpblt := block_lt_of_cell p0
                    clear hpr
                    by_cases g1 : (t.P j).cur.size ≤ 1048576
                    · by_cases g2 : y + (t.P j).cur.size ≤ 1048576
                      · cases hsp : (t.P j).sp with
                        | none =>
                          rw [hsp] at hpv
                          have hpv' : pv = .pointer none := hpv
                          subst hpv'
                          clear hsp s2 hpv
                          go_wp2_with fail
                          go_round
                          case rel => exact ⟨y + (t.P j).cur.size, j + 1, by omega, by omega, by go_num, by go_num⟩
                          case measure => simp [intOf]; omega
                        | some s =>
                          rw [hsp] at hpv
                          obtain ⟨b', o', rfl, hok', p3⟩ := hpv
                          have s3 := s2 s hsp
                          have hblt' := block_lt_of_cell p3
                          clear hsp s2
                          by_cases g3 : s.size ≤ 1048576
                          · by_cases g4 : y + (t.P j).cur.size + s.size ≤ 1048576
                            · go_wp2_with fail
                              go_round
                              case rel => exact ⟨y + (t.P j).cur.size + s.size, j + 1, by omega, by omega, by go_num, by go_num⟩
                              case measure => simp [intOf]; omega
                            · go_wp2_with fail
                              go_ret
                              exact bytes_false (below_alloc _ _)
                          · go_wp2_with fail
                            go_ret
                            exact bytes_false (below_alloc _ _)
                      · go_wp2_with fail
                        go_ret
                        exact bytes_false (below_alloc _ _)
                    · go_wp2_with fail
                      go_ret
                      exact bytes_false (below_alloc _ _)
                  · go_wp2_with fail
                    go_ret
                    exact ⟨true, rfl, (below_alloc _ _), fun _ => ⟨⟨hn1, HN.out⟩, g3⟩⟩
              · go_wp2_with fail
                go_ret
                exact bytes_false (below_alloc _ _)
            · go_wp2_with fail
              go_ret
              exact bytes_false (below_alloc _ _)
          · go_wp2_with fail
            go_ret
            exact bytes_false (below_alloc _ _)
        · go_wp2_with fail
          go_ret
          exact bytes_false (below_alloc _ _)
  · go_enter Try.func5, Try.ntmps5
    go_wp2_with fail
    go_ret
    exact bytes_false (below_alloc _ _)
end Go.Proofs.Qxb6623445a
