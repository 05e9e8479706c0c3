/- The walk of zzBytes over a list of top-ups: it answers some Boolean; where it answers true every length is small. -/
import Derived.Test.Qxb6623445aSize
namespace Go.Proofs.Qxb6623445a
open Go.RowKit

/-- All lists are small. -/
def Small (n : Nat) (T : Nat → TD) : Prop := n ≤ 1048576 ∧ ∀ i, i < n → (T i).n ≤ 1048576

def SmallS (n : Nat) (T : Nat → TD) (id : ByteArray) : Prop := Small n T ∧ id.size ≤ 1048576

def BytesPost (good : Prop) (w : World) (e : Ending) (w' : World) : Prop := ∃ b : Bool, e = .returned (.bool b) ∧ Below w.heap.size w w' ∧ (b = true → good)

theorem bytes_false {good : Prop} {w w' : World} (h : Below w.heap.size w w') : BytesPost good w (.returned (.bool false)) w' := ⟨false, rfl, h, fun e => by cases e⟩

theorem SlV.view {ok : Nat → Prop} {w : World} {v : Value} {t : TD} (h : SlV ok w v t) : ∃ oa cp, v = .slice oa t.n cp ∧ (0 < t.n → ∃ b off, oa = some ⟨b, off, none⟩ ∧ ok b ∧ PrV ok w b off t.n t.P) := by
  rcases h with ⟨h, _, h0⟩ | ⟨_, a, cap, h, hp⟩
  · exact ⟨none, 0, by rw [h0]; exact h, fun hn => absurd hn (by omega)⟩
  · refine ⟨some a, cap, h, fun hn => ?_⟩
    obtain ⟨b, off, e, r⟩ := hp hn
    exact ⟨b, off, by rw [e], r⟩

theorem ListV.view {ok : Nat → Prop} {w : World} {v : Value} {n : Nat} {T : Nat → TD} (h : ListV ok w v n T) : ∃ oa cp, v = .slice oa n cp ∧ (0 < n → ∃ b off, oa = some ⟨b, off, none⟩ ∧ ok b ∧ RowV ok w b off n T) := by
  rcases h with ⟨h, h0⟩ | ⟨a, cap, h, _, hp⟩
  · exact ⟨none, 0, by rw [h0]; exact h, fun hn => absurd hn (by omega)⟩
  · refine ⟨some a, cap, h, fun hn => ?_⟩
    obtain ⟨b, off, e, r⟩ := hp hn
    exact ⟨b, off, by rw [e], r⟩

set_option maxRecDepth 100000 in
set_option maxHeartbeats 4000000 in
theorem bytesS_any (ok : Nat → Prop) (n : Nat) (T : Nat → TD) (l : Value) (id : ByteArray) (k : Int) (w : World) (hl : ListV ok w l n T) (hf : ∀ i, i < n → Fits (T i)) (hn : n ≤ 9223372036854775807) (hid : id.size ≤ 9223372036854775807) :
    Calls Try.prog 12 #[l, .string id, .int .i64 k] w fun e w' => BytesPost (SmallS n T id) w e w' := by
  obtain ⟨la, lcp, rfl, hp⟩ := hl.view
  have HP : Hid (0 < n → ∃ b off, la = some ⟨b, off, none⟩ ∧ ok b ∧ RowV ok w b off n T) := hp
  have HF : Hid (∀ i, i < n → Fits (T i)) := hf
  clear hp hf hl
  by_cases hn1 : n ≤ 1048576
  · go_enter Try.func12, Try.ntmps12
    go_wp2_with fail
    go_loop [7, 8] (fun v7 v8 => ∃ (x : Nat) (i : Nat), x ≤ 1048576 ∧ i ≤ n ∧ v7 = .int .i64 x ∧ v8 = .int .i64 i ∧ Hid (∀ q, q < i → (T q).n ≤ 1048576)) (fun _ v8 => n - (intOf v8).toNat)
    case atStart => exact ⟨n, 0, hn1, by omega, rfl, rfl, fun q hq => absurd hq (by omega)⟩
    case round =>
      obtain ⟨x, i, hx, hi, rfl, rfl, HN⟩ := hrel
      by_cases hlt : i < n
      · obtain ⟨b, off, rfl, hok, hrow⟩ := HP.out (by omega)
        obtain ⟨c0, c1, c2, sl, c3, hsl⟩ := hrow i hlt
        have hblt := block_lt_of_cell c0
        obtain ⟨f1, f2, f3⟩ := HF.out i hlt
        have HS : Hid (∀ j, j < (T i).n → ((T i).P j).cur.size ≤ 9223372036854775807 ∧ ∀ s, ((T i).P j).sp = some s → s.size ≤ 9223372036854775807) := f3
        obtain ⟨oa, cp, rfl, hpr0⟩ := hsl.view
        have HPR : Hid (0 < (T i).n → ∃ b off, oa = some ⟨b, off, none⟩ ∧ ok b ∧ PrV ok w b off (T i).n (T i).P) := hpr0
        clear hrow hpr0 f3 hsl
        by_cases g1 : (T i).id.size ≤ 1048576
        · by_cases g2 : x + (T i).id.size ≤ 1048576
          · by_cases g3 : (T i).n ≤ 1048576
            · by_cases g4 : x + (T i).id.size + (T i).n ≤ 1048576
              · go_wp2_with fail
                go_loop [7, 9] (fun vx vj => ∃ (x : Nat) (j : Nat), x ≤ 1048576 ∧ j ≤ (T i).n ∧ vx = .int .i64 x ∧ vj = .int .i64 j) (fun _ vj => (T i).n - (intOf vj).toNat)
                case atStart => exact ⟨x + (T i).id.size + (T i).n, 0, by omega, by omega, by go_num, rfl⟩
                case round =>
                  obtain ⟨y, j, hy, hj, rfl, rfl⟩ := hrel
                  by_cases hlt : j < (T i).n
                  · obtain ⟨pb, poff, rfl, hpok, hpr⟩ := HPR.out (by omega)
                    obtain ⟨p0, p1, pv, p2, hpv⟩ := hpr j hlt
                    obtain ⟨s1, s2⟩ := HS.out j hlt
                    have hpblt := block_lt_of_cell p0
                    clear hpr
                    by_cases g1 : ((T i).P j).cur.size ≤ 1048576
                    · by_cases g2 : y + ((T i).P j).cur.size ≤ 1048576
                      · cases hsp : ((T i).P j).sp with
                        | none =>
                          rw [hsp] at hpv
                          have hpv' : pv = .pointer none := hpv
                          subst hpv'
                          clear hsp s2 hpv
                          go_wp2_with fail
                          go_round
                          case rel => exact ⟨y + ((T i).P j).cur.size, j + 1, by omega, by omega, by go_num, by go_num⟩
                          case measure => simp [intOf]; omega
                        | some s =>
                          rw [hsp] at hpv
                          obtain ⟨b', o', rfl, hok', p3⟩ := hpv
                          have s3 := s2 s hsp
                          have hblt' := block_lt_of_cell p3
                          clear hsp s2
                          by_cases g3 : s.size ≤ 1048576
                          · by_cases g4 : y + ((T i).P j).cur.size + s.size ≤ 1048576
                            · go_wp2_with fail
                              go_round
                              case rel => exact ⟨y + ((T i).P j).cur.size + s.size, j + 1, by omega, by omega, by go_num, by go_num⟩
                              case measure => simp [intOf]; omega
                            · go_wp2_with fail
                              go_ret
                              exact bytes_false (Below.refl _ _)
                          · go_wp2_with fail
                            go_ret
                            exact bytes_false (Below.refl _ _)
                      · go_wp2_with fail
                        go_ret
                        exact bytes_false (Below.refl _ _)
                    · go_wp2_with fail
                      go_ret
                      exact bytes_false (Below.refl _ _)
                  · go_wp2_with fail
                    go_round
                    case rel =>
                      refine ⟨y, i + 1, hy, by omega, rfl, by go_num, fun q hq => ?_⟩
                      by_cases e : q = i
                      · rw [e]; exact g3
                      · exact HN.out q (by omega)
                    case measure => simp [intOf]; omega
              · go_wp2_with fail
                go_ret
                exact bytes_false (Below.refl _ _)
            · go_wp2_with fail
              go_ret
              exact bytes_false (Below.refl _ _)
          · go_wp2_with fail
            go_ret
            exact bytes_false (Below.refl _ _)
        · go_wp2_with fail
          go_ret
          exact bytes_false (Below.refl _ _)
      · have hin : i = n := by omega
        subst hin
        by_cases g1 : id.size ≤ 1048576
        · by_cases g2 : x + id.size ≤ 1048576
          · go_wp2_with fail
            go_ret
            exact ⟨true, rfl, (Below.refl _ _), fun _ => ⟨⟨hn1, HN.out⟩, g1⟩⟩
          · go_wp2_with fail
            go_ret
            exact bytes_false (Below.refl _ _)
        · go_wp2_with fail
          go_ret
          exact bytes_false (Below.refl _ _)
  · go_enter Try.func12, Try.ntmps12
    go_wp2_with fail
    go_ret
    exact bytes_false (Below.refl _ _)
end Go.Proofs.Qxb6623445a
