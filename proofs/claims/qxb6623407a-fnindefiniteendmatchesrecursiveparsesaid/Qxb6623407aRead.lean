/- The walk of readHeader. -/
import Derived.Test.Qxb6623407aPlain
import Derived.Test.Qxb6623407aRows
import Derived.WalkKit
import Derived.WalkSpells
import Derived.WalkLawsBesides
import Derived.Deep.Cut
namespace Go.Proofs.Qxb6623407a
open Go.RowKit

def encR : Option (Nat × Option Nat) → Value
  | none => .tuple #[.int .i64 0, .int .i64 0, .bool false]
  | some (h, none) => .tuple #[.int .i64 h, .int .i64 (-1), .bool true]
  | some (h, some L) => .tuple #[.int .i64 h, .int .i64 L, .bool true]

theorem hd_bind (z : Nat → Nat) (m : Nat) (hm : 2 ≤ m) (h0 : z 0 ≠ 0) : hd z m = (afterTag z m).bind fun t => if m ≤ t then none else lenPart z m t := by
  unfold hd; rw [if_neg (by omega)]


theorem and128_lo0 : ∀ x : Fin 256, x.val < 128 → bits BinOp.and IntKind.u8 (x.val : Int) 128 = 0 := by decide +kernel
theorem and128_hi0 : ∀ x : Fin 256, 128 ≤ x.val → bits BinOp.and IntKind.u8 (x.val : Int) 128 = 128 := by decide +kernel
theorem and32_0 : ∀ x : Fin 256, bits BinOp.and IntKind.u8 (x.val : Int) 32 = if x.val / 32 % 2 = 0 then 0 else 32 := by decide +kernel
theorem and127_0 : ∀ x : Fin 256, bits BinOp.and IntKind.u8 (x.val : Int) 127 = ((x.val % 128 : Nat) : Int) := by decide +kernel
theorem and127 (x k : Nat) (h : x - 128 = k) (h1 : 128 ≤ x) (h2 : x < 256) : bits BinOp.and IntKind.u8 (x : Int) 127 = (k : Int) := by rw [and127_0 ⟨x, h2⟩]; simp only; omega
theorem and128_lo (x : Nat) (h : x < 128) : (bits BinOp.and IntKind.u8 (x : Int) 128 != 0) = false := by rw [and128_lo0 ⟨x, by omega⟩ h]; rfl
theorem and128_hi (x : Nat) (h : 128 ≤ x) (h2 : x < 256) : (bits BinOp.and IntKind.u8 (x : Int) 128 != 0) = true := by rw [and128_hi0 ⟨x, h2⟩ h]; rfl
theorem and128_lo' (x : Nat) (h : x < 128) : (bits BinOp.and IntKind.u8 (x : Int) 128 == 0) = true := by rw [and128_lo0 ⟨x, by omega⟩ h]; rfl
theorem and128_hi' (x : Nat) (h : 128 ≤ x) (h2 : x < 256) : (bits BinOp.and IntKind.u8 (x : Int) 128 == 0) = false := by rw [and128_hi0 ⟨x, h2⟩ h]; rfl
theorem and32_no (x : Nat) (h : x / 32 % 2 = 0) (h2 : x < 256) : (bits BinOp.and IntKind.u8 (x : Int) 32 == 0) = true := by rw [and32_0 ⟨x, h2⟩, if_pos h]; rfl
theorem and32_yes (x : Nat) (h : ¬ x / 32 % 2 = 0) (h2 : x < 256) : (bits BinOp.and IntKind.u8 (x : Int) 32 == 0) = false := by rw [and32_0 ⟨x, h2⟩, if_neg h]; rfl

theorem tagL_hit (z : Nat → Nat) (m t : Nat) (h : t < m) (h2 : z t < 128) : tagL z (m - t) t = some (t + 1) := by
  rw [show m - t = (m - t - 1) + 1 by omega, tagL, if_pos h2]
theorem tagL_miss (z : Nat → Nat) (m t : Nat) (h : t < m) (h2 : ¬ z t < 128) : tagL z (m - t) t = tagL z (m - (t + 1)) (t + 1) := by
  rw [show m - t = (m - (t + 1)) + 1 by omega, tagL, if_neg h2]

theorem or_byte (V B N : Nat) (hV : V ≤ 1048576) (hB : B < 256) (hN : V * 256 + B = N) : bits BinOp.or IntKind.i64 ((V : Int) * 256) (B : Int) = (N : Int) := by
  subst hN
  have e : V * 256 ||| B = V * 256 + B := by
    have := Nat.two_pow_add_eq_or_of_lt (i := 8) (b := B) (by omega) V
    rw [Nat.mul_comm V 256]
    exact this.symm
  show IntKind.i64.wrap ((BitVec.ofInt 64 ((V : Int) * 256) ||| BitVec.ofInt 64 (B : Int)).toNat : Int) = _
  rw [show (V : Int) * 256 = ((V * 256 : Nat) : Int) by omega, BitVec.toNat_or, BitVec.ofInt_natCast, BitVec.ofInt_natCast, BitVec.toNat_ofNat, BitVec.toNat_ofNat, Nat.mod_eq_of_lt (by omega), Nat.mod_eq_of_lt (by omega), e, IntKind.wrap_i64]
  omega

theorem val_mono (z : Nat → Nat) (a : Nat) : ∀ j k, j ≤ k → val z a j ≤ val z a k := by
  intro j k h
  induction k with
  | zero => rw [show j = 0 by omega]; exact Nat.le_refl _
  | succ k ih =>
    by_cases e : j = k + 1
    · rw [e]; exact Nat.le_refl _
    · have := ih (by omega)
      rw [val]
      omega
theorem ret_eq {a b : Value} (h : a = b) : Ending.returned a = .returned b := by rw [h]

set_option maxRecDepth 100000 in
set_option maxHeartbeats 400000 in
theorem rh_long (g off m : Nat) (z : Nat → Nat) (w : World) (hm : 2 ≤ m) (hm2 : m ≤ 1048576) (hz : ∀ j, j < m → z j < 256)
    (hc : ∀ j, j < m → w.cell? ⟨g, off + j, none⟩ = some (.int .u8 (z j))) (h0 : z 0 ≠ 0) :
    Calls Try.prog 9 #[.slice (some ⟨g, off, none⟩) m m] w fun e w' => e = .returned (encR (hd z m)) ∧ w' = w := by
  have c0 := hc 0 (by omega)
  simp only [Nat.add_zero] at c0
  have b0 := hz 0 (by omega)
  have h0' : ((z 0 : Int) == 0) = false := beq_eq_false_iff_ne.2 (by omega)
  have Hh : Hid (hd z m = (afterTag z m).bind fun t => if m ≤ t then none else lenPart z m t) := hd_bind z m hm h0
  go_enter Try.func9, Try.ntmps9
  go_upto_if 22 with fail
  go_cut [2, 3, 4] from 9 (fun v v3 v4 wc => v3 = .int .i64 0 ∧ v4 = .bool false ∧ ∃ T : Nat, v = .int .i64 T ∧ 1 ≤ T ∧ T < m ∧ afterTag z m = some T ∧ wc = w)
  case first =>
    by_cases ht : z 0 % 32 = 31
    · have ht' : (((z 0 : Int) % 32) == 31) = true := beq_iff_eq.2 (by omega)
      have hA : Hid (afterTag z m = tagL z (m - 1) 1) := by unfold afterTag; rw [if_pos ht]; rfl
      clear ht
      go_wp2
      go_loop [2] (fun v => ∃ t : Nat, 1 ≤ t ∧ t ≤ m ∧ v = .int .i64 t ∧ tagL z (m - 1) 1 = tagL z (m - t) t) (fun v => m + 1 - (intOf v).toNat)
      case atStart => exact ⟨1, by omega, by omega, rfl, rfl⟩
      case round =>
        obtain ⟨t, t1, t2, rfl, htag⟩ := hrel
        have Htag : Hid (tagL z (m - 1) 1 = tagL z (m - t) t) := htag
        clear htag
        by_cases hlt : t < m
        · have ct := hc t hlt
          have bt := hz t hlt
          by_cases hs : z t < 128
          · have ha := and128_lo (z t) hs
            have HT : Hid (afterTag z m = some (t + 1)) := by rw [hA.out, Htag.out]; exact tagL_hit z m t hlt hs
            clear hs
            by_cases he : m ≤ t + 1
            · have HE : Hid (hd z m = none) := by rw [Hh.out, HT.out, Option.bind_some, if_pos he]; rfl
              go_wp2
              go_ret3
              exact ⟨ret_eq (by rw [HE.out]; rfl), rfl⟩
            · go_wp2
              go_meet
              case rel => exact ⟨rfl, rfl, t + 1, by go_num, by omega, by omega, HT.out, rfl⟩
          · have ha := and128_hi (z t) (by omega) bt
            have HT : Hid (tagL z (m - 1) 1 = tagL z (m - (t + 1)) (t + 1)) := by rw [Htag.out]; exact tagL_miss z m t hlt hs
            clear hs
            go_wp2
            go_round
            case rel => exact ⟨t + 1, by omega, by omega, by go_num, HT.out⟩
            case measure => simp [intOf]; omega
        · have HT : Hid (afterTag z m = none) := by rw [hA.out, Htag.out, show m - t = 0 by omega]; rfl
          have HE : Hid (hd z m = none) := by rw [Hh.out, HT.out]; rfl
          go_wp2
          go_ret3
          exact ⟨ret_eq (by rw [HE.out]; rfl), rfl⟩
    · have ht' : (((z 0 : Int) % 32) == 31) = false := beq_eq_false_iff_ne.2 (by omega)
      have hA : Hid (afterTag z m = some 1) := by unfold afterTag; rw [if_neg ht]; rfl
      clear ht
      go_wp2
      go_meet
      case rel => exact ⟨rfl, rfl, 1, rfl, by omega, by omega, hA.out, rfl⟩
  case rest =>
    obtain ⟨rfl, rfl, T, rfl, T1, T2, hT, rfl⟩ := hcut
    have HT : Hid (hd z m = lenPart z m T) := by rw [Hh.out, hT, Option.bind_some, if_neg (by omega)]; rfl
    clear hT
    have cT := hc T T2
    have bT := hz T T2
    by_cases hx : z T < 128
    · by_cases hy : m - (T + 1) < z T
      · have HE : Hid (hd z m = none) := by rw [HT.out]; unfold lenPart; rw [if_pos hx, if_pos hy]; rfl
        go_wp2
        go_ret3
        exact ⟨ret_eq (by rw [HE.out]; rfl), rfl⟩
      · have HE : Hid (hd z m = some (T + 1, some (z T))) := by rw [HT.out]; unfold lenPart; rw [if_pos hx, if_neg hy]; rfl
        go_wp2
        go_ret3
        exact ⟨ret_eq (by rw [HE.out]; rfl), rfl⟩
    · by_cases h128 : z T = 128
      · have HE : Hid (hd z m = some (T + 1, none)) := by rw [HT.out]; unfold lenPart; rw [if_neg hx, if_pos h128]; rfl
        have e1 : ((z T : Int) == 128) = true := beq_iff_eq.2 (by omega)
        clear h128
        go_wp2
        go_ret3
        exact ⟨ret_eq (by rw [HE.out]; rfl), rfl⟩
      · have e1 : ((z T : Int) == 128) = false := beq_eq_false_iff_ne.2 (by omega)
        by_cases h255 : z T = 255
        · have HE : Hid (hd z m = none) := by rw [HT.out]; unfold lenPart; rw [if_neg hx, if_neg h128, if_pos h255]; rfl
          have e2 : ((z T : Int) == 255) = true := beq_iff_eq.2 (by omega)
          clear h255 h128
          go_wp2
          go_ret3
          exact ⟨ret_eq (by rw [HE.out]; rfl), rfl⟩
        · have e2 : ((z T : Int) == 255) = false := beq_eq_false_iff_ne.2 (by omega)
          obtain ⟨k, hk⟩ : ∃ k, z T - 128 = k := ⟨_, rfl⟩
          have hk1 : 1 ≤ k := by omega
          have hk2 : k ≤ 126 := by omega
          have e3 : bits BinOp.and IntKind.u8 (z T : Int) 127 = (k : Int) := and127 _ _ hk (by omega) bT
          have HT2 : Hid (hd z m = if m - (T + 1) < k then none else if m - (T + 1 + k) < val z (T + 1) k then none else some (T + 1 + k, some (val z (T + 1) k))) := by
            rw [HT.out]; unfold lenPart; rw [if_neg hx, if_neg h128, if_neg h255, hk]; rfl
          clear hk h128 h255
          by_cases hlk : m - (T + 1) < k
          · have HE : Hid (hd z m = none) := by rw [HT2.out, if_pos hlk]; rfl
            go_wp2
            go_ret3
            exact ⟨ret_eq (by rw [HE.out]; rfl), rfl⟩
          · go_wp2
            go_loop [2, 3, 65] (fun v2 v ix => v2 = .int .i64 ((T : Int) + 1) ∧ ∃ j : Nat, j ≤ k ∧ ix = .int .i64 j ∧ v = .int .i64 (val z (T + 1) j) ∧ val z (T + 1) j ≤ m) (fun _ _ ix => k - (intOf ix).toNat)
            case atStart => exact ⟨rfl, 0, by omega, rfl, rfl, Nat.zero_le _⟩
            case round =>
              obtain ⟨rfl, j, hj, rfl, rfl, hv⟩ := hrel
              by_cases hjk : j < k
              · have cj := hc (T + 1 + j) (by omega)
                rw [← Nat.add_assoc] at cj
                have bj := hz (T + 1 + j) (by omega)
                have hsucc : val z (T + 1) (j + 1) = val z (T + 1) j * 256 + z (T + 1 + j) := rfl
                have hmono := val_mono z (T + 1) (j + 1) k (by omega)
                generalize hV : val z (T + 1) j = V at *
                generalize hB : z (T + 1 + j) = B at *
                generalize hN : val z (T + 1) (j + 1) = N at *
                have hor := or_byte V B N (by omega) bj hsucc.symm
                have HN : Hid (val z (T + 1) (j + 1) = N) := hN
                clear hV hB hN hsucc
                by_cases hbig : m < N
                · have HE : Hid (hd z m = none) := by rw [HT2.out, if_neg hlk, if_pos (by omega)]; rfl
                  go_wp2
                  go_ret3
                  exact ⟨ret_eq (by rw [HE.out]; rfl), rfl⟩
                · go_wp2
                  go_round
                  case rel => exact ⟨rfl, j + 1, by omega, by go_num, by rw [HN.out], by rw [HN.out]; omega⟩
                  case measure => simp [intOf]; omega
              · have hjk' : j = k := by omega
                subst hjk'
                generalize hV : val z (T + 1) j = V at *
                have HV : Hid (val z (T + 1) j = V) := hV
                clear hV
                by_cases hfit : m - (T + 1 + j) < V
                · have HE : Hid (hd z m = none) := by rw [HT2.out, if_neg hlk, if_pos hfit]; rfl
                  go_wp2
                  go_ret3
                  exact ⟨ret_eq (by rw [HE.out]; rfl), rfl⟩
                · have HE : Hid (hd z m = some (T + 1 + j, some V)) := by rw [HT2.out, if_neg hlk, if_neg hfit]; rfl
                  go_wp2
                  go_ret3
                  exact ⟨ret_eq (by rw [HE.out]; rfl), rfl⟩

set_option maxHeartbeats 400000 in
theorem rh_short (a : Option Addr) (m cap : Nat) (w : World) (hm : m < 2) :
    Calls Try.prog 9 #[.slice a m cap] w fun e w' => e = .returned (encR none) ∧ w' = w := by
  go_enter Try.func9, Try.ntmps9
  go_wp2
  go_ret3
  exact ⟨rfl, rfl⟩

set_option maxHeartbeats 400000 in
theorem rh_zero (g off m : Nat) (w : World) (hm : 2 ≤ m) (c0 : w.cell? ⟨g, off, none⟩ = some (.int .u8 0)) :
    Calls Try.prog 9 #[.slice (some ⟨g, off, none⟩) m m] w fun e w' => e = .returned (encR none) ∧ w' = w := by
  go_enter Try.func9, Try.ntmps9
  go_wp2
  go_ret3
  exact ⟨rfl, rfl⟩

theorem rh_any (g off m : Nat) (z : Nat → Nat) (w : World) (hm : 2 ≤ m) (hm2 : m ≤ 1048576) (hz : ∀ j, j < m → z j < 256)
    (hc : ∀ j, j < m → w.cell? ⟨g, off + j, none⟩ = some (.int .u8 (z j))) :
    Calls Try.prog 9 #[.slice (some ⟨g, off, none⟩) m m] w fun e w' => e = .returned (encR (hd z m)) ∧ w' = w := by
  by_cases h0 : z 0 = 0
  · have e : hd z m = none := by unfold hd; rw [if_pos (Or.inr h0)]
    rw [e]
    have c0 := hc 0 (by omega)
    rw [h0] at c0
    exact rh_zero g off m w hm c0
  · exact rh_long g off m z w hm hm2 hz hc h0
end Go.Proofs.Qxb6623407a
