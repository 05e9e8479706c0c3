/- The law's own walk. -/
import Derived.Test.Qxb6623407aContents
import Derived.Test.Qxb6623407aRows
import Derived.WalkKit
import Derived.ProofKit
import Derived.OpenShut
import Derived.ShutString
import Derived.ChangeOld
import Derived.Below
import Derived.Deep.OwnRows
import Derived.Laws.CopyOwn
namespace Go.Proofs.Qxb6623407a
open Go.RowKit

set_option maxHeartbeats 400000 in
theorem bytes_yes (a : Option Addr) (n cap : Nat) (s : Int) (w : World) (h : n ≤ 1048576) :
    Calls Try.prog 4 #[.slice a n cap, .int .i64 s] w fun e w' => e = .returned (.bool true) ∧ w' = w := by
  go_enter Try.func4, Try.ntmps4
  go_wp2
  go_ret
  exact ⟨rfl, rfl⟩

set_option maxHeartbeats 400000 in
theorem bytes_no (a : Option Addr) (n cap : Nat) (s : Int) (w : World) (h : 1048576 < n) :
    Calls Try.prog 4 #[.slice a n cap, .int .i64 s] w fun e w' => e = .returned (.bool false) ∧ w' = w := by
  go_enter Try.func4, Try.ntmps4
  go_wp2
  go_ret
  exact ⟨rfl, rfl⟩

set_option maxHeartbeats 400000 in
theorem zi_any (g n s : Nat) (z : Nat → Nat) (w : World) (hn : n ≤ 1048576) (hs : s ≤ n) (hz : ∀ j, j < n → z j < 256)
    (hc : ∀ j, j < n → w.cell? ⟨g, j, none⟩ = some (.int .u8 (z j))) :
    Calls Try.prog 5 #[.slice (some ⟨g, 0, none⟩) n n, .int .i64 s] w fun e w' => e = .returned (encE (rcF z n (n + 1) s)) ∧ w' = w := by
  have HZ : Hid (∀ j, j < n → z j < 256) := hz
  have HC : Hid (∀ j, j < n → w.cell? ⟨g, j, none⟩ = some (.int .u8 (z j))) := hc
  clear hz hc
  go_enter Try.func5, Try.ntmps5
  go_wp2_with fail
  refine (ie_any g n s z w hn hs HZ.out HC.out).mono ?_
  rintro e w' ⟨rfl, rfl⟩
  rw [it_one]
  cases hr : rcF z n (n + 1) s with
  | none =>
    have HE : Hid (rcF z n (n + 1) s = none) := hr
    clear hr
    simp only [encE]
    go_wp2_with fail
    go_ret2
    exact ⟨ret_eq (by rw [HE.out]; rfl), rfl⟩
  | some y =>
    have HE : Hid (rcF z n (n + 1) s = some y) := hr
    clear hr
    simp only [encE]
    go_wp2_with fail
    go_ret2
    exact ⟨ret_eq (by rw [HE.out]; rfl), rfl⟩

/-! ### nil -/
set_option maxHeartbeats 400000 in
theorem ie_nil (w : World) : Calls Try.prog 7 #[.slice none 0 0, .int .i64 0] w fun e w' => e = .returned (encE none) ∧ w' = w := by
  go_enter Try.func7, Try.ntmps7
  go_wp2_with fail
  refine wp_loop_rounds 1 ?_
  rw [rounds_succ]
  go_wp2_with fail
  refine (rh_short _ _ _ _ (by omega)).mono ?_
  rintro e w' ⟨rfl, rfl⟩
  simp only [encR]
  go_wp2_with fail
  go_ret2
  exact ⟨rfl, rfl⟩

set_option maxHeartbeats 400000 in
theorem ce_nil (w : World) : Calls Try.prog 6 #[.slice none 0 0, .int .i64 0] w fun e w' => e = .returned (encE none) ∧ w' = w := by
  go_enter Try.func6, Try.ntmps6
  go_wp2_with fail
  refine wp_loop_rounds 1 ?_
  rw [rounds_succ]
  go_wp2_with fail
  refine (zh_short none 0 0 0 _ (by omega) (by omega) (by omega)).mono ?_
  rintro e w' ⟨rfl, rfl⟩
  simp only [encZ]
  go_wp2_with fail
  go_ret2
  exact ⟨rfl, rfl⟩

set_option maxHeartbeats 400000 in
theorem zi_nil (w : World) : Calls Try.prog 5 #[.slice none 0 0, .int .i64 0] w fun e w' => e = .returned (encE none) ∧ w' = w := by
  go_enter Try.func5, Try.ntmps5
  go_wp2_with fail
  refine (ie_nil _).mono ?_
  rintro e w' ⟨rfl, rfl⟩
  simp only [encE]
  go_wp2_with fail
  go_ret2
  exact ⟨rfl, rfl⟩

/-! ### The law -/
theorem Try.info5 : (Try.prog.info? 5).map (fun i => (i.zero, i.size, i.bytes)) = some (some (.int .u8 0), 1, 1) := by kernel_rfl
theorem Try.size5 : (Try.prog.info? 5).map (·.size) = some 1 := by kernel_rfl

theorem run_copy_rows {P : Program} (w : World) (dT sT ty elem : TypeId) (size : Nat) (g dLen dCap : Nat) (a : Addr) (sLen sCap : Nat) (cur : Array Value) (t : TypeId) (cs : List Value)
    (hu : P.underlying dT = some (.slice elem)) (hs : (P.info? elem).map (·.size) = some size)
    (hg : w.heap[g]? = some (.cells cur t (0, 0))) (hn : cs.length = Nat.min sLen dLen * size)
    (hsrc : ∀ j v, cs[j]? = some v → w.cell? (a.add j) = some v) (hfit : cs.length ≤ cur.size) (h1 : ∀ v ∈ cs, v.oneCell' = true) :
    (Builtin.copy_ #[dT, sT] ty #[.slice (some ⟨g, 0, none⟩) dLen dCap, .slice (some a) sLen sCap]).run P w =
      .ok (goInt (Nat.min sLen dLen)) (w.setRow g (cs ++ cur.toList.drop cs.length).toArray) := by
  have hl := run_loadCells_list (P := P) w a cs hsrc
  have hst := run_storeCells_at P g 0 t cs 0 cur w hg (by simpa using hfit) h1
  cases hq : P.info? elem with
  | none => simp [hq] at hs
  | some i =>
    have hi : i.size = size := by simpa [hq] using hs
    simp [Builtin.copy_, run_underlying hu, Builtin.lenOf, Builtin.firstCells, sizeOf, typeInfo, hq, hi, ← hn, hl, hst]

theorem run_copy_into {P : Program} (w : World) (dT sT ty elem : TypeId) (size : Nat) (g dLen dCap : Nat) (ad : Addr) (sLen sCap k : Nat) (t : TypeId) (N : Nat) (f0 F : Nat → Value)
    (hu : P.underlying dT = some (.slice elem)) (hsz : (P.info? elem).map (·.size) = some size) (hg : w.rowIs g t N f0) (hk : Nat.min sLen dLen = k)
    (hsrc : ∀ j, j < k * size → w.cell? (ad.add j) = some (F j)) (hfit : k * size ≤ N) (h1 : ∀ j, j < k * size → (F j).oneCell' = true) :
    ∃ w', (Builtin.copy_ #[dT, sT] ty #[.slice (some ⟨g, 0, none⟩) dLen dCap, .slice (some ad) sLen sCap]).run P w = .ok (.int .i64 (k : Int)) w' ∧
      w'.rowIs g t N (fun i => if i < k * size then F i else f0 i) ∧ ∀ (B : Nat) (w0 : World), Below B w0 w → B ≤ g → Below B w0 w' := by
  obtain ⟨cur, hc, hcs, hcell⟩ := hg
  have hlen : ((List.range (k * size)).map F).length = k * size := by simp
  have hrun := run_copy_rows (P := P) w dT sT ty elem size g dLen dCap ad sLen sCap cur t ((List.range (k * size)).map F) hu hsz hc (by rw [hlen, hk]) (fun j v hj => by
      rw [List.getElem?_map] at hj
      by_cases hjm : j < k * size
      · simp [hjm] at hj; subst hj; exact hsrc j hjm
      · simp [hjm] at hj) (by rw [hlen, hcs]; exact hfit) (fun v hv => by
      simp only [List.mem_map, List.mem_range] at hv
      obtain ⟨j, hj, rfl⟩ := hv
      exact h1 j hj)
  rw [hlen, hk] at hrun
  refine ⟨_, hrun, ⟨_, setRow_heap w g cur _ t _ hc, by simp; omega, fun i hi => ?_⟩, fun B w0 hb hBg => below_setRow hb hBg _⟩
  by_cases him : i < k * size
  · simp [List.getElem?_append, him]
  · have := hcell i hi
    simp only [if_neg him]
    rw [List.getElem?_toArray, List.getElem?_append_right (by rw [hlen]; omega), hlen, List.getElem?_drop]
    rw [show k * size + (i - k * size) = i by omega]
    simpa using this

set_option maxRecDepth 100000 in
set_option maxHeartbeats 1000000 in
theorem law_nil (s : Int) (w : World) : Calls Try.prog 3 #[.slice none 0 0, .int .i64 s] w fun e w' => e = .returned (.bool true) ∧ Below w.heap.size w w' := by
  have hne : ∀ w, (binOp .neq 22 (.slice none 0 0) (.slice none 0 0)).run Try.prog w = .ok (.bool false) w := fun w => run_neq_slice_nil_any w 22 5 none 0 0 0 0 Try.underlying22
  by_cases c1 : s < 0
  · go_enter Try.func3, Try.ntmps3
    go_wp2_with fail
    refine (bytes_yes _ _ _ _ _ (by omega)).mono ?_
    rintro e w1 ⟨rfl, rfl⟩
    go_wp2_with fail
    go_ret
    exact ⟨rfl, Below.refl _ _⟩
  by_cases c2 : 0 < s
  · go_enter Try.func3, Try.ntmps3
    go_wp2_with fail
    refine (bytes_yes _ _ _ _ _ (by omega)).mono ?_
    rintro e w1 ⟨rfl, rfl⟩
    go_wp2_with fail
    go_ret
    exact ⟨rfl, Below.refl _ _⟩
  have e0 : s = 0 := by omega
  subst e0
  go_enter Try.func3, Try.ntmps3
  go_wp2_with fail
  refine (bytes_yes _ _ _ _ _ (by omega)).mono ?_
  rintro e w1 ⟨rfl, rfl⟩
  go_wp2_with fail
  refine (zi_nil _).mono ?_
  rintro e w2 ⟨rfl, rfl⟩
  simp only [encE]
  go_wp2_with fail
  refine (ce_nil _).mono ?_
  rintro e w3 ⟨rfl, rfl⟩
  simp only [encE]
  go_wp2_with fail
  go_ret
  exact ⟨rfl, Below.refl _ _⟩

set_option maxRecDepth 100000 in
set_option maxHeartbeats 1000000 in
theorem law_out (a : Option Addr) (n cap : Nat) (s : Int) (w : World) (hn : n ≤ 9223372036854775807) (h : 1048576 < n ∨ s < 0 ∨ (n : Int) < s) : Calls Try.prog 3 #[.slice a n cap, .int .i64 s] w fun e w' => e = .returned (.bool true) ∧ Below w.heap.size w w' := by
  by_cases c0 : n ≤ 1048576
  · by_cases c1 : s < 0
    · go_enter Try.func3, Try.ntmps3
      go_wp2_with fail
      refine (bytes_yes _ _ _ _ _ (by omega)).mono ?_
      rintro e w1 ⟨rfl, rfl⟩
      go_wp2_with fail
      go_ret
      exact ⟨rfl, Below.refl _ _⟩
    · have c2 : (n : Int) < s := by omega
      go_enter Try.func3, Try.ntmps3
      go_wp2_with fail
      refine (bytes_yes _ _ _ _ _ (by omega)).mono ?_
      rintro e w1 ⟨rfl, rfl⟩
      go_wp2_with fail
      go_ret
      exact ⟨rfl, Below.refl _ _⟩
  · go_enter Try.func3, Try.ntmps3
    go_wp2_with fail
    refine (bytes_no _ _ _ _ _ (by omega)).mono ?_
    rintro e w1 ⟨rfl, rfl⟩
    go_wp2_with fail
    go_ret
    exact ⟨rfl, Below.refl _ _⟩

set_option maxRecDepth 100000 in
set_option maxHeartbeats 1000000 in
theorem law_main (x : Addr) (n cap s : Nat) (z : Nat → Nat) (w : World) (hn : n ≤ 1048576) (hs : s ≤ n) (hx : n = 0 ∨ x.block < w.heap.size) (hz : ∀ j, j < n → z j < 256)
    (hc : ∀ j, j < n → w.cell? (x.add j) = some (.int .u8 (z j))) :
    Calls Try.prog 3 #[.slice (some x) n cap, .int .i64 s] w fun e w' => e = .returned (.bool true) ∧ Below w.heap.size w w' := by
  have hne : ∀ w, (binOp .neq 22 (.slice (some x) n cap) (.slice none 0 0)).run Try.prog w = .ok (.bool true) w := fun w => run_neq_slice_nil_any w 22 5 (some x) n cap 0 0 Try.underlying22
  have hmk := run_make_row' (P := Try.prog) 22 5 (.int .u8 0) 1 Try.underlying22 Try.info5 rfl .i64 .i64 n (by omega) (by omega)
  obtain ⟨w2, hcp, hrow, hB⟩ := run_copy_into (P := Try.prog) (w.alloc (Obj.cells (madeCells #[.int .u8 0] n) 5)) 22 22 3 5 1 w.heap.size n n x n cap n 5 n _ (fun j => .int .u8 (z j)) Try.underlying22 Try.size5 (World.rowIs_made w _ _ _) (Nat.min_self n) (fun j hj => by
    rw [World.cell?_alloc_lt]
    · exact hc j (by omega)
    · have e : (x.add j).block = x.block := by unfold Addr.add; split <;> rfl
      rw [e]; omega) (by omega) (fun j hj => rfl)
  have hB2 := hB w.heap.size w ((Below.refl _ _).alloc (Nat.le_refl _) _) (Nat.le_refl _)
  have HZ : Hid (∀ j, j < n → z j < 256) := hz
  have HC : Hid (∀ j, j < n → w2.cell? ⟨w.heap.size, j, none⟩ = some (.int .u8 (z j))) := fun j hj => by
    rw [hrow.cell hj]
    simp only [if_pos (show j < n * 1 by omega)]
  clear hz hc hB hrow
  go_enter Try.func3, Try.ntmps3
  go_wp2_with fail
  refine (bytes_yes _ _ _ _ _ (by omega)).mono ?_
  rintro e w1 ⟨rfl, rfl⟩
  go_wp2_with fail
  refine (zi_any w1.heap.size n s z w2 hn hs HZ.out HC.out).mono ?_
  rintro e w3 ⟨rfl, rfl⟩
  cases hr : rcF z n (n + 1) s with
  | none =>
    have HE : Hid (rcF z n (n + 1) s = none) := hr
    clear hr
    simp only [encE]
    go_wp2_with fail
    refine (ce_any w1.heap.size n z w3 hn HZ.out HC.out (n - s) s rfl hs).mono ?_
    rintro e w4 ⟨rfl, rfl⟩
    rw [HE.out]
    simp only [encE]
    go_wp2_with fail
    go_ret
    exact ⟨rfl, hB2⟩
  | some y =>
    have HE : Hid (rcF z n (n + 1) s = some y) := hr
    clear hr
    simp only [encE]
    go_wp2_with fail
    refine (ce_any w1.heap.size n z w3 hn HZ.out HC.out (n - s) s rfl hs).mono ?_
    rintro e w4 ⟨rfl, rfl⟩
    rw [HE.out]
    simp only [encE]
    go_wp2_with fail
    go_ret
    exact ⟨ret_eq (by simp), hB2⟩
end Go.Proofs.Qxb6623407a
