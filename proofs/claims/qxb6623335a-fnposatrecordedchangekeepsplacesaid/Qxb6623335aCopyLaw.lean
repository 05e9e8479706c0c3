/- copy(dst, src) into a row of the call's own, elements of several cells, src that came in: one law for the walk. -/
import Derived.Laws.CopyOwn
import Derived.Deep.OwnRows
import Derived.WalkKit
namespace Go.Proofs.Qxb6623335a
open Go.RowKit

theorem run_copy_rows {P : Program} (w : World) (dT sT ty elem : TypeId) (size : Nat) (g dLen dCap : Nat) (a : Addr) (sLen sCap : Nat) (cur : Array Value) (t : TypeId) (cs : List Value)
    (hu : P.underlying dT = some (.slice elem)) (hs : (P.info? elem).map (·.size) = some size)
    (hg : w.heap[g]? = some (.cells cur t (0, 0))) (hn : cs.length = Nat.min sLen dLen * size)
    (hsrc : ∀ j v, cs[j]? = some v → w.cell? (a.add j) = some v) (hfit : cs.length ≤ cur.size) (h1 : ∀ v ∈ cs, v.oneCell' = true) :
    (Builtin.copy_ #[dT, sT] ty #[.slice (some ⟨g, 0, none⟩) dLen dCap, .slice (some a) sLen sCap]).run P w =
      .ok (goInt (Nat.min sLen dLen)) (w.setRow g (cs ++ cur.toList.drop cs.length).toArray) := by
  have hl := run_loadCells_list (P := P) w a cs hsrc
  have hst := run_storeCells_at P g 0 t cs 0 cur w hg (by simpa using hfit) h1
  cases hq : P.info? elem with
  | none => simp [hq] at hs
  | some i =>
    have hi : i.size = size := by simpa [hq] using hs
    simp [Builtin.copy_, run_underlying hu, Builtin.lenOf, Builtin.firstCells, sizeOf, typeInfo, hq, hi, ← hn, hl, hst]

theorem run_copy_into {P : Program} (w : World) (dT sT ty elem : TypeId) (size : Nat) (g dLen dCap : Nat) (ad : Addr) (sLen sCap k : Nat) (t : TypeId) (N : Nat) (f0 F : Nat → Value)
    (hu : P.underlying dT = some (.slice elem)) (hsz : (P.info? elem).map (·.size) = some size) (hg : w.rowIs g t N f0) (hk : Nat.min sLen dLen = k)
    (hsrc : ∀ j, j < k * size → w.cell? (ad.add j) = some (F j)) (hfit : k * size ≤ N) (h1 : ∀ j, j < k * size → (F j).oneCell' = true) :
    ∃ w', (Builtin.copy_ #[dT, sT] ty #[.slice (some ⟨g, 0, none⟩) dLen dCap, .slice (some ad) sLen sCap]).run P w = .ok (.int .i64 (k : Int)) w' ∧
      w'.rowIs g t N (fun i => if i < k * size then F i else f0 i) ∧ ∀ (B : Nat) (w0 : World), Below B w0 w → B ≤ g → Below B w0 w' := by
  obtain ⟨cur, hc, hcs, hcell⟩ := hg
  have hlen : ((List.range (k * size)).map F).length = k * size := by simp
  have hrun := run_copy_rows (P := P) w dT sT ty elem size g dLen dCap ad sLen sCap cur t ((List.range (k * size)).map F) hu hsz hc (by rw [hlen, hk]) (fun j v hj => by
      rw [List.getElem?_map] at hj
      by_cases hjm : j < k * size
      · simp [hjm] at hj; subst hj; exact hsrc j hjm
      · simp [hjm] at hj) (by rw [hlen, hcs]; exact hfit) (fun v hv => by
      simp only [List.mem_map, List.mem_range] at hv
      obtain ⟨j, hj, rfl⟩ := hv
      exact h1 j hj)
  rw [hlen, hk] at hrun
  refine ⟨_, hrun, ⟨_, setRow_heap w g cur _ t _ hc, by simp; omega, fun i hi => ?_⟩, fun B w0 hb hBg => below_setRow hb hBg _⟩
  by_cases him : i < k * size
  · simp [List.getElem?_append, him]
  · have := hcell i hi
    simp only [if_neg him]
    rw [List.getElem?_toArray, List.getElem?_append_right (by rw [hlen]; omega), hlen, List.getElem?_drop]
    rw [show k * size + (i - k * size) = i by omega]
    simpa using this

end Go.Proofs.Qxb6623335a
