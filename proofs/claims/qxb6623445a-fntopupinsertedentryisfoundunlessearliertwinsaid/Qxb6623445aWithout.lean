/- append onto a list that the call itself makes, within its capacity; the walk of zzB1Without. -/
import Derived.Test.Qxb6623445aList
namespace Go.Proofs.Qxb6623445a
open Go.RowKit

theorem run_make_room {P : Program} (t e : TypeId) (z : Value) (size bytes : Nat) (ht : P.underlying t = some (.slice e)) (hinfo : (P.info? e).map (fun i => (i.zero, i.size, i.bytes)) = some (some z, size, bytes))
    (kl kc : IntKind) (n : Nat) (hbytes : bytes * n ≤ 281474976710656) (h63 : n ≤ 9223372036854775807) (w : World) :
    (Instr.makeSlice t (.int kl 0) (.int kc (n : Int))).run P w = .ok (.slice (some ⟨w.heap.size, 0, none⟩) 0 n) (w.alloc (.cells (madeCells z.cells (n * size)) e)) := by
  obtain ⟨i, hi, hzz⟩ := Option.map_eq_some_iff.1 hinfo
  simp only [Prod.mk.injEq] at hzz
  obtain ⟨hz, hs, hb⟩ := hzz
  subst hs hb
  have hb' : (i.bytes : Int) * (n : Int) ≤ 281474976710656 := by
    have h : ((i.bytes * n : Nat) : Int) ≤ 281474976710656 := by omega
    rwa [Int.natCast_mul] at h
  have hr := run_make (P := P) w t e i z ht hi hz kl kc 0 n (by omega) (by omega) hb' (by omega)
  simp only [Int.toNat_natCast, Int.toNat_zero] at hr
  exact hr

theorem FillT.congr {w : World} {R N j : Nat} {T T' : Nat → TD} (h : FillT w R N T j) (e : ∀ i, i < j → T i = T' i) : FillT w R N T' j := by
  obtain ⟨f, h1, h2⟩ := h
  exact ⟨f, h1, fun i hi => by rw [← e i hi]; exact h2 i hi⟩

/-- One more behind the first j. -/
def push (T : Nat → TD) (j : Nat) (t : TD) : Nat → TD := fun i => if i < j then T i else t
theorem push_lt {T : Nat → TD} {j i : Nat} {t : TD} (h : i < j) : push T j t i = T i := if_pos h
theorem push_at (T : Nat → TD) (j : Nat) (t : TD) : push T j t j = t := if_neg (Nat.lt_irrefl _)

theorem FillT.push {w : World} {R N j : Nat} {T : Nat → TD} {t : TD} {v : Value} (o : Obj) (h : FillT w R N T j) (hv : SlV (fun b => R < b) w v t) :
    FillT (((((w.setCell ⟨R, j * 4, none⟩ (.string t.id)).setCell ⟨R, j * 4 + 1, none⟩ (.int .i64 t.ca)).setCell ⟨R, j * 4 + 2, none⟩ (.int .i64 t.cv)).setCell ⟨R, j * 4 + 3, none⟩ v).alloc o) R N (push T j t) (j + 1) := by
  have h' : FillT w R N (Qxb6623445a.push T j t) j := h.congr (fun i hi => (push_lt hi).symm)
  have s := h'.step (v := v) (by rw [push_at]; exact hv)
  rw [push_at] at s
  exact s.later (below_alloc _ _)

theorem below_set4 {B R : Nat} {w0 w : World} (h : Below B w0 w) (hR : B ≤ R) (o0 o1 o2 o3 : Nat) (v0 v1 v2 v3 : Value) (o : Obj) (hs : B ≤ w.heap.size) :
    Below B w0 (((((w.setCell ⟨R, o0, none⟩ v0).setCell ⟨R, o1, none⟩ v1).setCell ⟨R, o2, none⟩ v2).setCell ⟨R, o3, none⟩ v3).alloc o) :=
  ((((h.setCell (p := ⟨R, o0, none⟩) hR v0).setCell (p := ⟨R, o1, none⟩) hR v1).setCell (p := ⟨R, o2, none⟩) hR v2).setCell (p := ⟨R, o3, none⟩) hR v3).alloc (by simpa using hs) o

/-- What the list without that id is. -/
def WithoutPost (n : Nat) (T : Nat → TD) (id : ByteArray) (w : World) (e : Ending) (w' : World) : Prop :=
  ∃ (m : Nat) (R : Nat → TD) (v : Value), v = .slice (some ⟨w.heap.size, 0, none⟩) m n ∧ e = .returned v ∧ m ≤ n ∧ (∀ i, i < m → (R i).id.toList ≠ id.toList) ∧ (m = n ↔ ∀ i, i < n → (T i).id.toList ≠ id.toList) ∧
    ListV (fun b => w.heap.size ≤ b) w' v m R ∧ Below w.heap.size w w'

set_option maxRecDepth 100000 in
set_option maxHeartbeats 1000000 in
theorem without_any (ok : Nat → Prop) (n : Nat) (T : Nat → TD) (l : Value) (id : ByteArray) (w : World) (hl : ListV ok w l n T) (hn : n ≤ 1048576) (hT : ∀ i, i < n → (T i).n ≤ 1048576) :
    Calls Try.prog 13 #[l, .string id] w fun e w' => WithoutPost n T id w e w' := by
  obtain ⟨oa, cp, rfl, hp⟩ : ∃ oa cp, l = .slice oa n cp ∧ (0 < n → ∃ b off, oa = some ⟨b, off, none⟩ ∧ ok b ∧ RowV ok w b off n T) := by
    rcases hl with ⟨h, h0⟩ | ⟨a, cap, h, _, hp⟩
    · exact ⟨none, 0, by rw [h0]; exact h, fun hn => absurd hn (by omega)⟩
    · refine ⟨some a, cap, h, fun hn => ?_⟩
      obtain ⟨b, off, e, r⟩ := hp hn
      exact ⟨b, off, by rw [e], r⟩
  have hmk := run_make_room (P := Try.prog) 29 34 _ 4 56 Try.underlying29 Try.info34 .i64 .i64 n (by omega) (by omega)
  have HP : Hid (0 < n → ∃ b off, oa = some ⟨b, off, none⟩ ∧ ok b ∧ RowV ok w b off n T) := hp
  have HT : Hid (∀ i, i < n → (T i).n ≤ 1048576) := hT
  clear hp hT hl
  go_enter Try.func13, Try.ntmps13
  go_wp2_with fail
  go_loopw [5, 6] (fun v5 v6 wr => ∃ (k m : Nat) (Rf : Nat → TD), k ≤ n ∧ m ≤ k ∧ v5 = .slice (some ⟨w.heap.size, 0, none⟩) m n ∧ v6 = .int .i64 k ∧ Below w.heap.size w wr ∧ FillT wr w.heap.size (n * 4) Rf m ∧ Hid (∀ i, i < m → (Rf i).id.toList ≠ id.toList) ∧ Hid (m = k ↔ ∀ i, i < k → (T i).id.toList ≠ id.toList)) (fun _ v6 _ => n - (intOf v6).toNat)
  case atStart => exact ⟨0, 0, T, by omega, by omega, rfl, rfl, below_alloc _ _, ⟨_, rowIs_madeAny _ _ _ _, fun i hi => absurd hi (by omega)⟩, fun i hi => absurd hi (by omega), ⟨fun _ i hi => absurd hi (by omega), fun _ => rfl⟩⟩
  case round =>
    obtain ⟨k, m, Rf, hk, hm, rfl, rfl, hB, hfill, HR, HE⟩ := hrel
    have hRlt := hfill.lt
    by_cases hlt : k < n
    · obtain ⟨b, off, rfl, hok, hrow⟩ := HP.out (by omega)
      obtain ⟨c0, c1, c2, sl, c3, hsl⟩ := hrow.later hok hB k hlt
      clear hrow
      by_cases hid : (T k).id.toList = id.toList
      · have HID : Hid ((T k).id.toList = id.toList) := hid
        have hstr : ((T k).id.toList == id.toList) = true := by rw [hid]; exact beq_self_eq_true _
        clear hid
        go_wp2_with fail
        go_roundw
        case rel => exact ⟨k + 1, m, Rf, by omega, by omega, rfl, by go_num, hB, hfill, HR, ⟨fun e => absurd e (by omega), fun h => absurd HID.out (h k (by omega))⟩⟩
        case measure => simp [intOf]; omega
      · have HID : Hid ((T k).id.toList ≠ id.toList) := hid
        have hstr : ((T k).id.toList == id.toList) = false := beq_eq_false_iff_ne.2 hid
        clear hid
        go_wp2_with fail
        refine (topup_any ok (T k) sl _ hsl (HT.out k hlt)).mono ?_
        rintro e w1 ⟨v', rfl, hv1, hb1⟩
        obtain ⟨sl', rfl, hsl'⟩ := hv1
        have hfill1 := hfill.later hb1
        have hB1 := hB.trans (hb1.mono (Nat.le_of_lt hRlt))
        have hsl1 : SlV (fun b => w.heap.size < b) w1 sl' (T k) := hsl'.keep (fun _ _ _ => rfl) (fun b q => Nat.lt_of_lt_of_le hRlt q)
        obtain ⟨ya, yn, yc, rfl⟩ := hsl'.shape
        obtain ⟨⟨y0, g0⟩, f0⟩ := hfill1.at_ (m * 4) (by omega)
        obtain ⟨⟨y1, g1⟩, f1⟩ := hfill1.at_ (m * 4 + 1) (by omega)
        obtain ⟨⟨y2, g2⟩, f2⟩ := hfill1.at_ (m * 4 + 2) (by omega)
        obtain ⟨⟨y3, g3⟩, f3⟩ := hfill1.at_ (m * 4 + 3) (by omega)
        have hRlt1 := hfill1.lt
        clear hfill c0 c1 c2 c3 hsl hsl'
        have hF2 := hfill1.push (t := T k) (v := .slice ya yn yc) (.cells #[.string (T k).id, .int .i64 (T k).ca, .int .i64 (T k).cv, .slice ya yn yc] 34) hsl1
        go_wp2_with fail
        go_roundw
        case rel =>
          refine ⟨k + 1, m + 1, push Rf m (T k), by omega, by omega, rfl, by go_num, below_set4 hB1 (Nat.le_refl _) _ _ _ _ _ _ _ _ _ (Nat.le_of_lt hRlt1), hF2, fun i hi => ?_, ?_⟩
          · by_cases e : i < m
            · rw [push_lt e]; exact HR.out i e
            · rw [show i = m by omega, push_at]; exact HID.out
          · constructor
            · intro e i hi
              by_cases e' : i = k
              · rw [e']; exact HID.out
              · exact (HE.out.1 (by omega)) i (by omega)
            · intro h
              have := HE.out.2 (fun i hi => h i (by omega))
              omega
        case measure => simp [intOf]; omega
    · have hkn : k = n := by omega
      subst hkn
      go_wp2_with fail
      go_ret
      exact ⟨m, Rf, _, rfl, rfl, hm, HR.out, HE.out, .inr ⟨_, _, rfl, by omega, fun _ => ⟨_, _, rfl, Nat.le_refl _, hfill.whole (by omega)⟩⟩, hB⟩
end Go.Proofs.Qxb6623445a
