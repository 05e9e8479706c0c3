/- The plain side: a BER header at the front of m octets, the walk with a depth, the walk by recursion; no Go here. -/
import Derived.RowKit
namespace Go.Proofs.Qxb6623407a

/-- From octet t on: where the tag's number ends (behind its first octet below 128), in at most f octets. -/
def tagL (z : Nat → Nat) : Nat → Nat → Option Nat
  | 0, _ => none
  | f + 1, t => if z t < 128 then some (t + 1) else tagL z f (t + 1)

/-- The number that k octets from a on spell, base 256. -/
def val (z : Nat → Nat) (a : Nat) : Nat → Nat
  | 0 => 0
  | k + 1 => val z a k * 256 + z (a + k)

def lenPart (z : Nat → Nat) (m t : Nat) : Option (Nat × Option Nat) :=
  if z t < 128 then (if m - (t + 1) < z t then none else some (t + 1, some (z t)))
  else if z t = 128 then some (t + 1, none)
  else if z t = 255 then none
  else if m - (t + 1) < z t - 128 then none
  else if m - (t + 1 + (z t - 128)) < val z (t + 1) (z t - 128) then none
  else some (t + 1 + (z t - 128), some (val z (t + 1) (z t - 128)))

def afterTag (z : Nat → Nat) (m : Nat) : Option Nat := if z 0 % 32 = 31 then tagL z (m - 1) 1 else some 1

/-- The header at the front of m octets: its own length; and the contents' length, or none for the indefinite form. -/
def hd (z : Nat → Nat) (m : Nat) : Option (Nat × Option Nat) :=
  if m < 2 ∨ z 0 = 0 then none else (afterTag z m).bind fun t => if m ≤ t then none else lenPart z m t

theorem tagL_ge (z : Nat → Nat) : ∀ f t r, tagL z f t = some r → t < r ∧ r ≤ t + f := by
  intro f
  induction f with
  | zero => intro t r h; simp [tagL] at h
  | succ f ih =>
    intro t r h
    rw [tagL] at h
    split at h
    · simp at h; omega
    · have := ih _ _ h; omega

theorem lenPart_ge (z : Nat → Nat) (m t : Nat) (h0 : t < m) (h : Nat) (L : Option Nat) (e : lenPart z m t = some (h, L)) : t < h ∧ h + L.getD 0 ≤ m := by
  unfold lenPart at e
  repeat' (split at e)
  all_goals simp at e
  all_goals (obtain ⟨rfl, rfl⟩ := e; simp; omega)

theorem hd_ge (z : Nat → Nat) (m : Nat) (h : Nat) (L : Option Nat) (e : hd z m = some (h, L)) : 2 ≤ h ∧ h + L.getD 0 ≤ m ∧ z 0 ≠ 0 ∧ 2 ≤ m := by
  unfold hd at e
  split at e
  · simp at e
  · rename_i hc
    obtain ⟨t, h1, h2⟩ := Option.bind_eq_some_iff.1 e
    split at h2
    · simp at h2
    · have h3 := lenPart_ge z m t (by omega) h L h2
      have h4 : 1 ≤ t := by
        unfold afterTag at h1
        split at h1
        · have := tagL_ge z _ _ _ h1; omega
        · simp at h1; omega
      omega

/-! ### The two walks -/

def eoc (z : Nat → Nat) (n i : Nat) : Bool := decide (i + 2 ≤ n) && z i == 0 && z (i + 1) == 0

def hdAt (z : Nat → Nat) (n i : Nat) : Option (Nat × Option Nat) := hd (fun j => z (i + j)) (n - i)

/-- With a depth. -/
def itF (z : Nat → Nat) (n : Nat) : Nat → Nat → Nat → Option Nat
  | 0, _, _ => none
  | f + 1, i, d =>
    if eoc z n i then (if d = 1 then some (i + 2) else itF z n f (i + 2) (d - 1))
    else match hdAt z n i with
      | none => none
      | some (h, some L) => itF z n f (i + h + L) d
      | some (h, none) => if z i / 32 % 2 = 0 then none else itF z n f (i + h) (d + 1)

/-- By recursion. -/
def rcF (z : Nat → Nat) (n : Nat) : Nat → Nat → Option Nat
  | 0, _ => none
  | f + 1, i =>
    if eoc z n i then some (i + 2)
    else match hdAt z n i with
      | none => none
      | some (h, some L) => rcF z n f (i + h + L)
      | some (h, none) => if z i / 32 % 2 = 0 then none else match rcF z n f (i + h) with
        | none => none
        | some e => rcF z n f e

theorem hdAt_ge (z : Nat → Nat) (n i h : Nat) (L : Option Nat) (e : hdAt z n i = some (h, L)) : 2 ≤ h ∧ i + h + L.getD 0 ≤ n := by
  have := hd_ge _ _ _ _ e
  omega

theorem eoc_lt {z : Nat → Nat} {n i : Nat} (h : eoc z n i = true) : i + 2 ≤ n := by
  simp [eoc] at h; omega

theorem rcF_gt (z : Nat → Nat) (n : Nat) : ∀ f i e, rcF z n f i = some e → i + 2 ≤ e ∧ e ≤ n := by
  intro f
  induction f with
  | zero => intro i e h; simp [rcF] at h
  | succ f ih =>
    intro i e h
    rw [rcF] at h
    split at h
    · rename_i he
      have := eoc_lt he
      simp at h; omega
    · split at h
      · simp at h
      · rename_i h' L hh
        have := hdAt_ge _ _ _ _ _ hh
        have := ih _ _ h
        simp at *; omega
      · rename_i h' hh
        have := hdAt_ge _ _ _ _ _ hh
        split at h
        · simp at h
        · split at h
          · simp at h
          · rename_i e1 he1
            have := ih _ _ he1
            have := ih _ _ h
            omega

theorem rcF_fuel (z : Nat → Nat) (n : Nat) : ∀ k f g i, n - i ≤ k → n - i < f → n - i < g → rcF z n f i = rcF z n g i := by
  intro k
  induction k with
  | zero =>
    intro f g i hk hf hg
    obtain ⟨f, rfl⟩ : ∃ x, f = x + 1 := ⟨f - 1, by omega⟩
    obtain ⟨g, rfl⟩ : ∃ x, g = x + 1 := ⟨g - 1, by omega⟩
    rw [rcF, rcF]
    split
    · rfl
    · split
      · rfl
      · rename_i hh; have := hdAt_ge _ _ _ _ _ hh; omega
      · rename_i hh; have := hdAt_ge _ _ _ _ _ hh; omega
  | succ k ih =>
    intro f g i hk hf hg
    obtain ⟨f, rfl⟩ : ∃ x, f = x + 1 := ⟨f - 1, by omega⟩
    obtain ⟨g, rfl⟩ : ∃ x, g = x + 1 := ⟨g - 1, by omega⟩
    rw [rcF, rcF]
    split
    · rfl
    · split
      · rfl
      · rename_i hh; have := hdAt_ge _ _ _ _ _ hh
        simp only [Option.getD_some] at this
        exact ih _ _ _ (by omega) (by omega) (by omega)
      · rename_i h' hh; have := hdAt_ge _ _ _ _ _ hh
        split
        · rfl
        · rw [ih f g (i + h') (by omega) (by omega) (by omega)]
          split
          · rfl
          · rename_i e he
            have := rcF_gt _ _ _ _ _ he
            exact ih _ _ _ (by omega) (by omega) (by omega)

theorem itF_fuel (z : Nat → Nat) (n : Nat) : ∀ k f g i d, n - i ≤ k → n - i < f → n - i < g → itF z n f i d = itF z n g i d := by
  intro k
  induction k with
  | zero =>
    intro f g i d hk hf hg
    obtain ⟨f, rfl⟩ : ∃ x, f = x + 1 := ⟨f - 1, by omega⟩
    obtain ⟨g, rfl⟩ : ∃ x, g = x + 1 := ⟨g - 1, by omega⟩
    rw [itF, itF]
    split
    · rename_i he; have := eoc_lt he; omega
    · split
      · rfl
      · rename_i hh; have := hdAt_ge _ _ _ _ _ hh; omega
      · rename_i hh; have := hdAt_ge _ _ _ _ _ hh; omega
  | succ k ih =>
    intro f g i d hk hf hg
    obtain ⟨f, rfl⟩ : ∃ x, f = x + 1 := ⟨f - 1, by omega⟩
    obtain ⟨g, rfl⟩ : ∃ x, g = x + 1 := ⟨g - 1, by omega⟩
    rw [itF, itF]
    split
    · rename_i he; have := eoc_lt he
      split
      · rfl
      · exact ih _ _ _ _ (by omega) (by omega) (by omega)
    · split
      · rfl
      · rename_i hh; have := hdAt_ge _ _ _ _ _ hh
        simp only [Option.getD_some] at this
        exact ih _ _ _ _ (by omega) (by omega) (by omega)
      · rename_i h' hh; have := hdAt_ge _ _ _ _ _ hh
        split
        · rfl
        · exact ih _ _ _ _ (by omega) (by omega) (by omega)

/-- THE LAW: the walk with a depth is the recursive one, d times over. -/
theorem it_rc (z : Nat → Nat) (n : Nat) : ∀ k i d, n - i ≤ k → 1 ≤ d →
    itF z n (n + 1) i d = (rcF z n (n + 1) i).bind fun e => if d = 1 then some e else itF z n (n + 1) e (d - 1) := by
  intro k
  induction k with
  | zero =>
    intro i d hk hd
    rw [itF, rcF]
    split
    · rename_i he; have := eoc_lt he; omega
    · split
      · rfl
      · rename_i hh; have := hdAt_ge _ _ _ _ _ hh; omega
      · rename_i hh; have := hdAt_ge _ _ _ _ _ hh; omega
  | succ k ih =>
    intro i d hk hd
    rw [itF.eq_2, rcF.eq_2]
    split
    · rename_i he; have := eoc_lt he
      simp only [Option.bind_some]
      split
      · rfl
      · exact itF_fuel z n n _ _ _ _ (by omega) (by omega) (by omega)
    · split
      · rfl
      · rename_i hh; have := hdAt_ge _ _ _ _ _ hh
        simp only [Option.getD_some] at this
        rw [itF_fuel z n n n (n + 1) _ d (by omega) (by omega) (by omega), rcF_fuel z n n n (n + 1) _ (by omega) (by omega) (by omega)]
        exact ih _ _ (by omega) hd
      · rename_i h' hh; have := hdAt_ge _ _ _ _ _ hh
        split
        · rfl
        · rw [itF_fuel z n n n (n + 1) _ _ (by omega) (by omega) (by omega), rcF_fuel z n n n (n + 1) (i + h') (by omega) (by omega) (by omega)]
          rw [ih _ _ (by omega) (by omega)]
          cases he : rcF z n (n + 1) (i + h') with
          | none => rfl
          | some e =>
            have := rcF_gt _ _ _ _ _ he
            simp only [Option.bind_some]
            rw [if_neg (by omega), show d + 1 - 1 = d by omega, rcF_fuel z n n n (n + 1) e (by omega) (by omega) (by omega)]
            exact ih _ _ (by omega) hd

theorem it_one (z : Nat → Nat) (n i : Nat) : itF z n (n + 1) i 1 = rcF z n (n + 1) i := by
  rw [it_rc z n n i 1 (by omega) (by omega)]
  cases rcF z n (n + 1) i <;> rfl

end Go.Proofs.Qxb6623407a
