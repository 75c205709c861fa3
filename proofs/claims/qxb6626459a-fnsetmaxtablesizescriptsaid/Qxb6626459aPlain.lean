/-
  The plain law of the script: no Go in sight. 'C i' is the i-th size chosen, clamped; 'T j' the sum of the entries from j on.
-/
import Derived.Test.Qxb6626459aSet
namespace Go.Proofs.Qxb6626459a

/-- The table's limit behind k calls. -/
def mxAt (mx : Int) (C : Nat → Int) : Nat → Int
  | 0 => mx
  | k + 1 => C k
/-- The smallest size chosen so far. -/
def bdAt (mx : Int) (C : Nat → Int) : Nat → Int
  | 0 => mx
  | k + 1 => if C k < bdAt mx C k then C k else bdAt mx C k
/-- 'lowest' and 'pending' behind k calls. -/
def stAt (mx low : Int) (pend : Bool) (C : Nat → Int) : Nat → Int × Bool
  | 0 => (low, pend)
  | k + 1 => if C k = mxAt mx C k then stAt mx low pend C k else (lowN (stAt mx low pend C k).2 (stAt mx low pend C k).1 (C k), true)
/-- The first real change, or -1. -/
def fsAt (mx : Int) (C : Nat → Int) : Nat → Int
  | 0 => -1
  | k + 1 => if fsAt mx C k < 0 ∧ C k ≠ mx then (k : Int) else fsAt mx C k
/-- The smallest size from f on, k sizes behind f. -/
def wlAt (C : Nat → Int) (f : Nat) : Nat → Int
  | 0 => C f
  | k + 1 => if C (f + 1 + k) < wlAt C f k then C (f + 1 + k) else wlAt C f k

theorem bdAt_le (mx : Int) (C : Nat → Int) (k : Nat) : bdAt mx C k ≤ mxAt mx C k := by
  cases k with
  | zero => exact Int.le_refl _
  | succ k =>
    rw [bdAt, mxAt]
    split
    · exact Int.le_refl _
    · omega

theorem bdAt_same {mx : Int} {C : Nat → Int} {k : Nat} (h : C k = mxAt mx C k) : bdAt mx C (k + 1) = bdAt mx C k := by
  have := bdAt_le mx C k
  rw [bdAt, if_neg (by omega)]

theorem bdAt_range {mx : Int} {C : Nat → Int} (h0 : 0 ≤ mx) (h1 : mx ≤ 4096) {q : Nat} (hC : ∀ i, i < q → 0 ≤ C i ∧ C i ≤ 4096) {k : Nat} (hk : k ≤ q) : 0 ≤ bdAt mx C k ∧ bdAt mx C k ≤ 4096 := by
  induction k with
  | zero => exact ⟨h0, h1⟩
  | succ k ih =>
    have := ih (by omega)
    have := hC k (by omega)
    rw [bdAt]
    split <;> omega

/-- The least d at which the rest fits. -/
structure IsCut (T : Nat → Int) (d : Nat) (b : Int) : Prop where
  fits : T d ≤ b
  least : ∀ j, j < d → b < T j

theorem IsCut.step {T : Nat → Int} {mx : Int} {C : Nat → Int} {d d' k : Nat} (mono : ∀ i j, i ≤ j → j ≤ d' → T j ≤ T i) (h : IsCut T d (bdAt mx C k)) (hd : d ≤ d') (hf : T d' ≤ C k) (hl : ∀ j, d ≤ j → j < d' → C k < T j) :
    IsCut T d' (bdAt mx C (k + 1)) := by
  have h1 := mono d d' hd (Nat.le_refl _)
  have h2 := h.fits
  rw [bdAt]
  refine ⟨by split <;> omega, fun j hj => ?_⟩
  rcases Nat.lt_or_ge j d with e | e
  · have := h.least j e
    split <;> omega
  · have := hl j e hj
    split <;> omega

theorem cut_kept {T : Nat → Int} {n d c : Nat} {b : Int} (mono : ∀ i j, i ≤ j → j ≤ n → T j ≤ T i) (h : IsCut T d b) (hc : c ≤ n) (hf : T (n - c) ≤ b) (hm : c < n → b < T (n - c - 1)) : n - c = d := by
  rcases Nat.lt_trichotomy (n - c) d with e | e | e
  · have := h.least _ e
    omega
  · exact e
  · have h1 := hm (by omega)
    have h2 := mono d (n - c - 1) (by omega) (by omega)
    have h3 := h.fits
    omega

/-- No real change so far. -/
theorem fs_none {mx low : Int} {pend : Bool} {C : Nat → Int} {k : Nat} (h : fsAt mx C k < 0) : (∀ i, i < k → C i = mx) ∧ mxAt mx C k = mx ∧ stAt mx low pend C k = (low, pend) := by
  induction k with
  | zero => exact ⟨fun i hi => absurd hi (by omega), rfl, rfl⟩
  | succ k ih =>
    rw [fsAt] at h
    by_cases hc : fsAt mx C k < 0 ∧ C k ≠ mx
    · rw [if_pos hc] at h
      omega
    · rw [if_neg hc] at h
      obtain ⟨a, b, c⟩ := ih h
      have hk : C k = mx := by
        by_cases e : C k = mx
        · exact e
        · exact absurd ⟨h, e⟩ hc
      refine ⟨fun i hi => ?_, hk, ?_⟩
      · by_cases e : i = k
        · rw [e]; exact hk
        · exact a i (by omega)
      · rw [stAt, b, if_pos hk, c]

/-- Where the first real change lies. -/
theorem fs_some {mx : Int} {C : Nat → Int} {k : Nat} (h : ¬ fsAt mx C k < 0) : ∃ f : Nat, fsAt mx C k = (f : Int) ∧ f < k ∧ C f ≠ mx ∧ fsAt mx C f < 0 := by
  induction k with
  | zero => exact absurd (show fsAt mx C 0 < 0 by rw [fsAt]; omega) h
  | succ k ih =>
    rw [fsAt] at h ⊢
    by_cases hc : fsAt mx C k < 0 ∧ C k ≠ mx
    · rw [if_pos hc]
      exact ⟨k, rfl, by omega, hc.2, hc.1⟩
    · rw [if_neg hc] at h ⊢
      obtain ⟨f, a, b, c, d⟩ := ih h
      exact ⟨f, a, by omega, c, d⟩

theorem wlAt_le (C : Nat → Int) (f k : Nat) : wlAt C f k ≤ C (f + k) := by
  cases k with
  | zero => exact Int.le_refl _
  | succ k =>
    rw [wlAt, show f + (k + 1) = f + 1 + k from by omega]
    split <;> omega

theorem low_step (pend : Bool) (low W c : Int) : lowN true (if pend = true ∧ low < W then low else W) c = if pend = true ∧ low < (if c < W then c else W) then low else (if c < W then c else W) := by
  unfold lowN
  rw [if_pos rfl]
  cases pend with
  | false => simp
  | true =>
    simp only [true_and]
    by_cases h1 : low < W
    · rw [if_pos h1]
      by_cases h2 : c < W
      · rw [if_pos h2]
        by_cases h3 : c < low
        · rw [if_pos h3, if_neg (by omega)]
        · rw [if_neg h3]
          by_cases h4 : low < c
          · rw [if_pos h4]
          · rw [if_neg h4]; omega
      · rw [if_neg h2, if_pos h1, if_neg (by omega)]
    · rw [if_neg h1]
      by_cases h2 : c < W
      · rw [if_pos h2, if_neg (by omega)]
      · rw [if_neg h2, if_neg h1]

/-- 'lowest' and 'pending' behind the first real change. -/
theorem st_some {mx low : Int} {pend : Bool} {C : Nat → Int} {f : Nat} (hf : C f ≠ mx) (hn : fsAt mx C f < 0) (k : Nat) :
    stAt mx low pend C (f + 1 + k) = (if pend = true ∧ low < wlAt C f k then low else wlAt C f k, true) := by
  obtain ⟨_, hmx, hst⟩ := fs_none (low := low) (pend := pend) hn
  induction k with
  | zero =>
    show stAt mx low pend C (f + 1) = _
    rw [stAt, hmx, if_neg hf, hst, wlAt]
    congr 1
    unfold lowN
    cases pend with
    | false => simp
    | true =>
      simp
      split <;> split <;> omega
  | succ k ih =>
    show stAt mx low pend C (f + 1 + k + 1) = _
    have hm : mxAt mx C (f + 1 + k) = C (f + k) := by rw [show f + 1 + k = f + k + 1 from by omega, mxAt]
    have hw := wlAt_le C f k
    rw [stAt, hm, ih, wlAt]
    generalize wlAt C f k = W at *
    by_cases e : C (f + 1 + k) = C (f + k)
    · rw [if_pos e, if_neg (show ¬ C (f + 1 + k) < W by omega)]
    · rw [if_neg e]
      exact congrArg (fun t => (t, true)) (low_step pend low W (C (f + 1 + k)))
end Go.Proofs.Qxb6626459a
