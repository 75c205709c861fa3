/-
  The plain laws: how the values are parted among the types. No Go in sight.
-/
import Derived.Test.Qxb6626885aSigned
namespace Go.Proofs.Qxb6626885a

/-- Some index below k is picked. -/
def anyB (p : Nat → Bool) : Nat → Bool
  | 0 => false
  | k + 1 => anyB p k || p k
/-- The sum of what is picked below k. -/
def sumIf (p : Nat → Bool) (v : Nat → Nat) : Nat → Nat
  | 0 => 0
  | k + 1 => sumIf p v k + if p k then v k else 0

theorem anyB_true {p : Nat → Bool} {k j : Nat} (hj : j < k) (h : p j = true) : anyB p k = true := by
  induction k with
  | zero => omega
  | succ k ih =>
    rw [anyB]
    by_cases e : j = k
    · subst e; rw [h]; simp
    · rw [ih (by omega)]; rfl
theorem anyB_ex {p : Nat → Bool} {k : Nat} (h : anyB p k = true) : ∃ j, j < k ∧ p j = true := by
  induction k with
  | zero => cases h
  | succ k ih =>
    rw [anyB, Bool.or_eq_true] at h
    rcases h with h | h
    · obtain ⟨j, a, b⟩ := ih h
      exact ⟨j, by omega, b⟩
    · exact ⟨k, by omega, h⟩
theorem anyB_false {p : Nat → Bool} {k j : Nat} (h : anyB p k = false) (hj : j < k) : p j = false := by
  cases e : p j with
  | false => rfl
  | true => rw [anyB_true hj e] at h; cases h

theorem sumIf_congr {p q : Nat → Bool} {v : Nat → Nat} {n : Nat} (h : ∀ j, j < n → p j = q j) : sumIf p v n = sumIf q v n := by
  induction n with
  | zero => rfl
  | succ n ih => rw [sumIf, sumIf, ih (fun j hj => h j (by omega)), h n (by omega)]
theorem sumIf_or {p q : Nat → Bool} {v : Nat → Nat} {n : Nat} (h : ∀ j, j < n → (p j && q j) = false) : sumIf (fun j => p j || q j) v n = sumIf p v n + sumIf q v n := by
  induction n with
  | zero => rfl
  | succ n ih =>
    rw [sumIf, sumIf, sumIf, ih (fun j hj => h j (by omega))]
    have := h n (by omega)
    cases hp : p n <;> cases hq : q n <;> simp [hp, hq] at this ⊢ <;> omega
theorem sumIf_le {p : Nat → Bool} {v : Nat → Nat} {n : Nat} : sumIf p v n ≤ sumIf (fun _ => true) v n := by
  induction n with
  | zero => exact Nat.le_refl _
  | succ n ih =>
    rw [sumIf, sumIf]
    simp only [if_true]
    split <;> omega
theorem sumIf_bound {p : Nat → Bool} {v : Nat → Nat} {n M : Nat} (h : ∀ i, i < n → v i ≤ M) : sumIf p v n ≤ n * M := by
  induction n with
  | zero => simp [sumIf]
  | succ n ih =>
    have := ih (fun i hi => h i (by omega))
    have := h n (by omega)
    rw [sumIf, Nat.add_mul]
    split <;> omega

theorem gath_length (pick : Nat → Bool) (N : Nat → Nat) (B : Nat → Nat → Sl) (k : Nat) : (gath pick (fun i => valsOf (N i) (B i)) k).length = sumIf pick N k := by
  induction k with
  | zero => rfl
  | succ k ih =>
    rw [gath, sumIf, List.length_append, ih]
    cases pick k <;> simp [valsOf_length]
theorem gath_none {pick : Nat → Bool} {L : Nat → List Value} {k : Nat} (h : anyB pick k = false) : gath pick L k = [] := by
  induction k with
  | zero => rfl
  | succ k ih =>
    rw [anyB, Bool.or_eq_false_iff] at h
    rw [gath, ih h.1, h.2]
    rfl

/-- The running sum over the first k types. -/
def partSum (E : Nat → Nat → Bool) (v : Nat → Nat) (n : Nat) : Nat → Nat
  | 0 => 0
  | k + 1 => if anyB (fun j => E j k) k then partSum E v n k else partSum E v n k + sumIf (fun j => E j k) v n

theorem part_covered {E : Nat → Nat → Bool} {v : Nat → Nat} {n : Nat} (sym : ∀ i j, E i j = E j i) (tr : ∀ i j k, E i j = true → E j k = true → E i k = true) (k : Nat) :
    partSum E v n k = sumIf (fun j => anyB (fun i => E i j) k) v n := by
  induction k with
  | zero =>
    rw [partSum]
    have : ∀ m, sumIf (fun j => anyB (fun i => E i j) 0) v m = 0 := by
      intro m
      induction m with
      | zero => rfl
      | succ m ih => rw [sumIf, ih]; rfl
    rw [this]
  | succ k ih =>
    rw [partSum]
    cases hs : anyB (fun j => E j k) k with
    | true =>
      rw [if_pos rfl, ih]
      apply sumIf_congr
      intro j _
      rw [anyB]
      cases hc : anyB (fun i => E i j) k with
      | true => rfl
      | false =>
        obtain ⟨j0, h0, h1⟩ := anyB_ex hs
        cases hk : E k j with
        | false => rfl
        | true =>
          have := anyB_false hc h0
          rw [tr j0 k j h1 hk] at this
          cases this
    | false =>
      rw [if_neg (by simp), ih]
      have e : sumIf (fun j => anyB (fun i => E i j) (k + 1)) v n = sumIf (fun j => anyB (fun i => E i j) k || E j k) v n := sumIf_congr (fun j _ => by rw [anyB, sym k j])
      rw [e, sumIf_or]
      intro j _
      cases hc : anyB (fun i => E i j) k with
      | false => rfl
      | true =>
        cases hk : E j k with
        | false => rfl
        | true =>
          obtain ⟨i, hi, h1⟩ := anyB_ex hc
          have := anyB_false hs hi
          rw [tr i j k h1 hk] at this
          cases this

/-- Every value is counted once. -/
theorem part_all {E : Nat → Nat → Bool} {v : Nat → Nat} {n : Nat} (rfl' : ∀ i, E i i = true) (sym : ∀ i j, E i j = E j i) (tr : ∀ i j k, E i j = true → E j k = true → E i k = true) :
    partSum E v n n = sumIf (fun _ => true) v n := by
  rw [part_covered sym tr]
  exact sumIf_congr (fun j hj => anyB_true hj (rfl' j))
theorem part_le {E : Nat → Nat → Bool} {v : Nat → Nat} {n : Nat} (sym : ∀ i j, E i j = E j i) (tr : ∀ i j k, E i j = true → E j k = true → E i k = true) (k : Nat) : partSum E v n k ≤ sumIf (fun _ => true) v n := by
  rw [part_covered sym tr]
  exact sumIf_le

/-- Two types of a list are equal. -/
def sameT (T : Nat → Sl) (TI : Nat → Nat → Int) (i j : Nat) : Bool := eqI (T i).n (T j).n (TI i) (TI j)
theorem sameT_iff {T : Nat → Sl} {TI : Nat → Nat → Int} {i j : Nat} : sameT T TI i j = true ↔ ints (T i).n (TI i) = ints (T j).n (TI j) := by unfold sameT eqI; exact decide_eq_true_iff
theorem sameT_rfl (T : Nat → Sl) (TI : Nat → Nat → Int) (i : Nat) : sameT T TI i i = true := sameT_iff.2 rfl
theorem sameT_sym (T : Nat → Sl) (TI : Nat → Nat → Int) (i j : Nat) : sameT T TI i j = sameT T TI j i := by
  rw [Bool.eq_iff_iff, sameT_iff, sameT_iff]
  exact eq_comm
theorem sameT_tr (T : Nat → Sl) (TI : Nat → Nat → Int) (i j k : Nat) (h : sameT T TI i j = true) (h' : sameT T TI j k = true) : sameT T TI i k = true := sameT_iff.2 ((sameT_iff.1 h).trans (sameT_iff.1 h'))
end Go.Proofs.Qxb6626885a
