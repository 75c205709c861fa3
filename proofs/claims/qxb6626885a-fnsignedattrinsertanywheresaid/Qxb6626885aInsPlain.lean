/-
  The plain law of the insertion: what the whole answers is what the left part answers, then the values put in, then what the right part answers.
-/
import Derived.Test.Qxb6626885aCat
import Derived.Test.Qxb6626885aPlain
namespace Go.Proofs.Qxb6626885a

theorem valsOf_congr {n : Nat} {B C : Nat → Sl} (h : ∀ i, i < n → B i = C i) : valsOf n B = valsOf n C := by
  unfold valsOf
  apply List.map_congr_left
  intro i hi
  show Value.slice (B i).a (B i).n (B i).c = .slice (C i).a (C i).n (C i).c
  rw [h i (List.mem_range.1 hi)]

theorem valsOf_add (n m : Nat) (C : Nat → Sl) : valsOf (n + m) C = valsOf n C ++ valsOf m (fun i => C (n + i)) := by
  induction m with
  | zero => simp [valsOf]
  | succ m ih => rw [← Nat.add_assoc, valsOf_succ, valsOf_succ, ih, List.append_assoc]

theorem valsOf_cat (n1 n2 n3 : Nat) (B1 B2 B3 : Nat → Sl) : valsOf (n1 + n2 + n3) (catB n1 n2 B1 B2 B3) = valsOf n1 B1 ++ valsOf n2 B2 ++ valsOf n3 B3 := by
  rw [valsOf_add, valsOf_add]
  congr 1
  · congr 1
    · exact valsOf_congr (fun i hi => by unfold catB; rw [if_pos hi])
    · exact valsOf_congr (fun i hi => by unfold catB; rw [if_neg (by omega), if_pos (by omega), show n1 + i - n1 = i from by omega])
  · exact valsOf_congr (fun i _ => by unfold catB; rw [if_neg (by omega), if_neg (by omega), show n1 + n2 + i - n1 - n2 = i from by omega])

/-- What is gathered, by an index function. -/
theorem gath_vals (pick : Nat → Bool) (V : Nat → Sl) (B : Nat → Nat → Sl) (k : Nat) (hV : ∀ i, i < k → (V i).n ≤ 1048576) :
    ∃ N C, gath pick (fun i => valsOf (V i).n (B i)) k = valsOf N C ∧ N ≤ k * 1048576 ∧ ∀ j, j < N → ∃ i m, i < k ∧ m < (V i).n ∧ C j = B i m := by
  induction k with
  | zero => exact ⟨0, fun _ => ⟨none, 0, 0⟩, rfl, Nat.zero_le _, fun j hj => absurd hj (Nat.not_lt_zero _)⟩
  | succ k ih =>
    obtain ⟨N, C, h1, h2, h3⟩ := ih (fun i hi => hV i (by omega))
    have hk := hV k (by omega)
    have hm : (k + 1) * 1048576 = k * 1048576 + 1048576 := Nat.succ_mul _ _
    rw [gath, h1]
    cases pick k with
    | false =>
      refine ⟨N, C, by simp, by rw [hm]; exact Nat.le_trans h2 (Nat.le_add_right _ _), fun j hj => ?_⟩
      obtain ⟨i, m, a, b, c⟩ := h3 j hj
      exact ⟨i, m, by omega, b, c⟩
    | true =>
      refine ⟨N + (V k).n, fun i => if i < N then C i else B k (i - N), ?_, by rw [hm]; exact Nat.add_le_add h2 hk, fun j hj => ?_⟩
      · rw [valsOf_add]
        simp only [if_true]
        congr 1
        · exact valsOf_congr (fun i hi => by rw [if_pos hi])
        · exact valsOf_congr (fun i _ => by rw [if_neg (by omega), show N + i - N = i from by omega])
      · by_cases e : j < N
        · obtain ⟨i, m, a, b, c⟩ := h3 j e
          exact ⟨i, m, by omega, b, by show (if j < N then C j else B k (j - N)) = _; rw [if_pos e, c]⟩
        · exact ⟨k, j - N, by omega, by omega, by show (if j < N then C j else B k (j - N)) = _; rw [if_neg e]⟩

theorem gath_congr {p q : Nat → Bool} {L M : Nat → List Value} {k : Nat} (h : ∀ i, i < k → p i = q i ∧ L i = M i) : gath p L k = gath q M k := by
  induction k with
  | zero => rfl
  | succ k ih => rw [gath, gath, ih (fun i hi => h i (by omega)), (h k (by omega)).1, (h k (by omega)).2]
theorem gath_add (p : Nat → Bool) (L : Nat → List Value) (n m : Nat) : gath p L (n + m) = gath p L n ++ gath (fun i => p (n + i)) (fun i => L (n + i)) m := by
  induction m with
  | zero => simp [gath]
  | succ m ih => rw [← Nat.add_assoc, gath, gath, ih, List.append_assoc]

/-- A family with one more at p. -/
def insAt {α : Type} (p : Nat) (x : α) (f : Nat → α) (i : Nat) : α := if i < p then f i else if i = p then x else f (i - 1)
theorem insAt_lt {α : Type} {p : Nat} {x : α} {f : Nat → α} {i : Nat} (h : i < p) : insAt p x f i = f i := by unfold insAt; rw [if_pos h]
theorem insAt_at {α : Type} (p : Nat) (x : α) (f : Nat → α) : insAt p x f p = x := by unfold insAt; rw [if_neg (by omega), if_pos rfl]
theorem insAt_gt {α : Type} (p : Nat) (x : α) (f : Nat → α) (i : Nat) : insAt p x f (p + 1 + i) = f (p + i) := by unfold insAt; rw [if_neg (by omega), if_neg (by omega), show p + 1 + i - 1 = p + i from by omega]

/-- The whole answers the left's values, then those put in, then the right's. -/
theorem gath_insert (T V : Nat → Sl) (TI : Nat → Nat → Int) (B : Nat → Nat → Sl) (O : Nat → Int) (on : Nat) (cl x : Sl) (X : Nat → Sl) (p r : Nat) (hcl : cl.n = on) :
    gath (fun i => eqI (insAt p cl T i).n on (insAt p O TI i) O) (fun i => valsOf (insAt p x V i).n (insAt p X B i)) (p + 1 + r) =
      gath (fun i => eqI (T i).n on (TI i) O) (fun i => valsOf (V i).n (B i)) p ++ valsOf x.n X ++ gath (fun i => eqI (T (p + i)).n on (TI (p + i)) O) (fun i => valsOf (V (p + i)).n (B (p + i))) r := by
  rw [gath_add, gath]
  congr 1
  · congr 1
    · exact gath_congr (fun i hi => by simp only [insAt_lt hi, and_self])
    · simp only [insAt_at]
      rw [hcl, eqI_yes (fun _ _ => rfl), if_pos rfl]
  · exact gath_congr (fun i _ => by simp only [insAt_gt, and_self])
end Go.Proofs.Qxb6626885a
