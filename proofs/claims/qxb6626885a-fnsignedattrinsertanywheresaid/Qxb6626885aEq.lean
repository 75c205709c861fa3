/-
  intsEq, slices.Equal and ObjectIdentifier.Equal by their contracts.
-/
import Derived.Test.Qxb6626885aBase
namespace Go.Proofs.Qxb6626885a
open Go.RowKit

/-- The first n numbers as a list. -/
def ints (n : Nat) (A : Nat → Int) : List Int := (List.range n).map A
/-- Two slices of numbers are equal. -/
def eqI (n m : Nat) (A B : Nat → Int) : Bool := decide (ints n A = ints m B)

theorem ints_length (n : Nat) (A : Nat → Int) : (ints n A).length = n := by simp [ints]
theorem eqI_len {n m : Nat} {A B : Nat → Int} (h : n ≠ m) : eqI n m A B = false := decide_eq_false (fun e => h (by have := congrArg List.length e; simpa [ints_length] using this))
theorem eqI_no {n : Nat} {A B : Nat → Int} {i : Nat} (hi : i < n) (h : A i ≠ B i) : eqI n n A B = false := decide_eq_false (fun e => h (by
  have := congrArg (fun l => l[i]?) e
  simpa [ints, List.getElem?_map, List.getElem?_range hi] using this))
theorem eqI_yes {n : Nat} {A B : Nat → Int} (h : ∀ i, i < n → A i = B i) : eqI n n A B = true := decide_eq_true (List.map_congr_left (fun i hi => h i (List.mem_range.1 hi)))

/-- The first k numbers are equal. -/
def Alike (A B : Nat → Int) (k : Nat) : Prop := ∀ i, i < k → A i = B i
theorem Alike.succ {A B : Nat → Int} {k : Nat} (h : Alike A B k) (hk : A k = B k) : Alike A B (k + 1) := fun i hi => by
  by_cases e : i = k
  · rw [e]; exact hk
  · exact h i (by omega)

set_option maxHeartbeats 1000000 in
theorem intsEq_any (a b : Option Addr) (n c m d : Nat) (A B : Nat → Int) (w : World) (hA : Sees w a n (intsV A)) (hB : Sees w b m (intsV B)) (hn : n ≤ maxLen) (hm : m ≤ maxLen) :
    Calls Try.prog 15 #[.slice a n c, .slice b m d] w fun e w' => e = .returned (.bool (eqI n m A B)) ∧ Drawn w w' := by
  unfold maxLen at *
  by_cases h : n = m
  · subst h
    obtain ⟨r, hr⟩ : ∃ r, eqI n n A B = r := ⟨_, rfl⟩
    rw [hr]
    have HR : Hid (eqI n n A B = r) := hr
    clear hr
    go_enter Try.func15, Try.ntmps15
    go_wp2
    go_loopg [5] n (fun g i wr => Drawn w wr ∧ ∃ k : Nat, k ≤ n ∧ g = n - k ∧ i = .int .i64 k ∧ Alike A B k)
    case atStart => exact ⟨Drawn.refl _, 0, Nat.zero_le _, rfl, rfl, fun i hi => absurd hi (by omega)⟩
    case round =>
      obtain ⟨hD, k, hk, rfl, rfl, hal⟩ := hrel
      by_cases hlt : k < n
      · obtain ⟨b1, o1, rfl, hc1⟩ := (hA.keep (hD.below _)).at hlt
        obtain ⟨b2, o2, rfl, hc2⟩ := (hB.keep (hD.below _)).at hlt
        have hlz : (k : Int) < (n : Int) := by omega
        by_cases he : A k = B k
        · have hne : (A k != B k) = false := by simp [he]
          have hal' := hal.succ he
          clear he hal
          go_wp2
          go_quiet (fail)
          go_wp2
          go_roundg (n - (k + 1))
          case measure => omega
          case rel => exact ⟨hD.more _, k + 1, by omega, rfl, by go_num, hal'⟩
        · have hne : (A k != B k) = true := bne_iff_ne.2 he
          have hfin : r = false := by rw [← HR.out]; exact eqI_no hlt he
          subst hfin
          go_wp2
          go_quiet (fail)
          go_wp2
          go_ret
          exact ⟨rfl, hD.more _⟩
      · obtain rfl : n = k := by omega
        have hfin : r = true := by rw [← HR.out]; exact eqI_yes hal
        subst hfin
        go_wp2
        go_ret
        exact ⟨rfl, hD⟩
  · have hne : ((n : Int) != (m : Int)) = true := by rw [bne_iff_ne]; omega
    rw [eqI_len h]
    go_enter Try.func15, Try.ntmps15
    go_wp2
    go_ret
    exact ⟨rfl, Drawn.refl _⟩

set_option maxHeartbeats 1000000 in
theorem slicesEqual_any (a b : Option Addr) (n c m d : Nat) (A B : Nat → Int) (w : World) (hA : Sees w a n (intsV A)) (hB : Sees w b m (intsV B)) (hn : n ≤ maxLen) (hm : m ≤ maxLen) :
    Calls Try.prog 21 #[.slice a n c, .slice b m d] w fun e w' => e = .returned (.bool (eqI n m A B)) ∧ Drawn w w' := by
  unfold maxLen at *
  by_cases h : n = m
  · subst h
    obtain ⟨r, hr⟩ : ∃ r, eqI n n A B = r := ⟨_, rfl⟩
    rw [hr]
    have HR : Hid (eqI n n A B = r) := hr
    clear hr
    go_enter Try.func21, Try.ntmps21
    go_wp2
    go_loopg [13] n (fun g i wr => Drawn w wr ∧ ∃ k : Nat, k ≤ n ∧ g = n - k ∧ i = .int .i64 k ∧ Alike A B k)
    case atStart => exact ⟨Drawn.refl _, 0, Nat.zero_le _, rfl, rfl, fun i hi => absurd hi (by omega)⟩
    case round =>
      obtain ⟨hD, k, hk, rfl, rfl, hal⟩ := hrel
      by_cases hlt : k < n
      · obtain ⟨b1, o1, rfl, hc1⟩ := (hA.keep (hD.below _)).at hlt
        obtain ⟨b2, o2, rfl, hc2⟩ := (hB.keep (hD.below _)).at hlt
        have hlz : (k : Int) < (n : Int) := by omega
        by_cases he : A k = B k
        · have hne : (A k != B k) = false := by simp [he]
          have hal' := hal.succ he
          clear he hal
          go_wp2
          go_quiet (fail)
          go_wp2
          go_roundg (n - (k + 1))
          case measure => omega
          case rel => exact ⟨hD.more _, k + 1, by omega, rfl, by go_num, hal'⟩
        · have hne : (A k != B k) = true := bne_iff_ne.2 he
          have hfin : r = false := by rw [← HR.out]; exact eqI_no hlt he
          subst hfin
          go_wp2
          go_quiet (fail)
          go_wp2
          go_ret
          exact ⟨rfl, hD.more _⟩
      · obtain rfl : n = k := by omega
        have hfin : r = true := by rw [← HR.out]; exact eqI_yes hal
        subst hfin
        go_wp2
        go_ret
        exact ⟨rfl, hD⟩
  · have hne : ((n : Int) != (m : Int)) = true := by rw [bne_iff_ne]; omega
    rw [eqI_len h]
    go_enter Try.func21, Try.ntmps21
    go_wp2
    go_ret
    exact ⟨rfl, Drawn.refl _⟩

theorem equal_any (a b : Option Addr) (n c m d : Nat) (A B : Nat → Int) (w : World) (hA : Sees w a n (intsV A)) (hB : Sees w b m (intsV B)) (hn : n ≤ maxLen) (hm : m ≤ maxLen) :
    Calls Try.prog 18 #[.slice a n c, .slice b m d] w fun e w' => e = .returned (.bool (eqI n m A B)) ∧ Drawn w w' := by
  go_enter Try.func18, Try.ntmps18
  go_wp2_with fail
  refine (slicesEqual_any a b n c m d A B w hA hB hn hm).mono ?_
  rintro e w' ⟨rfl, hD⟩
  go_wp2
  go_ret
  exact ⟨rfl, hD⟩
end Go.Proofs.Qxb6626885a
