/-
  spanLess, spanAdd, ZZspanMinus by their contracts.
-/
import Derived.Test.Qxb6626493aRows
import Derived.WalkKit
import Derived.ProofKit
import Derived.OpenShut
import Derived.Deep.QuietTactic
import Derived.BigQuiet
namespace Go.Proofs.Qxb6626493a
open Go.RowKit

/-- x is shorter than y. -/
def lessB (xns xf yns yf : Int) : Bool := decide (xns < yns ∨ (xns = yns ∧ xf < yf))

theorem less_any (xns xf yns yf : Int) (w : World) : Calls Try.prog 6 #[.int .i64 xns, .int .i64 xf, .int .i64 yns, .int .i64 yf] w fun e w' => e = .returned (.bool (lessB xns xf yns yf)) ∧ w = w' := by
  unfold lessB
  by_cases h1 : xns = yns
  · subst h1
    have e : decide (xns < xns ∨ (xns = xns ∧ xf < yf)) = decide (xf < yf) := by
      rw [decide_eq_decide]
      omega
    rw [e]
    go_enter Try.func6, Try.ntmps6
    go_wp2
    go_ret
    exact ⟨rfl, rfl⟩
  · have h1' : (xns != yns) = true := bne_iff_ne.2 h1
    have e : decide (xns < yns ∨ (xns = yns ∧ xf < yf)) = decide (xns < yns) := by
      rw [decide_eq_decide]
      omega
    rw [e]
    go_enter Try.func6, Try.ntmps6
    go_wp2
    go_ret
    exact ⟨rfl, rfl⟩

/-- a less b: nanoseconds and fraction. -/
def mNs (ans af bns bf : Int) : Int := if ans < bns ∨ (ans = bns ∧ af ≤ bf) then 0 else if af < bf then ans - bns - 1 else ans - bns
def mFr (ans af bns bf den : Int) : Int := if ans < bns ∨ (ans = bns ∧ af ≤ bf) then 0 else if af < bf then af - bf + den else af - bf

theorem ret_span {a b c d : Int} (h : a = c) (k : b = d) : Ending.returned (.agg #[.int .i64 a, .int .i64 b]) = .returned (.agg #[.int .i64 c, .int .i64 d]) := by rw [h, k]

set_option maxHeartbeats 1000000 in
theorem minus9_any (ans af bns bf den : Int) (w : World) (h1 : 0 ≤ ans) (h2 : ans ≤ 9223372036854775807) (h3 : 0 ≤ bns) (h4 : bns ≤ 9223372036854775807) (hd1 : den ≤ 9223372036854775807)
    (h5 : 0 ≤ af) (h6 : af < den) (h7 : 0 ≤ bf) (h8 : bf < den) :
    Calls Try.prog 9 #[.agg #[.int .i64 ans, .int .i64 af], .agg #[.int .i64 bns, .int .i64 bf], .int .i64 den] w fun e w' => e = .returned (.agg #[.int .i64 (mNs ans af bns bf), .int .i64 (mFr ans af bns bf den)]) ∧ Grown w w' := by
  by_cases c1 : ans < bns
  · have e1 : mNs ans af bns bf = 0 := by unfold mNs; rw [if_pos (.inl c1)]
    have e2 : mFr ans af bns bf den = 0 := by unfold mFr; rw [if_pos (.inl c1)]
    rw [e1, e2]
    clear e1 e2
    go_enter Try.func9, Try.ntmps9
    go_wp2
    exact bodyPost_ret (v := .agg #[.int .i64 0, .int .i64 0]) (by simp [results, Try.results9, go_sem]) rfl ⟨rfl, (((Grown.refl w).alloc _ _).alloc _ _).alloc _ _⟩
  · have c1' : decide (ans < bns) = false := decide_eq_false c1
    by_cases c2 : ans = bns
    · subst c2
      by_cases c3 : af ≤ bf
      · have e1 : mNs ans af ans bf = 0 := by unfold mNs; rw [if_pos (.inr ⟨rfl, c3⟩)]
        have e2 : mFr ans af ans bf den = 0 := by unfold mFr; rw [if_pos (.inr ⟨rfl, c3⟩)]
        rw [e1, e2]
        clear e1 e2
        go_enter Try.func9, Try.ntmps9
        go_wp2
        exact bodyPost_ret (v := .agg #[.int .i64 0, .int .i64 0]) (by simp [results, Try.results9, go_sem]) rfl ⟨rfl, (((Grown.refl w).alloc _ _).alloc _ _).alloc _ _⟩
      · have e1 : mNs ans af ans bf = ans - ans := by unfold mNs; rw [if_neg (by omega), if_neg (by omega)]
        have e2 : mFr ans af ans bf den = af - bf := by unfold mFr; rw [if_neg (by omega), if_neg (by omega)]
        rw [e1, e2]
        clear e1 e2
        have c3' : decide (af ≤ bf) = false := decide_eq_false c3
        have c4 : ¬ af - bf < 0 := by omega
        go_enter Try.func9, Try.ntmps9
        go_wp2
        exact bodyPost_ret (v := .agg #[.int .i64 0, .int .i64 (af - bf)]) (by simp [results, Try.results9, go_sem]) rfl ⟨rfl, ((((Grown.refl w).alloc _ _).alloc _ _).alloc _ _).alloc _ _⟩
    · have c2' : (ans == bns) = false := beq_eq_false_iff_ne.2 c2
      by_cases c3 : af < bf
      · have e1 : mNs ans af bns bf = ans - bns - 1 := by unfold mNs; rw [if_neg (by omega), if_pos c3]
        have e2 : mFr ans af bns bf den = af - bf + den := by unfold mFr; rw [if_neg (by omega), if_pos c3]
        rw [e1, e2]
        clear e1 e2
        have c4 : af - bf < 0 := by omega
        go_enter Try.func9, Try.ntmps9
        go_wp2
        exact bodyPost_ret (v := .agg #[.int .i64 (ans - bns - 1), .int .i64 (af - bf + den)]) (by simp [results, Try.results9, go_sem]) rfl ⟨rfl, ((((Grown.refl w).alloc _ _).alloc _ _).alloc _ _).alloc _ _⟩
      · have e1 : mNs ans af bns bf = ans - bns := by unfold mNs; rw [if_neg (by omega), if_neg c3]
        have e2 : mFr ans af bns bf den = af - bf := by unfold mFr; rw [if_neg (by omega), if_neg c3]
        rw [e1, e2]
        clear e1 e2
        have c4 : ¬ af - bf < 0 := by omega
        go_enter Try.func9, Try.ntmps9
        go_wp2
        exact bodyPost_ret (v := .agg #[.int .i64 (ans - bns), .int .i64 (af - bf)]) (by simp [results, Try.results9, go_sem]) rfl ⟨rfl, ((((Grown.refl w).alloc _ _).alloc _ _).alloc _ _).alloc _ _⟩

theorem grown_then {a b c : World} (h : Grown a b) (k : Grown b c) : Grown a c :=
  ⟨World.keptBut_trans h.1 k.1, fun x => (k.2.1 x).trans (h.2.1 x), Nat.le_trans h.2.2 k.2.2⟩

set_option maxHeartbeats 1000000 in
theorem minus_any (ans af bns bf den : Int) (w : World) (h1 : 0 ≤ ans) (h2 : ans ≤ 9223372036854775807) (h3 : 0 ≤ bns) (h4 : bns ≤ 9223372036854775807) (hd1 : den ≤ 9223372036854775807)
    (h5 : 0 ≤ af) (h6 : af < den) (h7 : 0 ≤ bf) (h8 : bf < den) :
    Calls Try.prog 5 #[.int .i64 ans, .int .i64 af, .int .i64 bns, .int .i64 bf, .int .i64 den] w fun e w' => e = .returned (.tuple #[.int .i64 (mNs ans af bns bf), .int .i64 (mFr ans af bns bf den)]) ∧ Grown w w' := by
  have H := minus9_any ans af bns bf den w h1 h2 h3 h4 hd1 h5 h6 h7 h8
  generalize mNs ans af bns bf = x at *
  generalize mFr ans af bns bf den = y at *
  have HH : Hid (Calls Try.prog 9 #[.agg #[.int .i64 ans, .int .i64 af], .agg #[.int .i64 bns, .int .i64 bf], .int .i64 den] w fun e w' => e = .returned (.agg #[.int .i64 x, .int .i64 y]) ∧ Grown w w') := H
  clear H
  go_enter Try.func5, Try.ntmps5
  go_wp2_with fail
  refine HH.out.mono ?_
  rintro e w1 ⟨rfl, hG⟩
  clear HH
  go_wp2
  go_quiet (fail)
  go_wp2
  go_ret2
  exact ⟨rfl, hG.alloc _ _⟩

/-- The carry and the fraction of a sum. -/
def aCar (xf yf den : Int) : Int := if den - yf ≤ xf then 1 else 0
def aFr (xf yf den : Int) : Int := if den - yf ≤ xf then xf - (den - yf) else xf + yf

set_option maxHeartbeats 1000000 in
theorem add_ok (xns xf yns yf den : Int) (w : World) (h1 : 0 ≤ xns) (h2 : xns ≤ 9223372036854775807) (h3 : 0 ≤ yns) (h4 : yns ≤ 9223372036854775807) (hd1 : den ≤ 9223372036854775807)
    (h5 : 0 ≤ xf) (h6 : xf < den) (h7 : 0 ≤ yf) (h8 : yf < den) (hok : xns + yns + aCar xf yf den ≤ 9223372036854775807) :
    Calls Try.prog 8 #[.int .i64 xns, .int .i64 xf, .int .i64 yns, .int .i64 yf, .int .i64 den] w fun e w' => e = .returned (.tuple #[.int .i64 (xns + yns + aCar xf yf den), .int .i64 (aFr xf yf den), .bool true]) ∧ w = w' := by
  by_cases c : den - yf ≤ xf
  · have e1 : aCar xf yf den = 1 := by unfold aCar; rw [if_pos c]
    have e2 : aFr xf yf den = xf - (den - yf) := by unfold aFr; rw [if_pos c]
    rw [e1] at hok ⊢
    rw [e2]
    clear e1 e2
    have c2 : ¬ (9223372036854775807 - yns - 1 < xns) := by omega
    go_enter Try.func8, Try.ntmps8
    go_wp2
    go_ret3
    exact ⟨rfl, rfl⟩
  · have e1 : aCar xf yf den = 0 := by unfold aCar; rw [if_neg c]
    have e2 : aFr xf yf den = xf + yf := by unfold aFr; rw [if_neg c]
    rw [e1] at hok ⊢
    rw [e2]
    clear e1 e2
    have c2 : ¬ (9223372036854775807 - yns - 0 < xns) := by omega
    go_enter Try.func8, Try.ntmps8
    go_wp2
    go_ret3
    exact ⟨rfl, rfl⟩

set_option maxHeartbeats 1000000 in
theorem add_no (xns xf yns yf den : Int) (w : World) (_h1 : 0 ≤ xns) (_h2 : xns ≤ 9223372036854775807) (h3 : 0 ≤ yns) (h4 : yns ≤ 9223372036854775807) (hd1 : den ≤ 9223372036854775807)
    (h5 : 0 ≤ xf) (h6 : xf < den) (h7 : 0 ≤ yf) (h8 : yf < den) (hno : 9223372036854775807 < xns + yns + aCar xf yf den) :
    Calls Try.prog 8 #[.int .i64 xns, .int .i64 xf, .int .i64 yns, .int .i64 yf, .int .i64 den] w fun e w' => e = .returned (.tuple #[.int .i64 0, .int .i64 0, .bool false]) ∧ w = w' := by
  by_cases c : den - yf ≤ xf
  · have e1 : aCar xf yf den = 1 := by unfold aCar; rw [if_pos c]
    rw [e1] at hno
    clear e1
    have c2 : (9223372036854775807 - yns - 1 < xns) := by omega
    go_enter Try.func8, Try.ntmps8
    go_wp2
    go_ret3
    exact ⟨rfl, rfl⟩
  · have e1 : aCar xf yf den = 0 := by unfold aCar; rw [if_neg c]
    rw [e1] at hno
    clear e1
    have c2 : (9223372036854775807 - yns - 0 < xns) := by omega
    go_enter Try.func8, Try.ntmps8
    go_wp2
    go_ret3
    exact ⟨rfl, rfl⟩
end Go.Proofs.Qxb6626493a
