/-
  (*Encoder).SetMaxTableSize by its contracts.
-/
import Derived.Test.Qxb6626459aEvict
import Derived.WalkLawsBesides
namespace Go.Proofs.Qxb6626459a
open Go.RowKit

theorem set_same (E F n : Nat) (N V : Nat → ByteArray) (S : Nat → Bool) (d : Nat) (mx low x : Int) (pend : Bool) (w : World)
    (h : Enc w E F n N V S d mx low pend) (hx : clampN x = mx) :
    Calls Try.prog 10 #[.pointer (some ⟨E, 0, none⟩), .int .u32 x] w fun e w' => e = .returned (.tuple #[]) ∧ w = w' := by
  obtain ⟨fa, hfa, hR⟩ := h.fld
  have c2 : w.cell? ⟨E, 2, none⟩ = some (.int .u32 mx) := hR.cell (i := 2) (by omega)
  clear h hfa hR
  unfold clampN at hx
  by_cases h4 : 4096 < x
  · rw [if_pos h4] at hx
    subst hx
    go_enter Try.func10, Try.ntmps10
    go_wp2
    exact bodyPost_ret (results_none rfl _ _ _) rfl ⟨rfl, rfl⟩
  · rw [if_neg h4] at hx
    subst hx
    go_enter Try.func10, Try.ntmps10
    go_wp2
    exact bodyPost_ret (results_none rfl _ _ _) rfl ⟨rfl, rfl⟩

/-- The lowest size behind a real change to m. -/
def lowN (pend : Bool) (low m : Int) : Int := if pend then (if m < low then m else low) else m

set_option maxHeartbeats 1000000 in
theorem set_new (E F n : Nat) (N V : Nat → ByteArray) (S : Nat → Bool) (d : Nat) (mx low x : Int) (pend : Bool) (w : World)
    (h : Enc w E F n N V S d mx low pend) (hn : n ≤ 65536) (hNs : Short N n) (hVs : Short V n) (hsz : pre N V n ≤ 4096) (hx0 : 0 ≤ x) (hx1 : x ≤ 4294967295) (hx : clampN x ≠ mx) :
    Calls Try.prog 10 #[.pointer (some ⟨E, 0, none⟩), .int .u32 x] w fun e w' => e = .returned (.tuple #[]) ∧ Evicted E F n N V S d (clampN x) (lowN pend low (clampN x)) (clampN x) true w w' := by
  obtain ⟨fa, hfa, hR⟩ := h.fld
  have c2 : w.cell? ⟨E, 2, none⟩ = some (.int .u32 mx) := hR.cell (i := 2) (by omega)
  have c3 : w.cell? ⟨E, 3, none⟩ = some (.int .u32 low) := hR.cell (i := 3) (by omega)
  have c4 : w.cell? ⟨E, 4, none⟩ = some (.bool pend) := hR.cell (i := 4) (by omega)
  have f3 := hR.frozen 3
  have f4 := hR.frozen 4
  clear hfa hR
  obtain ⟨m, hm⟩ : ∃ m, m = clampN x := ⟨_, rfl⟩
  have hm' : (4096 < x ∧ m = 4096) ∨ (¬ 4096 < x ∧ m = x) := by
    unfold clampN at hm
    by_cases h4 : 4096 < x
    · rw [if_pos h4] at hm; exact .inl ⟨h4, hm⟩
    · rw [if_neg h4] at hm; exact .inr ⟨h4, hm⟩
  rw [← hm] at hx ⊢
  clear hm
  have hc : (pend = false ∧ lowN pend low m = m) ∨ (pend = true ∧ m < low ∧ lowN pend low m = m) ∨ (pend = true ∧ ¬ m < low ∧ lowN pend low m = low) := by
    unfold lowN
    cases pend with
    | false => exact .inl ⟨rfl, rfl⟩
    | true =>
      by_cases h : m < low
      · exact .inr (.inl ⟨rfl, h, by simp [h]⟩)
      · exact .inr (.inr ⟨rfl, h, by simp [h]⟩)
  rcases hm' with ⟨h4, rfl⟩ | ⟨h4, rfl⟩
  all_goals
    rcases hc with ⟨rfl, e⟩ | ⟨rfl, h5, e⟩ | ⟨rfl, h5, e⟩
    all_goals
      rw [e]
      clear e
      go_enter Try.func10, Try.ntmps10
      go_wp2_with fail
      refine (setMax_any E F n N V S d mx _ _ true _ ((h.low).pend) hn hNs hVs hsz (by omega) (by omega)).mono ?_
      rintro e w' ⟨rfl, d', h1, h2, h3, h4, h5⟩
      go_wp2
      go_end0
      exact ⟨rfl, d', h1, h2, h3, h4, (((Frame.refl E F w).set (.inl rfl) _).set (.inl rfl) _).trans h5⟩
end Go.Proofs.Qxb6626459a
