/-
  The walk of 'FnSpanMinusInSteps' at well-formed spans.
-/
import Derived.Test.Qxb6626493aPlain
namespace Go.Proofs.Qxb6626493a
open Go.RowKit
set_option linter.unusedVariables false

set_option maxRecDepth 100000 in
set_option maxHeartbeats 2000000 in
theorem steps_walk (ans af bns bf cns cf den : Int) (w : World) (h1 : 0 ≤ ans) (h2 : ans ≤ 9223372036854775807) (h3 : 0 ≤ bns) (h3' : bns ≤ 9223372036854775807) (h4 : 0 ≤ cns) (h4' : cns ≤ 9223372036854775807)
    (hd0 : 0 < den) (hd1 : den ≤ 9223372036854775807) (h5 : 0 ≤ af) (h6 : af < den) (h7 : 0 ≤ bf) (h8 : bf < den) (h9 : 0 ≤ cf) (h10 : cf < den) :
    Calls Try.prog 4 #[.int .i64 ans, .int .i64 af, .int .i64 bns, .int .i64 bf, .int .i64 cns, .int .i64 cf, .int .i64 den] w fun e w' => e = .returned (.bool true) ∧ Grown w w' := by
  -- the five calls of minus
  obtain ⟨wt1, wt1f, wt1f'⟩ := m_wf h1 h3 h5 h6 h7 h8
  obtain ⟨wt2, wt2f, wt2f'⟩ := m_wf h1 h4 h5 h6 h9 h10
  have C1 : Hid (∀ wx, Calls Try.prog 5 #[.int .i64 ans, .int .i64 af, .int .i64 bns, .int .i64 bf, .int .i64 den] wx fun e w' => e = .returned (.tuple #[.int .i64 (mNs ans af bns bf), .int .i64 (mFr ans af bns bf den)]) ∧ Grown wx w') :=
    fun wx => minus_any ans af bns bf den wx h1 h2 h3 h3' hd1 h5 h6 h7 h8
  have C2 : Hid (∀ wx, Calls Try.prog 5 #[.int .i64 ans, .int .i64 af, .int .i64 cns, .int .i64 cf, .int .i64 den] wx fun e w' => e = .returned (.tuple #[.int .i64 (mNs ans af cns cf), .int .i64 (mFr ans af cns cf den)]) ∧ Grown wx w') :=
    fun wx => minus_any ans af cns cf den wx h1 h2 h4 h4' hd1 h5 h6 h9 h10
  obtain ⟨R, Rf, hR, hRf⟩ : ∃ R Rf, mNs (mNs ans af bns bf) (mFr ans af bns bf den) cns cf = R ∧ mFr (mNs ans af bns bf) (mFr ans af bns bf den) cns cf den = Rf := ⟨_, _, rfl, rfl⟩
  have C3 : Hid (∀ wx, Calls Try.prog 5 #[.int .i64 (mNs ans af bns bf), .int .i64 (mFr ans af bns bf den), .int .i64 cns, .int .i64 cf, .int .i64 den] wx fun e w' => e = .returned (.tuple #[.int .i64 R, .int .i64 Rf]) ∧ Grown wx w') := fun wx => by
    have := minus_any (mNs ans af bns bf) (mFr ans af bns bf den) cns cf den wx wt1.1 (by omega) h4 h4' hd1 wt1f wt1f' h9 h10
    rw [hR, hRf] at this
    exact this
  have C4 : Hid (∀ wx, Calls Try.prog 5 #[.int .i64 (mNs ans af cns cf), .int .i64 (mFr ans af cns cf den), .int .i64 bns, .int .i64 bf, .int .i64 den] wx fun e w' => e = .returned (.tuple #[.int .i64 R, .int .i64 Rf]) ∧ Grown wx w') := fun wx => by
    have := minus_any (mNs ans af cns cf) (mFr ans af cns cf den) bns bf den wx wt2.1 (by omega) h3 h3' hd1 wt2f wt2f' h7 h8
    rw [(m_swap h1 h3 h4 h5 h6 h7 h8 h9 h10).1, (m_swap h1 h3 h4 h5 h6 h7 h8 h9 h10).2, hR, hRf] at this
    exact this
  obtain ⟨st1, st2⟩ := m_steps h1 h3 h4 h5 h6 h7 h8 h9 h10
  rw [hR] at st1
  rw [hRf] at st2
  obtain ⟨ak, af1, af2⟩ := a_wf h7 h8 h9 h10
  generalize mNs ans af bns bf = t1 at *
  generalize mFr ans af bns bf den = t1f at *
  generalize mNs ans af cns cf = t2 at *
  generalize mFr ans af cns cf den = t2f at *
  clear hR hRf
  have g1 : decide (den ≤ 0) = false := decide_eq_false (by omega)
  have g2 : decide (ans < 0) = false := decide_eq_false (by omega)
  have g3 : decide (bns < 0) = false := decide_eq_false (by omega)
  have g4 : decide (cns < 0) = false := decide_eq_false (by omega)
  have g5 : decide (af < 0) = false := decide_eq_false (by omega)
  have g6 : decide (den ≤ af) = false := decide_eq_false (by omega)
  have g7 : decide (bf < 0) = false := decide_eq_false (by omega)
  have g8 : decide (den ≤ bf) = false := decide_eq_false (by omega)
  have g9 : decide (cf < 0) = false := decide_eq_false (by omega)
  have g10 : decide (den ≤ cf) = false := decide_eq_false (by omega)
  by_cases hok : bns + cns + aCar bf cf den ≤ 9223372036854775807
  · have CA : Hid (∀ wx, Calls Try.prog 8 #[.int .i64 bns, .int .i64 bf, .int .i64 cns, .int .i64 cf, .int .i64 den] wx fun e w' => e = .returned (.tuple #[.int .i64 (bns + cns + aCar bf cf den), .int .i64 (aFr bf cf den), .bool true]) ∧ wx = w') :=
      fun wx => add_ok bns bf cns cf den wx h3 h3' h4 h4' hd1 h7 h8 h9 h10 hok
    have hs0 : 0 ≤ bns + cns + aCar bf cf den := by omega
    generalize bns + cns + aCar bf cf den = sn at *
    generalize aFr bf cf den = sf at *
    have C5 : Hid (∀ wx, Calls Try.prog 5 #[.int .i64 ans, .int .i64 af, .int .i64 sn, .int .i64 sf, .int .i64 den] wx fun e w' => e = .returned (.tuple #[.int .i64 R, .int .i64 Rf]) ∧ Grown wx w') := fun wx => by
      have := minus_any ans af sn sf den wx h1 h2 hs0 hok hd1 h5 h6 af1 af2
      rw [← st1, ← st2] at this
      exact this
    by_cases hl : sn < ans ∨ (sn = ans ∧ sf < af)
    · have CL : Hid (∀ wx, Calls Try.prog 6 #[.int .i64 sn, .int .i64 sf, .int .i64 ans, .int .i64 af] wx fun e w' => e = .returned (.bool true) ∧ wx = w') := fun wx => by
        have := less_any sn sf ans af wx
        rw [(less_iff sn sf ans af).2 hl] at this
        exact this
      obtain ⟨wr, wrf, wrf'⟩ := m_wf h1 hs0 h5 h6 af1 af2
      obtain ⟨b1, b2⟩ := m_back h5 h6 af1 af2 hl
      rw [← st1, ← st2] at b1
      rw [← st2] at b2
      rw [← st1] at wr
      rw [← st2] at wrf wrf'
      have CB : Hid (∀ wx, Calls Try.prog 8 #[.int .i64 R, .int .i64 Rf, .int .i64 sn, .int .i64 sf, .int .i64 den] wx fun e w' => e = .returned (.tuple #[.int .i64 ans, .int .i64 af, .bool true]) ∧ wx = w') := fun wx => by
        have := add_ok R Rf sn sf den wx wr.1 (by omega) hs0 hok hd1 wrf wrf' af1 af2 (by omega)
        rw [b1, b2] at this
        exact this
      have k1 : decide (R < 0) = false := decide_eq_false (by omega)
      have k2 : decide (Rf < 0) = false := decide_eq_false (by omega)
      have k3 : decide (den ≤ Rf) = false := decide_eq_false (by omega)
      clear st1 st2 b1 b2 hl
      go_enter Try.func4, Try.ntmps4
      go_wp2_with fail
      refine (C1.out _).mono ?_
      rintro e w1 ⟨rfl, G1⟩
      go_wp2_with fail
      refine (C3.out _).mono ?_
      rintro e w2 ⟨rfl, G2⟩
      go_wp2_with fail
      refine (C2.out _).mono ?_
      rintro e w3 ⟨rfl, G3⟩
      go_wp2_with fail
      refine (C4.out _).mono ?_
      rintro e w4 ⟨rfl, G4⟩
      go_wp2_with fail
      refine (CA.out _).mono ?_
      rintro e w5 ⟨rfl, rfl⟩
      go_wp2_with fail
      refine (C5.out _).mono ?_
      rintro e w6 ⟨rfl, G6⟩
      go_wp2_with fail
      refine (CL.out _).mono ?_
      rintro e w7 ⟨rfl, rfl⟩
      go_wp2_with fail
      refine (CB.out _).mono ?_
      rintro e w8 ⟨rfl, rfl⟩
      go_wp2
      go_ret
      exact ⟨rfl, grown_then (grown_then (grown_then (grown_then G1 G2) G3) G4) G6⟩
    · have CL : Hid (∀ wx, Calls Try.prog 6 #[.int .i64 sn, .int .i64 sf, .int .i64 ans, .int .i64 af] wx fun e w' => e = .returned (.bool false) ∧ wx = w') := fun wx => by
        have := less_any sn sf ans af wx
        rw [Bool.eq_false_iff.2 (fun h => hl ((less_iff sn sf ans af).1 h))] at this
        exact this
      obtain ⟨b1, b2⟩ := m_zero (den := den) hl
      rw [← st1] at b1
      rw [← st2] at b2
      subst b1 b2
      clear st1 st2 hl
      go_enter Try.func4, Try.ntmps4
      go_wp2_with fail
      refine (C1.out _).mono ?_
      rintro e w1 ⟨rfl, G1⟩
      go_wp2_with fail
      refine (C3.out _).mono ?_
      rintro e w2 ⟨rfl, G2⟩
      go_wp2_with fail
      refine (C2.out _).mono ?_
      rintro e w3 ⟨rfl, G3⟩
      go_wp2_with fail
      refine (C4.out _).mono ?_
      rintro e w4 ⟨rfl, G4⟩
      go_wp2_with fail
      refine (CA.out _).mono ?_
      rintro e w5 ⟨rfl, rfl⟩
      go_wp2_with fail
      refine (C5.out _).mono ?_
      rintro e w6 ⟨rfl, G6⟩
      go_wp2_with fail
      refine (CL.out _).mono ?_
      rintro e w7 ⟨rfl, rfl⟩
      go_wp2
      go_ret
      exact ⟨rfl, grown_then (grown_then (grown_then (grown_then G1 G2) G3) G4) G6⟩
  · have CA : Hid (∀ wx, Calls Try.prog 8 #[.int .i64 bns, .int .i64 bf, .int .i64 cns, .int .i64 cf, .int .i64 den] wx fun e w' => e = .returned (.tuple #[.int .i64 0, .int .i64 0, .bool false]) ∧ wx = w') :=
      fun wx => add_no bns bf cns cf den wx h3 h3' h4 h4' hd1 h7 h8 h9 h10 (by omega)
    obtain ⟨b1, b2⟩ := m_zero (ans := ans) (af := af) (sns := bns + cns + aCar bf cf den) (sf := aFr bf cf den) (den := den) (by omega)
    rw [← st1] at b1
    rw [← st2] at b2
    subst b1 b2
    clear st1 st2 hok
    go_enter Try.func4, Try.ntmps4
    go_wp2_with fail
    refine (C1.out _).mono ?_
    rintro e w1 ⟨rfl, G1⟩
    go_wp2_with fail
    refine (C3.out _).mono ?_
    rintro e w2 ⟨rfl, G2⟩
    go_wp2_with fail
    refine (C2.out _).mono ?_
    rintro e w3 ⟨rfl, G3⟩
    go_wp2_with fail
    refine (C4.out _).mono ?_
    rintro e w4 ⟨rfl, G4⟩
    go_wp2_with fail
    refine (CA.out _).mono ?_
    rintro e w5 ⟨rfl, rfl⟩
    go_wp2
    go_ret
    exact ⟨rfl, grown_then (grown_then (grown_then G1 G2) G3) G4⟩
end Go.Proofs.Qxb6626493a
