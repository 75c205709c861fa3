/-
  diffOK where it says yes; the walk of 'FnSpanMinusUndoneByAdding' at well-formed spans.
-/
import Derived.Test.Qxb6626493aPlain
namespace Go.Proofs.Qxb6626493a
open Go.RowKit
set_option linter.unusedVariables false

set_option maxRecDepth 100000 in
set_option maxHeartbeats 1000000 in
theorem diff_yes (hns hf lns lf den : Int) (w : World) (h1 : 0 ≤ hns) (h2 : hns ≤ 9223372036854775807) (h3 : 0 ≤ lns) (h4 : lns ≤ 9223372036854775807)
    (hd1 : den ≤ 9223372036854775807) (h5 : 0 ≤ hf) (h6 : hf < den) (h7 : 0 ≤ lf) (h8 : lf < den) (hl : lns < hns ∨ (lns = hns ∧ lf < hf)) :
    Calls Try.prog 7 #[.int .i64 hns, .int .i64 hf, .int .i64 lns, .int .i64 lf, .int .i64 (mNs hns hf lns lf), .int .i64 (mFr hns hf lns lf den), .int .i64 den] w fun e w' => e = .returned (.bool true) ∧ Grown w w' := by
  obtain ⟨wr, wrf, wrf'⟩ := m_wf h1 h3 h5 h6 h7 h8
  obtain ⟨b1, b2⟩ := m_back h5 h6 h7 h8 hl
  obtain ⟨u1, u2⟩ := m_undo h1 h3 h5 h6 h7 h8 hl
  generalize mNs hns hf lns lf = d at *
  generalize mFr hns hf lns lf den = df at *
  have CA : Hid (∀ wx, Calls Try.prog 8 #[.int .i64 d, .int .i64 df, .int .i64 lns, .int .i64 lf, .int .i64 den] wx fun e w' => e = .returned (.tuple #[.int .i64 hns, .int .i64 hf, .bool true]) ∧ wx = w') := fun wx => by
    have := add_ok d df lns lf den wx wr.1 (by omega) h3 h4 hd1 wrf wrf' h7 h8 (by omega)
    rw [b1, b2] at this
    exact this
  have CM : Hid (∀ wx, Calls Try.prog 5 #[.int .i64 hns, .int .i64 hf, .int .i64 d, .int .i64 df, .int .i64 den] wx fun e w' => e = .returned (.tuple #[.int .i64 lns, .int .i64 lf]) ∧ Grown wx w') := fun wx => by
    have := minus_any hns hf d df den wx h1 h2 wr.1 (by omega) hd1 h5 h6 wrf wrf'
    rw [u1, u2] at this
    exact this
  have k1 : decide (d < 0) = false := decide_eq_false (by omega)
  have k2 : decide (df < 0) = false := decide_eq_false (by omega)
  have k3 : decide (den ≤ df) = false := decide_eq_false (by omega)
  clear b1 b2 u1 u2 hl
  go_enter Try.func7, Try.ntmps7
  go_wp2_with fail
  refine (CA.out _).mono ?_
  rintro e w1 ⟨rfl, rfl⟩
  go_wp2_with fail
  refine (CM.out _).mono ?_
  rintro e w2 ⟨rfl, G⟩
  go_wp2
  go_ret
  exact ⟨rfl, G⟩

set_option maxRecDepth 100000 in
set_option maxHeartbeats 2000000 in
theorem undone_walk (ans af bns bf den : Int) (w : World) (h1 : 0 ≤ ans) (h2 : ans ≤ 9223372036854775807) (h3 : 0 ≤ bns) (h4 : bns ≤ 9223372036854775807)
    (hd0 : 0 < den) (hd1 : den ≤ 9223372036854775807) (h5 : 0 ≤ af) (h6 : af < den) (h7 : 0 ≤ bf) (h8 : bf < den) :
    Calls Try.prog 3 #[.int .i64 ans, .int .i64 af, .int .i64 bns, .int .i64 bf, .int .i64 den] w fun e w' => e = .returned (.bool true) ∧ Grown w w' := by
  have C1 : Hid (∀ wx, Calls Try.prog 5 #[.int .i64 ans, .int .i64 af, .int .i64 bns, .int .i64 bf, .int .i64 den] wx fun e w' => e = .returned (.tuple #[.int .i64 (mNs ans af bns bf), .int .i64 (mFr ans af bns bf den)]) ∧ Grown wx w') :=
    fun wx => minus_any ans af bns bf den wx h1 h2 h3 h4 hd1 h5 h6 h7 h8
  have C2 : Hid (∀ wx, Calls Try.prog 5 #[.int .i64 bns, .int .i64 bf, .int .i64 ans, .int .i64 af, .int .i64 den] wx fun e w' => e = .returned (.tuple #[.int .i64 (mNs bns bf ans af), .int .i64 (mFr bns bf ans af den)]) ∧ Grown wx w') :=
    fun wx => minus_any bns bf ans af den wx h3 h4 h1 h2 hd1 h7 h8 h5 h6
  have L1 : ∀ o, lessB bns bf ans af = o → Hid (∀ wx, Calls Try.prog 6 #[.int .i64 bns, .int .i64 bf, .int .i64 ans, .int .i64 af] wx fun e w' => e = .returned (.bool o) ∧ wx = w') := fun o ho wx => by
    have := less_any bns bf ans af wx
    rw [ho] at this
    exact this
  have L2 : ∀ o, lessB ans af bns bf = o → Hid (∀ wx, Calls Try.prog 6 #[.int .i64 ans, .int .i64 af, .int .i64 bns, .int .i64 bf] wx fun e w' => e = .returned (.bool o) ∧ wx = w') := fun o ho wx => by
    have := less_any ans af bns bf wx
    rw [ho] at this
    exact this
  have g1 : decide (den ≤ 0) = false := decide_eq_false (by omega)
  have g2 : decide (ans < 0) = false := decide_eq_false (by omega)
  have g3 : decide (bns < 0) = false := decide_eq_false (by omega)
  have g5 : decide (af < 0) = false := decide_eq_false (by omega)
  have g6 : decide (den ≤ af) = false := decide_eq_false (by omega)
  have g7 : decide (bf < 0) = false := decide_eq_false (by omega)
  have g8 : decide (den ≤ bf) = false := decide_eq_false (by omega)
  by_cases hb : bns < ans ∨ (bns = ans ∧ bf < af)
  · have l1 := L1 true ((less_iff bns bf ans af).2 hb)
    obtain ⟨z1, z2⟩ := m_zero (ans := bns) (af := bf) (sns := ans) (sf := af) (den := den) (by omega)
    have D : Hid (∀ wx, Calls Try.prog 7 #[.int .i64 ans, .int .i64 af, .int .i64 bns, .int .i64 bf, .int .i64 (mNs ans af bns bf), .int .i64 (mFr ans af bns bf den), .int .i64 den] wx fun e w' => e = .returned (.bool true) ∧ Grown wx w') :=
      fun wx => diff_yes ans af bns bf den wx h1 h2 h3 h4 hd1 h5 h6 h7 h8 hb
    rw [z1, z2] at C2
    clear z1 z2 hb L1 L2
    generalize mNs ans af bns bf = d at *
    generalize mFr ans af bns bf den = df at *
    go_enter Try.func3, Try.ntmps3
    go_wp2_with fail
    refine (C1.out _).mono ?_
    rintro e w1 ⟨rfl, G1⟩
    go_wp2_with fail
    refine (C2.out _).mono ?_
    rintro e w2 ⟨rfl, G2⟩
    go_wp2_with fail
    refine (l1.out _).mono ?_
    rintro e w3 ⟨rfl, rfl⟩
    go_wp2_with fail
    refine (D.out _).mono ?_
    rintro e w4 ⟨rfl, G4⟩
    go_wp2
    go_ret
    exact ⟨rfl, grown_then (grown_then G1 G2) G4⟩
  · have l1 := L1 false (Bool.eq_false_iff.2 (fun h => hb ((less_iff bns bf ans af).1 h)))
    obtain ⟨z1, z2⟩ := m_zero (ans := ans) (af := af) (sns := bns) (sf := bf) (den := den) hb
    rw [z1, z2] at C1
    by_cases ha : ans < bns ∨ (ans = bns ∧ af < bf)
    · have l2 := L2 true ((less_iff ans af bns bf).2 ha)
      have D : Hid (∀ wx, Calls Try.prog 7 #[.int .i64 bns, .int .i64 bf, .int .i64 ans, .int .i64 af, .int .i64 (mNs bns bf ans af), .int .i64 (mFr bns bf ans af den), .int .i64 den] wx fun e w' => e = .returned (.bool true) ∧ Grown wx w') :=
        fun wx => diff_yes bns bf ans af den wx h3 h4 h1 h2 hd1 h7 h8 h5 h6 ha
      clear z1 z2 hb L1 L2 ha
      generalize mNs bns bf ans af = d at *
      generalize mFr bns bf ans af den = df at *
      go_enter Try.func3, Try.ntmps3
      go_wp2_with fail
      refine (C1.out _).mono ?_
      rintro e w1 ⟨rfl, G1⟩
      go_wp2_with fail
      refine (C2.out _).mono ?_
      rintro e w2 ⟨rfl, G2⟩
      go_wp2_with fail
      refine (l1.out _).mono ?_
      rintro e w3 ⟨rfl, rfl⟩
      go_wp2_with fail
      refine (l2.out _).mono ?_
      rintro e w4 ⟨rfl, rfl⟩
      go_wp2_with fail
      refine (D.out _).mono ?_
      rintro e w5 ⟨rfl, G5⟩
      go_wp2
      go_ret
      exact ⟨rfl, grown_then (grown_then G1 G2) G5⟩
    · have l2 := L2 false (Bool.eq_false_iff.2 (fun h => ha ((less_iff ans af bns bf).1 h)))
      obtain ⟨y1, y2⟩ := m_zero (ans := bns) (af := bf) (sns := ans) (sf := af) (den := den) ha
      rw [y1, y2] at C2
      clear z1 z2 y1 y2 hb L1 L2 ha
      go_enter Try.func3, Try.ntmps3
      go_wp2_with fail
      refine (C1.out _).mono ?_
      rintro e w1 ⟨rfl, G1⟩
      go_wp2_with fail
      refine (C2.out _).mono ?_
      rintro e w2 ⟨rfl, G2⟩
      go_wp2_with fail
      refine (l1.out _).mono ?_
      rintro e w3 ⟨rfl, rfl⟩
      go_wp2_with fail
      refine (l2.out _).mono ?_
      rintro e w4 ⟨rfl, rfl⟩
      go_wp2
      go_ret
      exact ⟨rfl, grown_then G1 G2⟩
end Go.Proofs.Qxb6626493a
