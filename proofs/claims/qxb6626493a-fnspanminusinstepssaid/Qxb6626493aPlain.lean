/-
  The plain laws on spans: no Go in sight.
-/
import Derived.Test.Qxb6626493aSpan
namespace Go.Proofs.Qxb6626493a
set_option linter.unusedVariables false

theorem m_wf {ans af bns bf den : Int} (h1 : 0 ≤ ans) (h3 : 0 ≤ bns) (h5 : 0 ≤ af) (h6 : af < den) (h7 : 0 ≤ bf) (h8 : bf < den) :
    (0 ≤ mNs ans af bns bf ∧ mNs ans af bns bf ≤ ans) ∧ 0 ≤ mFr ans af bns bf den ∧ mFr ans af bns bf den < den := by
  unfold mNs mFr
  split
  · omega
  · split <;> omega

/-- What a less b is, by cases. -/
theorem m_cases (ans af bns bf den : Int) :
    ((ans < bns ∨ (ans = bns ∧ af ≤ bf)) ∧ mNs ans af bns bf = 0 ∧ mFr ans af bns bf den = 0) ∨
    ((¬ (ans < bns ∨ (ans = bns ∧ af ≤ bf)) ∧ af < bf) ∧ mNs ans af bns bf = ans - bns - 1 ∧ mFr ans af bns bf den = af - bf + den) ∨
    ((¬ (ans < bns ∨ (ans = bns ∧ af ≤ bf)) ∧ ¬ af < bf) ∧ mNs ans af bns bf = ans - bns ∧ mFr ans af bns bf den = af - bf) := by
  unfold mNs mFr
  by_cases h : ans < bns ∨ (ans = bns ∧ af ≤ bf)
  · exact .inl ⟨h, by rw [if_pos h], by rw [if_pos h]⟩
  · by_cases k : af < bf
    · exact .inr (.inl ⟨⟨h, k⟩, by rw [if_neg h, if_pos k], by rw [if_neg h, if_pos k]⟩)
    · exact .inr (.inr ⟨⟨h, k⟩, by rw [if_neg h, if_neg k], by rw [if_neg h, if_neg k]⟩)

theorem a_cases (xf yf den : Int) : (den - yf ≤ xf ∧ aCar xf yf den = 1 ∧ aFr xf yf den = xf - (den - yf)) ∨ (¬ den - yf ≤ xf ∧ aCar xf yf den = 0 ∧ aFr xf yf den = xf + yf) := by
  unfold aCar aFr
  by_cases h : den - yf ≤ xf
  · exact .inl ⟨h, by rw [if_pos h], by rw [if_pos h]⟩
  · exact .inr ⟨h, by rw [if_neg h], by rw [if_neg h]⟩

theorem less_iff (xns xf yns yf : Int) : lessB xns xf yns yf = true ↔ (xns < yns ∨ (xns = yns ∧ xf < yf)) := by
  unfold lessB; exact decide_eq_true_iff

/-- b then c, as b and c at once. -/
theorem m_steps {ans af bns bf cns cf den : Int} (h1 : 0 ≤ ans) (h3 : 0 ≤ bns) (h4 : 0 ≤ cns) (h5 : 0 ≤ af) (h6 : af < den) (h7 : 0 ≤ bf) (h8 : bf < den) (h9 : 0 ≤ cf) (h10 : cf < den) :
    mNs (mNs ans af bns bf) (mFr ans af bns bf den) cns cf = mNs ans af (bns + cns + aCar bf cf den) (aFr bf cf den) ∧
    mFr (mNs ans af bns bf) (mFr ans af bns bf den) cns cf den = mFr ans af (bns + cns + aCar bf cf den) (aFr bf cf den) den := by
  have a := a_cases bf cf den
  generalize aCar bf cf den = k at *
  generalize aFr bf cf den = f at *
  have m := m_cases ans af bns bf den
  generalize mNs ans af bns bf = x at *
  generalize mFr ans af bns bf den = y at *
  have m1 := m_cases x y cns cf den
  have m2 := m_cases ans af (bns + cns + k) f den
  generalize mNs x y cns cf = x1 at *
  generalize mFr x y cns cf den = y1 at *
  generalize mNs ans af (bns + cns + k) f = x2 at *
  generalize mFr ans af (bns + cns + k) f den = y2 at *
  rcases a with ⟨q, e1, e2⟩ | ⟨q, e1, e2⟩ <;> rcases m with ⟨p, e3, e4⟩ | ⟨⟨p, p'⟩, e3, e4⟩ | ⟨⟨p, p'⟩, e3, e4⟩ <;> rcases m1 with ⟨p1, e5, e6⟩ | ⟨⟨p1, p1'⟩, e5, e6⟩ | ⟨⟨p1, p1'⟩, e5, e6⟩ <;> rcases m2 with ⟨p2, e7, e8⟩ | ⟨⟨p2, p2'⟩, e7, e8⟩ | ⟨⟨p2, p2'⟩, e7, e8⟩ <;> omega

theorem a_comm (bf cf den : Int) : aCar bf cf den = aCar cf bf den ∧ aFr bf cf den = aFr cf bf den := by
  have a := a_cases bf cf den
  have b := a_cases cf bf den
  omega

/-- c then b gives the same. -/
theorem m_swap {ans af bns bf cns cf den : Int} (h1 : 0 ≤ ans) (h3 : 0 ≤ bns) (h4 : 0 ≤ cns) (h5 : 0 ≤ af) (h6 : af < den) (h7 : 0 ≤ bf) (h8 : bf < den) (h9 : 0 ≤ cf) (h10 : cf < den) :
    mNs (mNs ans af cns cf) (mFr ans af cns cf den) bns bf = mNs (mNs ans af bns bf) (mFr ans af bns bf den) cns cf ∧
    mFr (mNs ans af cns cf) (mFr ans af cns cf den) bns bf den = mFr (mNs ans af bns bf) (mFr ans af bns bf den) cns cf den := by
  obtain ⟨a, b⟩ := m_steps h1 h3 h4 h5 h6 h7 h8 h9 h10
  obtain ⟨c, d⟩ := m_steps h1 h4 h3 h5 h6 h9 h10 h7 h8
  obtain ⟨e, f⟩ := a_comm bf cf den
  rw [a, b, c, d, e, f, Int.add_comm bns cns]
  exact ⟨rfl, rfl⟩

/-- Nothing is left where what is taken is as long or longer. -/
theorem m_zero {ans af sns sf den : Int} (h : ¬ (sns < ans ∨ (sns = ans ∧ sf < af))) : mNs ans af sns sf = 0 ∧ mFr ans af sns sf den = 0 := by
  rcases m_cases ans af sns sf den with ⟨_, e1, e2⟩ | ⟨⟨p, _⟩, _, _⟩ | ⟨⟨p, _⟩, _, _⟩
  · exact ⟨e1, e2⟩
  · omega
  · omega

/-- What is left and what was taken add up. -/
theorem m_back {ans af sns sf den : Int} (h5 : 0 ≤ af) (h6 : af < den) (h7 : 0 ≤ sf) (h8 : sf < den) (h : sns < ans ∨ (sns = ans ∧ sf < af)) :
    mNs ans af sns sf + sns + aCar (mFr ans af sns sf den) sf den = ans ∧ aFr (mFr ans af sns sf den) sf den = af := by
  have m := m_cases ans af sns sf den
  have a := a_cases (mFr ans af sns sf den) sf den
  generalize aCar (mFr ans af sns sf den) sf den = k at *
  generalize aFr (mFr ans af sns sf den) sf den = f at *
  generalize mNs ans af sns sf = x at *
  generalize mFr ans af sns sf den = y at *
  rcases m with ⟨p, e3, e4⟩ | ⟨⟨p, p'⟩, e3, e4⟩ | ⟨⟨p, p'⟩, e3, e4⟩ <;> rcases a with ⟨q, e1, e2⟩ | ⟨q, e1, e2⟩ <;> omega

/-- The longer less the difference is the shorter. -/
theorem m_undo {ans af sns sf den : Int} (h1 : 0 ≤ ans) (h3 : 0 ≤ sns) (h5 : 0 ≤ af) (h6 : af < den) (h7 : 0 ≤ sf) (h8 : sf < den) (h : sns < ans ∨ (sns = ans ∧ sf < af)) :
    mNs ans af (mNs ans af sns sf) (mFr ans af sns sf den) = sns ∧ mFr ans af (mNs ans af sns sf) (mFr ans af sns sf den) den = sf := by
  have m := m_cases ans af sns sf den
  generalize mNs ans af sns sf = x at *
  generalize mFr ans af sns sf den = y at *
  have m1 := m_cases ans af x y den
  generalize mNs ans af x y = x1 at *
  generalize mFr ans af x y den = y1 at *
  rcases m with ⟨p, e3, e4⟩ | ⟨⟨p, p'⟩, e3, e4⟩ | ⟨⟨p, p'⟩, e3, e4⟩ <;> rcases m1 with ⟨p1, e5, e6⟩ | ⟨⟨p1, p1'⟩, e5, e6⟩ | ⟨⟨p1, p1'⟩, e5, e6⟩ <;> omega

theorem a_wf {xf yf den : Int} (h5 : 0 ≤ xf) (h6 : xf < den) (h7 : 0 ≤ yf) (h8 : yf < den) : (0 ≤ aCar xf yf den ∧ aCar xf yf den ≤ 1) ∧ 0 ≤ aFr xf yf den ∧ aFr xf yf den < den := by
  have a := a_cases xf yf den
  rcases a with ⟨q, e1, e2⟩ | ⟨q, e1, e2⟩ <;> omega
end Go.Proofs.Qxb6626493a
