/-
  The capacity of the signer's slice of attributes; the two slices that the law takes besides.
-/
import Derived.Test.Qxb6626885aOpen
import Derived.Test.Qxb6626885aVals
namespace Go.Proofs.Qxb6626885a
open Go.RowKit Go.ChangeShapes Go.WideShapes Go.ChangeAt
section
variable {H : Type} {enc : TypeId × Value → H} {W : World}

set_option maxRecDepth 100000 in
theorem signer_cap {ver : Int} {k1 k2 k3 k4 s k6 k7 k8 u : Sl} {d : DataW H} {p : List MemPlace} (h : DataW.Trod enc Try.prog W 0 (fun _ => true) true 26 (signerV ver k1 k2 k3 k4 s k6 k7 k8 u) d p) : s.n ≤ s.c ∧ s.c ≤ maxLen := by
  obtain ⟨fuel, hf0⟩ := h
  obtain ⟨xs, n, _, _, _, hlen, hf⟩ := DataW.trod_struct Try.underlying26 hf0
  obtain ⟨y5, g5⟩ := trod_get (t := 24) (c := .slice s.a s.n s.c) (cs := (signerV ver k1 k2 k3 k4 s k6 k7 k8 u).cells.toList) hlen hf (by kernel_rfl) 5 rfl rfl rfl
  rcases Deep.open_slice_pairs Try.underlying24 Try.underlying44 (by kernel_rfl) rfl rfl (by kernel_rfl) (by kernel_rfl) g5 with ⟨hcs, _⟩ | ⟨x, l, c, m, n, V0, V1, D0, D1, P0, P1, hcs, _, hl, hm, hmm, _, hx⟩
  · simp only [List.cons.injEq, and_true, Value.slice.injEq] at hcs
    obtain ⟨_, h1, h2⟩ := hcs
    rw [h1, h2]
    exact ⟨Nat.le_refl _, Nat.zero_le _⟩
  · simp only [List.cons.injEq, and_true, Value.slice.injEq] at hcs
    obtain ⟨_, h1, h2⟩ := hcs
    rw [h1, h2]
    exact ⟨hl, hm⟩

theorem open_oid {r : Reach} {b0 : Nat} {v : Value} {d : DataW H} {p : List MemPlace} (hv : Value.okWide Try.prog W r b0 23 v) (h : DataW.Trod enc Try.prog W 0 (fun _ => true) true 23 v d p) :
    ∃ (s : Sl) (A : Nat → Int), v = .slice s.a s.n s.c ∧ Sees W s.a s.n (intsV A) ∧ s.n ≤ maxLen ∧ NilOk s := by
  obtain ⟨a, n, c, rfl⟩ := okWide_slice Try.underlying23 hv
  obtain ⟨fuel, hf⟩ := h
  exact open_ints23 (by simpa [Value.cells] using hf)

theorem open_vs {r : Reach} {b0 : Nat} {v : Value} {d : DataW H} {p : List MemPlace} (hv : Value.okWide Try.prog W r b0 27 v) (h : DataW.Trod enc Try.prog W 0 (fun _ => true) true 27 v d p) :
    ∃ (s : Sl) (B : Nat → Sl) (Y : Nat → Nat → Int), v = .slice s.a s.n s.c ∧ Sees W s.a s.n (slV B) ∧ s.n ≤ maxLen ∧ NilOk s ∧ (∀ j, j < s.n → (B j).n ≤ maxLen) ∧ Bytes W s.n B Y := by
  obtain ⟨a, n, c, rfl⟩ := okWide_slice Try.underlying27 hv
  obtain ⟨fuel, hf⟩ := h
  exact open_vals27 (by simpa [Value.cells] using hf)

theorem good_of {n : Nat} {B : Nat → Sl} {Y : Nat → Nat → Int} (h : Bytes W n B Y) (hl : ∀ j, j < n → (B j).n ≤ maxLen) : ∀ j, j < n → GoodV W (slV B j) := fun j hj => ⟨B j, rfl, hl j hj, Y j, h j hj⟩
end
end Go.Proofs.Qxb6626885a
