/-
  'Rows.FnSignedAttrInsertAnywhereSaid': the frame after the guide's shell for a law over slices; the walk is insert_walk.
-/
import Derived.Test.Qxb6626885aRows
import Derived.Test.Qxb6626885aInsert
import Derived.Test.Qxb6626885aOpenCap
namespace Go.Proofs.Qxb6626885a.fnSignedAttrInsertAnywhere
open Go.ChangeShapes Go.WideShapes Go.ChangeAt Go.RowKit
set_option linter.unusedVariables false

theorem own : ownKnob Try.prog.godebug = none := by kernel_rfl
theorem laidOut : laidOutB Try.prog = true := by kernel_rfl

set_option maxRecDepth 100000 in
theorem lifted (os : Os) (started : os.Started) (H : Type) (enc : TypeId × Value → H) :
    ReturnsInHanded {} Try.checked os 3 .any (Rows.fnSignedAttrInsertAnywhereSpec.pre6 enc Try.prog Try.f3 Rows.fnSignedAttrInsertAnywhereRow.domain false) (Rows.fnSignedAttrInsertAnywhereSpec.post enc Try.prog Try.f3 false true false false) := by
  refine returnsInHanded_of_change (C := Try.checked) own started (by kernel_rfl) Try.func3
    (ChangeSpec.witness6 (enc := enc) (C := Try.checked) false ⟨#[], #[.agg #[.int .i64 0, .slice none 0 0, .slice none 0 0, .slice none 0 0, .slice none 0 0, .slice none 0 0, .slice none 0 0, .slice none 0 0, .slice none 0 0, .slice none 0 0], .int .i64 0, .slice none 0 0, .slice none 0 0], []⟩ 8 (by kernel_rfl) (by kernel_rfl) (by kernel_rfl) (by kernel_rfl)) ?_
  intro W base args ds gs before hval0 hW hcnd _
  have hval : ∀ (j : Nat) t v, Try.f3.params[j]? = some t → args[j]? = some v → Value.okWide Try.prog W .any base t v := hval0
  have hW' := hW
  obtain ⟨p, q, hA0, hV, rfl, hfz, hnd⟩ := hW
  have hA : DataW.TrodAll enc Try.prog W 0 (fun _ => true) true Try.f3.params.toList args.toList ds p := hA0
  rw [Try.params3] at hA hval
  obtain ⟨v0, vs0, d0, ds0, p0, q0, hargs, rfl, rfl, h0, r0⟩ := trodAll_cons hA
  obtain ⟨v1, vs1, d1, ds1, p1, q1, rfl, rfl, rfl, h1, r1⟩ := trodAll_cons r0
  obtain ⟨v2, vs2, d2, ds2, p2, q2, rfl, rfl, rfl, h2, r2⟩ := trodAll_cons r1
  obtain ⟨v3, vs3, d3, ds3, p3, q3, rfl, rfl, rfl, h3, r3⟩ := trodAll_cons r2
  obtain ⟨rfl, rfl, rfl⟩ := trodAll_nil r3
  obtain rfl : args = #[v0, v1, v2, v3] := by cases args; simp_all
  obtain ⟨rfl, rfl⟩ := trodVars_none hV
  have lt0 : ∀ x ∈ p0, x.block < W.heap.size := by obtain ⟨m, hm⟩ := h0; exact DataW.trod_lt m _ _ _ hm
  have lt2 : ∀ x ∈ p2, x.block < W.heap.size := by obtain ⟨m, hm⟩ := h2; exact DataW.trod_lt m _ _ _ hm
  have lt3 : ∀ x ∈ p3, x.block < W.heap.size := by obtain ⟨m, hm⟩ := h3; exact DataW.trod_lt m _ _ _ hm
  obtain ⟨ver, k1, k2, k3, k4, s, k6, k7, k8, u, T, V, T', V', TI, TI', B, B', Y, rfl, gA, gU, ls, lu, l1, l2, l3, l4, l6, l7, l8, ns, nu, nv, hY⟩ := open_signer (hval 0 26 v0 rfl rfl) h0
  obtain ⟨hsc, hscm⟩ := signer_cap h0
  obtain ⟨z, rfl, rfl, rfl, hz⟩ := open_int Try.underlying3 (hval 1 3 v1 rfl rfl) h1
  obtain ⟨o, O, rfl, gO, lo, _⟩ := open_oid (hval 2 23 v2 rfl rfl) h2
  obtain ⟨x, X, YX, rfl, gX, lx, nx, lX, bX⟩ := open_vs (hval 3 27 v3 rfl rfl) h3
  clear hA0 hval0
  refine (insert_walk ver k1 k2 k3 k4 k6 k7 k8 s.a u.a o.a x.a s.n s.c u.n u.c o.n o.c x.n x.c z T V T' V' TI TI' B B' O X W gA gU ls lu l1 l2 l3 l4 l6 l7 l8 hsc hscm ns (fun h => (nu h).1) (fun i hi h => nv i hi h) gO lo gX lx lX nx
    (fun i hi => good_of (hY i hi) (gA.bl i hi)) (good_of bX lX)).mono fun e W' ⟨he, bel⟩ => ?_
  subst he
  exact ⟨_, rfl, _, _, _, [], _, [], hW', trodAll_mk1 (shut_bool Try.underlying4 _),
    (trodAll_cons_mk (Below.trod laidOut (by kernel_rfl) (of_decide_eq_true (by kernel_rfl)) h0 bel lt0)
      (trodAll_cons_mk (shut_int Try.underlying3 hz)
        (trodAll_cons_mk (Below.trod laidOut (by kernel_rfl) (of_decide_eq_true (by kernel_rfl)) h2 bel lt2)
          (trodAll_cons_mk (Below.trod laidOut (by kernel_rfl) (of_decide_eq_true (by kernel_rfl)) h3 bel lt3) trodAll_mk0)))), rfl, bel.frame _, fun h => by cases h⟩

theorem over : Rows.fnSignedAttrInsertAnywhereRow.holds Try.pinned (OpenSpec.ofChange Rows.fnSignedAttrInsertAnywhereSpec) :=
  OpenClaim.holds_of_wide 3 Try.f3 rfl rfl rfl rfl rfl rfl rfl ⟨rfl, rfl, rfl, rfl, rfl⟩ rfl rfl rfl rfl rfl (by kernel_rfl) Try.func3 (by kernel_rfl)
    (of_decide_eq_true (by kernel_rfl)) (by unfold Func.isWrapper; first | (rw [if_pos (by decide +kernel)]; kernel_rfl) | (rw [if_neg (by decide +kernel)]; exact ⟨rfl, rfl⟩))
    (fun os started H enc _ => lifted os started H enc)

/-- THE STATEMENT -/
theorem proved : Rows.FnSignedAttrInsertAnywhereSaid := over
end Go.Proofs.Qxb6626885a.fnSignedAttrInsertAnywhere
