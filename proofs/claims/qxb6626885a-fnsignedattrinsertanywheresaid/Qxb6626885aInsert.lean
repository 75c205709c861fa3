/-
  The walk of 'FnSignedAttrInsertAnywhere'.
-/
import Derived.Test.Qxb6626885aBytes5
import Derived.Test.Qxb6626885aInsPlain
import Derived.Test.Qxb6626885aPart
import Derived.Outline
namespace Go.Proofs.Qxb6626885a
open Go.RowKit

/-- The attributes' cells as a list: two each. -/
def acl (T V : Nat → Sl) : Nat → List Value
  | 0 => []
  | k + 1 => acl T V k ++ [.slice (T k).a (T k).n (T k).c, .slice (V k).a (V k).n (V k).c]
theorem acl_length (T V : Nat → Sl) (k : Nat) : (acl T V k).length = k * 2 := by
  induction k with
  | zero => rfl
  | succ k ih => rw [acl, List.length_append, ih, Nat.add_mul]; rfl
theorem acl_congr {T V T' V' : Nat → Sl} {k : Nat} (h : ∀ i, i < k → T i = T' i ∧ V i = V' i) : acl T V k = acl T' V' k := by
  induction k with
  | zero => rfl
  | succ k ih => rw [acl, acl, ih (fun i hi => h i (by omega)), (h k (by omega)).1, (h k (by omega)).2]
theorem acl_get {T V : Nat → Sl} {k i : Nat} (hi : i < k) : (acl T V k)[i * 2]? = some (.slice (T i).a (T i).n (T i).c) ∧ (acl T V k)[i * 2 + 1]? = some (.slice (V i).a (V i).n (V i).c) := by
  induction k with
  | zero => omega
  | succ k ih =>
    rw [acl]
    by_cases e : i < k
    · rw [List.getElem?_append_left (by rw [acl_length]; omega), List.getElem?_append_left (by rw [acl_length]; omega)]
      exact ih e
    · obtain rfl : i = k := by omega
      rw [List.getElem?_append_right (by rw [acl_length]; omega), List.getElem?_append_right (by rw [acl_length]; omega), acl_length, Nat.sub_self, show i * 2 + 1 - i * 2 = 1 from by omega]
      exact ⟨rfl, rfl⟩

theorem own_sees {w : World} {base g n cap : Nat} {T V : Nat → Sl} (h : w.ownsRow base 34 2 (.slice (some ⟨g, 0, none⟩) n cap) n (acl T V n)) : SeesA w (some ⟨g, 0, none⟩) n T V := by
  refine ⟨g, 0, fun _ => rfl, fun i hi => ?_⟩
  rw [Nat.zero_add, h.cellAt (i * 2) (by omega), h.cellAt (i * 2 + 1) (by omega)]
  exact acl_get hi

theorem two_new (w : World) (x y : Value) (t : TypeId) : ∀ j u, [x, y][j]? = some u → (w.alloc (.cells #[x, y] t)).cell? ((⟨w.heap.size, 0, none⟩ : Addr).add j) = some u := by
  intro j u h
  rw [WideShapes.add_plain, Nat.zero_add]
  match j, h with
  | 0, h => simp at h; subst h; simp
  | 1, h => simp at h; subst h; simp

theorem two_one (x y : Sl) : ∀ u ∈ [Value.slice x.a x.n x.c, .slice y.a y.n y.c], u.oneCell' = true := fun u hu => by
  simp only [List.mem_cons, List.not_mem_nil, or_false] at hu
  rcases hu with rfl | rfl <;> rfl

/-- The first part of a slice of attributes, and the rest. -/
theorem SeesA.left {w : World} {a : Option Addr} {n : Nat} {T V : Nat → Sl} (h : SeesA w a n T V) {p : Nat} (hp : p ≤ n) : SeesA w a p T V := by
  obtain ⟨b, o, h1, h2⟩ := h
  exact ⟨b, o, fun hp0 => h1 (by omega), fun i hi => h2 i (by omega)⟩
theorem SeesA.right {w : World} {b o n : Nat} {T V : Nat → Sl} (h : SeesA w (some ⟨b, o, none⟩) n T V) {p : Nat} (hp : p < n) : SeesA w (some ⟨b, o + p * 2, none⟩) (n - p) (fun i => T (p + i)) (fun i => V (p + i)) := by
  obtain ⟨b', o', h1, h2⟩ := h
  have e := h1 (by omega)
  simp only [Option.some.injEq, Addr.mk.injEq, and_true] at e
  obtain ⟨rfl, rfl⟩ := e
  refine ⟨b, o + p * 2, fun _ => rfl, fun i hi => ?_⟩
  have := h2 (p + i) (by omega)
  rw [show o + (p + i) * 2 = o + p * 2 + i * 2 from by omega] at this
  exact this
theorem SeesA.none (w : World) (a : Option Addr) (T V : Nat → Sl) : SeesA w a 0 T V := ⟨0, 0, fun h => absurd h (by omega), fun i hi => absurd hi (by omega)⟩

theorem Attrs.left {w : World} {a la : Option Addr} {n : Nat} {T V : Nat → Sl} {TI : Nat → Nat → Int} {B : Nat → Nat → Sl} (h : Attrs w a n T V TI B) {p : Nat} (hp : p ≤ n) (hl : SeesA w la p T V) : Attrs w la p T V TI B :=
  ⟨hl, fun i hi => h.ty i (by omega), fun i hi => h.va i (by omega), fun i hi => h.tl i (by omega), fun i hi => h.vl i (by omega), fun i hi => h.bl i (by omega)⟩
theorem Attrs.right {w : World} {a ra : Option Addr} {n : Nat} {T V : Nat → Sl} {TI : Nat → Nat → Int} {B : Nat → Nat → Sl} (h : Attrs w a n T V TI B) {p r : Nat} (hr : p + r = n) (hl : SeesA w ra r (fun i => T (p + i)) (fun i => V (p + i))) :
    Attrs w ra r (fun i => T (p + i)) (fun i => V (p + i)) (fun i => TI (p + i)) (fun i => B (p + i)) :=
  ⟨hl, fun i hi => h.ty (p + i) (by omega), fun i hi => h.va (p + i) (by omega), fun i hi => h.tl (p + i) (by omega), fun i hi => h.vl (p + i) (by omega), fun i hi => h.bl (p + i) (by omega)⟩

/-- The whole: one more attribute at p. -/
theorem Attrs.whole {w : World} {a wa : Option Addr} {n : Nat} {T V : Nat → Sl} {TI : Nat → Nat → Int} {B : Nat → Nat → Sl} (h : Attrs w a n T V TI B) {p : Nat} (hp : p ≤ n) {cl x : Sl} {O : Nat → Int} {X : Nat → Sl}
    (hcl : Sees w cl.a cl.n (intsV O)) (hx : Sees w x.a x.n (slV X)) (hcn : cl.n ≤ maxLen) (hxn : x.n ≤ maxLen) (hX : ∀ j, j < x.n → (X j).n ≤ maxLen) (hs : SeesA w wa (n + 1) (insAt p cl T) (insAt p x V)) :
    Attrs w wa (n + 1) (insAt p cl T) (insAt p x V) (insAt p O TI) (insAt p X B) := by
  have key : ∀ i, i < n + 1 → (i < p ∧ i < n) ∨ i = p ∨ ∃ j, i = p + 1 + j ∧ p + j < n := fun i hi => by
    rcases Nat.lt_trichotomy i p with e | e | e
    · exact .inl ⟨e, by omega⟩
    · exact .inr (.inl e)
    · exact .inr (.inr ⟨i - (p + 1), by omega, by omega⟩)
  refine ⟨hs, fun i hi => ?_, fun i hi => ?_, fun i hi => ?_, fun i hi => ?_, fun i hi => ?_⟩ <;> rcases key i hi with ⟨e, e'⟩ | e | ⟨j, e, e'⟩
  · rw [insAt_lt e, insAt_lt e]; exact h.ty i e'
  · subst e; rw [insAt_at, insAt_at]; exact hcl
  · subst e; rw [insAt_gt, insAt_gt]; exact h.ty _ e'
  · rw [insAt_lt e, insAt_lt e]; exact h.va i e'
  · subst e; rw [insAt_at, insAt_at]; exact hx
  · subst e; rw [insAt_gt, insAt_gt]; exact h.va _ e'
  · rw [insAt_lt e]; exact h.tl i e'
  · subst e; rw [insAt_at]; exact hcn
  · subst e; rw [insAt_gt]; exact h.tl _ e'
  · rw [insAt_lt e]; exact h.vl i e'
  · subst e; rw [insAt_at]; exact hxn
  · subst e; rw [insAt_gt]; exact h.vl _ e'
  · rw [insAt_lt e, insAt_lt e]; exact h.bl i e'
  · subst e; rw [insAt_at, insAt_at]; exact hX
  · subst e; rw [insAt_gt, insAt_gt]; exact h.bl _ e'

/-- What SignedAttr hands back, by an index function. -/
def sigPostN (N : Nat) (C : Nat → Sl) (w : World) (e : Ending) (w' : World) : Prop :=
  ∃ ra rc, e = .returned (.slice ra N rc) ∧ (ra = none ↔ N = 0) ∧ Sees w' ra N (slV C) ∧ Below w.heap.size w w'
theorem sigPostN_of {N : Nat} {C : Nat → Sl} {w w' : World} {e : Ending} (h : sigPost (valsOf N C) w e w') : sigPostN N C w e w' := by
  obtain ⟨ra, rc, h1, h2, ⟨b, o, h3, h4⟩, h5⟩ := h
  rw [valsOf_length] at h1 h3 h4
  refine ⟨ra, rc, h1, h2.trans (by rw [← List.length_eq_zero_iff, valsOf_length]), ⟨b, o, h3, fun i hi => ?_⟩, h5⟩
  rw [h4 i hi]
  simp [valsOf, List.getElem?_range hi]

theorem own_keep {w w' : World} {base e size n : Nat} {v : Value} {xs : List Value} (h : w.ownsRow base e size v n xs) (hb : Below w.heap.size w w') : w'.ownsRow base e size v n xs := by
  obtain ⟨h0, h⟩ := h
  rcases h with ⟨rfl, h1⟩ | ⟨g, cap, cur, rfl, h1, h2, h3⟩
  · exact ⟨h0, .inl ⟨rfl, h1⟩⟩
  · exact ⟨h0, .inr ⟨g, cap, cur, rfl, h1, below_block hb h2, h3⟩⟩

theorem Sees.grown {w w' : World} {b n g : Nat} {f : Nat → Value} (h : Sees w (some ⟨b, 0, Option.none⟩) n f) (hg : w.grownBy w' (some g)) (hne : b ≠ g) : Sees w' (some ⟨b, 0, Option.none⟩) n f := by
  obtain ⟨b', o', h1, h2⟩ := h
  refine ⟨b', o', h1, fun i hi => ?_⟩
  have e := h1 (by omega)
  simp only [Option.some.injEq, Addr.mk.injEq, and_true] at e
  have hlt : b' < w.heap.size := World.block_lt_of_cell? _ _ (h2 i hi)
  rw [World.cell?_of_block (w := w) (a := ⟨b', o' + i, Option.none⟩) (hg.block b' hlt (fun h => hne (by rw [e.1]; exact Option.some.inj h)))]
  exact h2 i hi

theorem own_lt {w : World} {base e size n g cap : Nat} {xs : List Value} (h : w.ownsRow base e size (.slice (some ⟨g, 0, none⟩) n cap) n xs) : g < w.heap.size := by
  obtain ⟨h0, h⟩ := h
  rcases h with ⟨h1, _⟩ | ⟨g', cap', cur, h1, _, h2, _⟩
  · cases h1
  · cases h1
    obtain ⟨hlt, _⟩ := Array.getElem?_eq_some_iff.1 h2
    exact hlt

theorem acl_ins (T V : Nat → Sl) (p : Nat) (cl x : Sl) : acl (insAt p cl T) (insAt p x V) (p + 1) = acl T V p ++ [.slice cl.a cl.n cl.c, .slice x.a x.n x.c] := by
  rw [acl, insAt_at, insAt_at, acl_congr (T' := T) (V' := V) (fun i hi => ⟨insAt_lt hi, insAt_lt hi⟩)]
theorem acl_step (T V : Nat → Sl) (p : Nat) (cl x : Sl) (k : Nat) : acl (insAt p cl T) (insAt p x V) (p + 1 + (k + 1)) = acl (insAt p cl T) (insAt p x V) (p + 1 + k) ++ [.slice (T (p + k)).a (T (p + k)).n (T (p + k)).c, .slice (V (p + k)).a (V (p + k)).n (V (p + k)).c] := by
  rw [← Nat.add_assoc (p + 1) k 1, acl, insAt_gt, insAt_gt]

/-- What the three calls of SignedAttr hand back behind the building of the whole. -/
structure Three (w : World) (la ra wa oa : Option Addr) (p lc rn rc wn wc on oc nL N nR xn : Nat) (CL X CR CW : Nat → Sl) : Prop where
  L : ∀ wx b, Below w.heap.size w wx → wx.cell? ⟨b, 5, none⟩ = some (.slice la p lc) → Calls Try.prog 10 #[.pointer (some ⟨b, 0, none⟩), .slice oa on oc] wx fun e w' => sigPostN nL CL wx e w'
  R : ∀ wx b, Below w.heap.size w wx → wx.cell? ⟨b, 5, none⟩ = some (.slice ra rn rc) → Calls Try.prog 10 #[.pointer (some ⟨b, 0, none⟩), .slice oa on oc] wx fun e w' => sigPostN nR CR wx e w'
  W : ∀ wx b, Below w.heap.size w wx → wx.cell? ⟨b, 5, none⟩ = some (.slice wa wn wc) → Calls Try.prog 10 #[.pointer (some ⟨b, 0, none⟩), .slice oa on oc] wx fun e w' => sigPostN N CW wx e w'
  C : ∀ wx a1 c1 a2 c2 a3 c3, Sees wx a1 nL (slV CL) → Sees wx a2 xn (slV X) → Sees wx a3 nR (slV CR) → Calls Try.prog 11 #[.slice a1 nL c1, .slice a2 xn c2, .slice a3 nR c3] wx fun e w' => catPost N CW wx e w'
  E : ∀ wx a b c d, Below w.heap.size w wx → Sees wx a N (slV CW) → Sees wx b N (slV CW) → Calls Try.prog 12 #[.slice a N c, .slice b N d] wx fun e w' => e = .returned (.bool true) ∧ Drawn wx w'
  bN : N ≤ maxLen

theorem three_of {w : World} {a la ra wa oa : Option Addr} {n p lc rn rc wc on oc : Nat} {T V : Nat → Sl} {TI : Nat → Nat → Int} {B : Nat → Nat → Sl} {cl x : Sl} {O : Nat → Int} {X : Nat → Sl}
    (hA : Attrs w a n T V TI B) (hr : p + rn = n) (hn : n ≤ 1048576) (hL : SeesA w la p T V) (hR : SeesA w ra rn (fun i => T (p + i)) (fun i => V (p + i))) (hW : SeesA w wa (n + 1) (insAt p cl T) (insAt p x V))
    (hO : Sees w oa on (intsV O)) (hon : on ≤ maxLen) (hcl : Sees w cl.a cl.n (intsV O)) (hcln : cl.n = on) (hX : Sees w x.a x.n (slV X)) (hxn : x.n ≤ 1048576) (hXn : ∀ j, j < x.n → (X j).n ≤ maxLen) (hxa : x.a = none → x.n = 0 ∧ x.c = 0)
    (hV : ∀ i, i < n → (V i).n ≤ 1048576) (hVn : ∀ i, i < n → (V i).a = none → (V i).n = 0 ∧ (V i).c = 0)
    (hGB : ∀ i, i < n → ∀ j, j < (V i).n → GoodV w (slV (B i) j)) (hGX : ∀ j, j < x.n → GoodV w (slV X j)) :
    ∃ nL N nR CL CR CW, Three w la ra wa oa p lc rn rc (n + 1) wc on oc nL N nR x.n CL X CR CW := by
  obtain ⟨nL, CL, hL1, hL2, hL3⟩ := gath_vals (fun i => eqI (T i).n on (TI i) O) V B p (fun i hi => hV i (by omega))
  obtain ⟨nR, CR, hR1, hR2, hR3⟩ := gath_vals (fun i => eqI (T (p + i)).n on (TI (p + i)) O) (fun i => V (p + i)) (fun i => B (p + i)) rn (fun i hi => hV (p + i) (by omega))
  have hW1 := gath_insert T V TI B O on cl x X p rn hcln
  have hw : p + 1 + rn = n + 1 := by omega
  rw [hw, hL1, hR1, ← valsOf_cat] at hW1
  have key : ∀ i, i < n + 1 → (i < p ∧ i < n) ∨ i = p ∨ ∃ j, i = p + 1 + j ∧ p + j < n := fun i hi => by
    rcases Nat.lt_trichotomy i p with e | e | e
    · exact .inl ⟨e, by omega⟩
    · exact .inr (.inl e)
    · exact .inr (.inr ⟨i - (p + 1), by omega, by omega⟩)
  have hV' : ∀ i, i < n + 1 → (insAt p x V i).n ≤ 1048576 := fun i hi => by
    rcases key i hi with ⟨e, e'⟩ | e | ⟨j, e, e'⟩
    · rw [insAt_lt e]; exact hV i e'
    · subst e; rw [insAt_at]; exact hxn
    · subst e; rw [insAt_gt]; exact hV _ e'
  have hVn' : ∀ i, i < n + 1 → (insAt p x V i).a = none → (insAt p x V i).n = 0 ∧ (insAt p x V i).c = 0 := fun i hi => by
    rcases key i hi with ⟨e, e'⟩ | e | ⟨j, e, e'⟩
    · rw [insAt_lt e]; exact hVn i e'
    · subst e; rw [insAt_at]; exact hxa
    · subst e; rw [insAt_gt]; exact hVn _ e'
  have hG : ∀ i, i < nL + x.n + nR → GoodV w (slV (catB nL x.n CL X CR) i) := fun i hi => by
    show GoodV w (.slice (catB nL x.n CL X CR i).a (catB nL x.n CL X CR i).n (catB nL x.n CL X CR i).c)
    unfold catB
    by_cases e1 : i < nL
    · obtain ⟨j, m, g1, g2, g3⟩ := hL3 i e1
      rw [if_pos e1, g3]
      exact hGB j (by omega) m g2
    · rw [if_neg e1]
      by_cases e2 : i < nL + x.n
      · rw [if_pos e2]
        exact hGX _ (by omega)
      · rw [if_neg e2]
        obtain ⟨j, m, g1, g2, g3⟩ := hR3 (i - nL - x.n) (by omega)
        rw [g3]
        exact hGB (p + j) (by omega) m g2
  have hb : nL + x.n + nR ≤ maxLen := by unfold maxLen; omega
  refine ⟨nL, nL + x.n + nR, nR, CL, CR, catB nL x.n CL X CR, ?_, ?_, ?_, ?_, ?_, hb⟩
  · intro wx b hB hc
    have := signed_any b la p lc oa on oc T V TI B O wx hc ((hA.keep hB).left (by omega) (hL.keep hB)) (hO.keep hB) hon (by omega) (fun i hi => hV i (by omega)) (fun i hi => hVn i (by omega))
    rw [hL1] at this
    exact this.mono (fun _ _ h => sigPostN_of h)
  · intro wx b hB hc
    have := signed_any b ra rn rc oa on oc _ _ _ _ O wx hc ((hA.keep hB).right hr (hR.keep hB)) (hO.keep hB) hon (by omega) (fun i hi => hV (p + i) (by omega)) (fun i hi => hVn (p + i) (by omega))
    rw [hR1] at this
    exact this.mono (fun _ _ h => sigPostN_of h)
  · intro wx b hB hc
    have := signed_any b wa (n + 1) wc oa on oc _ _ _ _ O wx hc ((hA.keep hB).whole (by omega) (hcl.keep hB) (hX.keep hB) (by omega) (by unfold maxLen; omega) hXn (hW.keep hB)) (hO.keep hB) hon (by omega) hV' hVn'
    rw [hW1] at this
    exact this.mono (fun _ _ h => sigPostN_of h)
  · intro wx a1 c1 a2 c2 a3 c3 s1 s2 s3
    exact cat_any a1 a2 a3 nL c1 x.n c2 nR c3 CL X CR wx s1 s2 s3 (by omega) (by omega) (by omega)
  · intro wx a b c d hB s1 s2
    exact valsEq_same a b _ c d _ wx s1 s2 (fun i hi => (hG i hi).keep hB) hb

set_option maxRecDepth 100000 in
set_option maxHeartbeats 4000000 in
theorem insert_walk (ver : Int) (k1 k2 k3 k4 k6 k7 k8 : Sl) (sa ua oa xa : Option Addr) (sn sc un uc on oc xn xc : Nat) (pp : Int) (T V T' V' : Nat → Sl) (TI TI' : Nat → Nat → Int) (B B' : Nat → Nat → Sl) (O : Nat → Int) (X : Nat → Sl) (w : World)
    (hA : Attrs w sa sn T V TI B) (hU : Attrs w ua un T' V' TI' B') (hs : sn ≤ maxLen) (hu : un ≤ maxLen) (h1 : k1.n ≤ maxLen) (h2 : k2.n ≤ maxLen) (h3 : k3.n ≤ maxLen) (h4 : k4.n ≤ maxLen) (h6 : k6.n ≤ maxLen) (h7 : k7.n ≤ maxLen) (h8 : k8.n ≤ maxLen)
    (hsc : sn ≤ sc) (hscm : sc ≤ maxLen) (hsa : sa = none → sn = 0 ∧ sc = 0) (hua : ua = none → un = 0) (hVn : ∀ i, i < sn → (V i).a = none → (V i).n = 0 ∧ (V i).c = 0)
    (hO : Sees w oa on (intsV O)) (hon : on ≤ maxLen) (hX : Sees w xa xn (slV X)) (hxn : xn ≤ maxLen) (hXn : ∀ j, j < xn → (X j).n ≤ maxLen) (hxa : xa = none → xn = 0 ∧ xc = 0)
    (hGB : ∀ i, i < sn → ∀ j, j < (V i).n → GoodV w (slV (B i) j)) (hGX : ∀ j, j < xn → GoodV w (slV X j)) :
    Calls Try.prog 3 #[signerV ver k1 k2 k3 k4 ⟨sa, sn, sc⟩ k6 k7 k8 ⟨ua, un, uc⟩, .int .i64 pp, .slice oa on oc, .slice xa xn xc] w fun e w' => e = .returned (.bool true) ∧ Below w.heap.size w w' := by
  have hBw : ∀ o, Below w.heap.size w (w.alloc o) := fun o => (Below.refl w.heap.size w).alloc (Nat.le_refl _) o
  have H5 : Hid (∀ wx, Below w.heap.size w wx → Calls Try.prog 5 #[.agg #[.int .i64 ver, .slice k1.a k1.n k1.c, .slice k2.a k2.n k2.c, .slice k3.a k3.n k3.c, .slice k4.a k4.n k4.c, .slice sa sn sc, .slice k6.a k6.n k6.c, .slice k7.a k7.n k7.c, .slice k8.a k8.n k8.c, .slice ua un uc], .int .i64 pp, .slice oa on oc, .slice xa xn xc] wx fun e w' => bytesPost5 sn un on xn V wx e w') := fun wx hb => by
    have := bytes5_any ver k1 k2 k3 k4 k6 k7 k8 sa ua oa xa sn sc un uc on oc xn xc pp T V T' V' TI TI' B B' X wx (hA.keep hb) (hU.keep hb) hs hu h1 h2 h3 h4 h6 h7 h8 hon hxn (hX.keep hb) hXn
    unfold signerV at this
    exact this
  have H6 : Hid (∀ wx, Below w.heap.size w wx → Calls Try.prog 6 #[.agg #[.int .i64 ver, .slice k1.a k1.n k1.c, .slice k2.a k2.n k2.c, .slice k3.a k3.n k3.c, .slice k4.a k4.n k4.c, .slice sa sn sc, .slice k6.a k6.n k6.c, .slice k7.a k7.n k7.c, .slice k8.a k8.n k8.c, .slice ua un uc], .slice oa on oc, .slice xa xn xc] wx fun e w' => isInt e ∧ Below wx.heap.size wx w') := fun wx hb => by
    have := insertBytes_any ver k1 k2 k3 k4 ⟨sa, sn, sc⟩ k6 k7 k8 ⟨ua, un, uc⟩ T V T' V' TI TI' B B' oa xa on oc xn xc X wx (hA.keep hb) (hU.keep hb) hs hu hxn (hX.keep hb) hXn
    unfold signerV at this
    exact this
  have H9 : Hid (∀ wx ga gn gc, Below w.heap.size w wx → un ≤ 1048576 → Calls Try.prog 9 #[.agg #[.int .i64 ver, .slice k1.a k1.n k1.c, .slice k2.a k2.n k2.c, .slice k3.a k3.n k3.c, .slice k4.a k4.n k4.c, .slice sa sn sc, .slice k6.a k6.n k6.c, .slice k7.a k7.n k7.c, .slice k8.a k8.n k8.c, .slice ua un uc], .slice ga gn gc] wx fun e w' => signerPost ⟨ga, gn, gc⟩ wx e w') := fun wx ga gn gc hb hun => by
    have := toSigner_any ver k1 k2 k3 k4 ⟨sa, sn, sc⟩ k6 k7 k8 ⟨ua, un, uc⟩ ⟨ga, gn, gc⟩ T' V' wx (hU.keep hb).at2 hua hun
    unfold signerV at this
    exact this
  unfold signerV
  dsimp only
  have hsz : (sn : Int) ≤ 9223372036854775807 := by unfold maxLen at hs; omega
  have hscz : (sc : Int) ≤ 9223372036854775807 := by unfold maxLen at hscm; omega
  have HBX : Hid (∀ cs, (w.alloc (.cells cs 26)).heap[w.heap.size]? = some (.cells cs 26 (0, 0))) := fun cs => Deep.blk_alloc_new _ _
  have HBW : Hid (∀ o, Below w.heap.size w (w.alloc o)) := hBw
  clear hBw
  go_enter Try.func3, Try.ntmps3
  go_wp2_with fail
  refine (H5.out _ (HBW.out _)).mono ?_
  rintro e w1 ⟨⟨r, rfl, hr⟩, hB1⟩
  have hbox1 := below_block hB1 (HBX.out _)
  have hA1 := below_then (HBW.out _) hB1
  clear hB1
  cases r with
  | false =>
    go_wp2
    go_ret
    exact ⟨rfl, hA1⟩
  | true =>
    obtain ⟨hsn, hun, hon1, hxn1, hV⟩ := hr rfl
    clear hr
    obtain ⟨c0, c1, c2, c3, c4, c5, c6, c7, c8, c9⟩ := box_cells hbox1
    go_wp2_with fail
    refine (H6.out _ hA1).mono ?_
    rintro e w2 ⟨⟨z, rfl⟩, hB2⟩
    have hbox2 := below_block hB2 hbox1
    have hA2 := below_then hA1 hB2
    clear hB2 hbox1 hA1 c0 c1 c2 c3 c4 c5 c6 c7 c8 c9
    obtain ⟨_, _, _, _, _, c5, _, _, _, _⟩ := box_cells hbox2
    by_cases hz : 1048576 < z
    · go_wp2
      go_ret
      exact ⟨rfl, hA2⟩
    have hz' : decide (1048576 < z) = false := decide_eq_false hz
    by_cases q1 : pp < 0
    · go_wp2
      go_ret
      exact ⟨rfl, hA2⟩
    have q1' : decide (pp < 0) = false := decide_eq_false q1
    by_cases q2 : (sn : Int) < pp
    · go_wp2
      go_ret
      exact ⟨rfl, hA2⟩
    obtain ⟨p, rfl⟩ : ∃ p : Nat, pp = (p : Int) := ⟨pp.toNat, by omega⟩
    have q2' : decide (sn < p) = false := decide_eq_false (by omega)
    have hp : p ≤ sn := by omega
    have hpz : (p : Int) ≤ (sc : Int) := by omega
    have hpz2 : (p : Int) ≤ (sn : Int) := by omega
    clear H5 H6
    go_wp2_with fail
    refine (toAttrs_any sa p sc T V w2 ((hA.keep hA2).at2.left hp) (fun h => by have := hsa h; omega) (by omega)).mono ?_
    rintro e w3 ⟨la, lc, rfl, hsL, _, hB3⟩
    have hbox3 := below_block hB3 hbox2
    have hA3 := below_then hA2 hB3
    clear hbox2 hA2 c5
    clear hB3
    obtain ⟨_, _, _, _, _, c5, _, _, _, _⟩ := box_cells hbox3
    have S1 : sc - p = 0 → SeesA w3 sa (sn - p) (fun i => T (p + i)) (fun i => V (p + i)) := fun h => by
      rw [show sn - p = 0 from by omega]
      exact SeesA.none _ _ _ _
    have S2 : SeesA w3 (Option.map (fun x => x.add (p * 2)) sa) (sn - p) (fun i => T (p + i)) (fun i => V (p + i)) := by
      by_cases hps : p < sn
      · have hat := (hA.keep hA3).at2
        obtain ⟨b, o, rfl, _, _⟩ := hat.at (i := p) hps
        rw [Option.map_some, WideShapes.add_plain]
        exact hat.right hps
      · rw [show sn - p = 0 from by omega]
        exact SeesA.none _ _ _ _
    have N1 : sa = none → sn - p = 0 := fun h => by have := hsa h; omega
    have N2 : Option.map (fun x => x.add (p * 2)) sa = none → sn - p = 0 := fun h => by
      have := hsa (Option.map_eq_none_iff.1 h)
      omega
    have HS1 : Hid (sc - p = 0 → SeesA w3 sa (sn - p) (fun i => T (p + i)) (fun i => V (p + i))) := S1
    have HS2 : Hid (SeesA w3 (Option.map (fun x => x.add (p * 2)) sa) (sn - p) (fun i => T (p + i)) (fun i => V (p + i))) := S2
    have HN1 : Hid (sa = none → sn - p = 0) := N1
    have HN2 : Hid (Option.map (fun x => x.add (p * 2)) sa = none → sn - p = 0) := N2
    clear S1 S2 N1 N2
    obtain ⟨i1, hi1, hy0, hy1, hy2⟩ := info_parts Try.info34
    go_wp2_with fail
    focus
      refine (toAttrs_any sa (sn - p) 0 (fun i => T (p + i)) (fun i => V (p + i)) w3 (HS1.out (by omega)) HN1.out (by omega)).mono ?_
    rotate_left
    focus
      refine (toAttrs_any (Option.map (fun x => x.add (p * 2)) sa) (sn - p) (sc - p) (fun i => T (p + i)) (fun i => V (p + i)) w3 HS2.out HN2.out (by omega)).mono ?_
    all_goals
      rintro e w4 ⟨ra, rc, rfl, hsR, _, hB4⟩
      clear HS1 HS2 HN1 HN2 h
      have hrn : p + (sn - p) = sn := by omega
      generalize sn - p = rn at *
      have hbox4 := below_block hB4 hbox3
      have hA4 := below_then hA3 hB4
      have hsL4 := hsL.keep hB4
      clear hB4 hbox3 hA3 hsL c5
      obtain ⟨_, _, _, _, _, c5, _, _, _, _⟩ := box_cells hbox4
      go_wp2_with (at_make; refine wpList_make_own _ rfl _ _ 30 rfl w4.heap.size 34 i1 (.agg #[.slice none 0 0, .slice none 0 0]) 2 Try.underlying30 hi1 hy0 hy1 .i64 .i64 _ (sn + 1) rfl rfl (by omega) (by rw [hy2]; omega) (by unfold maxLen; omega) (Nat.le_refl _) ?_; intro w5 hown5 hgrow5)
      have hB5 : Below w4.heap.size w4 w5 := (Below.refl _ _).grown hgrow5 (Nat.le_refl _) (fun k h => by cases h)
      clear hgrow5 c5
      go_loopg [11, 12] p (fun g v i wr => ∃ k : Nat, k ≤ p ∧ g = p - k ∧ v = .slice (some ⟨w4.heap.size, 0, none⟩) k (sn + 1) ∧ i = .int .i64 k ∧ wr.ownsRow w4.heap.size 34 2 (.slice (some ⟨w4.heap.size, 0, none⟩) k (sn + 1)) k (acl T V k) ∧ Below w4.heap.size w4 wr)
      case atStart => exact ⟨0, Nat.zero_le _, rfl, rfl, rfl, hown5, hB5⟩
      case round =>
        clear hown5 hB5
        obtain ⟨k, hk, rfl, rfl, rfl, hown, hB⟩ := hrel
        by_cases hlt : k < p
        · obtain ⟨b, o, rfl, hc0, hc1⟩ := (hsL4.keep hB).at hlt
          have hlz : (k : Int) < (p : Int) := by omega
          have hBa := fun o => hB.alloc hB.size o
          have hsz5 := hB.size
          go_wp2_with (at_builtin; refine wpList_append_fits _ rfl _ _ 30 rfl w4.heap.size 34 i1 2 Try.underlying30 hi1 hy1 w4.heap.size k (sn + 1) (acl T V k) rfl (hown.alloc _) ⟨wr.heap.size, 0, none⟩ 1 1 [.slice (T k).a (T k).n (T k).c, .slice (V k).a (V k).n (V k).c] rfl rfl (two_new _ _ _ _) (two_one _ _) (by omega) ?_; intro w6 hown6 hgrow6)
          have hB6 := (hBa _).grown hgrow6 (by simp; omega) (fun k h => by cases h; exact Nat.le_refl _)
          go_roundg (p - (k + 1))
          case measure => omega
          case rel => exact ⟨k + 1, by omega, rfl, rfl, by go_num, hown6, hB6⟩
        · obtain rfl : p = k := by omega
          clear hlt hk
          go_wp2_with fail
          refine (clone_any oa on oc O wr (hO.keep (below_then hA4 hB)) hon1).mono ?_
          obtain ⟨w6, rfl⟩ : ∃ w6, w6 = wr := ⟨wr, rfl⟩
          rintro e w7 ⟨rfl, hcl7, hB7'⟩
          have hcb : w4.heap.size < w6.heap.size := own_lt hown
          have hown7 := own_keep hown hB7'
          have hB7 := below_then hB hB7'
          have hBa7 := fun o => hB7.alloc hB7.size o
          have hsz7 := hB7.size
          have hck := fun o => hcl7.keep ((Below.refl w7.heap.size w7).alloc (Nat.le_refl _) o)
          clear hB7' hown hB hcl7
          go_wp2_with (at_builtin; refine wpList_append_fits _ rfl _ _ 30 rfl w4.heap.size 34 i1 2 Try.underlying30 hi1 hy1 w4.heap.size p (sn + 1) (acl T V p) rfl (hown7.alloc _) ⟨w7.heap.size, 0, none⟩ 1 1 [.slice (some ⟨w6.heap.size, 0, none⟩) on on, .slice xa xn xc] rfl rfl (two_new _ _ _ _) (two_one ⟨some ⟨w6.heap.size, 0, none⟩, on, on⟩ ⟨xa, xn, xc⟩) (by omega) ?_; intro w8 hown8 hgrow8)
          have hB8 := (hBa7 _).grown hgrow8 (by simp; omega) (fun k h => by cases h; exact Nat.le_refl _)
          have hc8 := (hck _).grown hgrow8 (by omega)
          generalize w6.heap.size = cb at *
          clear hown7 hB7 hBa7 hsz7 hck hgrow8
          go_loopg [11, 13] rn (fun g v i wx => ∃ k : Nat, k ≤ rn ∧ g = rn - k ∧ v = .slice (some ⟨w4.heap.size, 0, none⟩) (p + 1 + k) (sn + 1) ∧ i = .int .i64 k ∧ wx.ownsRow w4.heap.size 34 2 (.slice (some ⟨w4.heap.size, 0, none⟩) (p + 1 + k) (sn + 1)) (p + 1 + k) (acl (insAt p ⟨some ⟨cb, 0, none⟩, on, on⟩ T) (insAt p ⟨xa, xn, xc⟩ V) (p + 1 + k)) ∧ Sees wx (some ⟨cb, 0, none⟩) on (intsV O) ∧ Below w4.heap.size w4 wx)
          case atStart => exact ⟨0, Nat.zero_le _, rfl, rfl, rfl, by rw [Nat.add_zero, acl_ins]; exact hown8, hc8, hB8⟩
          case round =>
            clear hown8 hc8 hB8
            obtain ⟨k, hk, rfl, rfl, rfl, hown, hcl, hB⟩ := hrel
            by_cases hlt : k < rn
            · obtain ⟨b, o, rfl, hc0, hc1⟩ := (hsR.keep hB).at hlt
              have hlz : (k : Int) < (rn : Int) := by omega
              have hBa := fun o => hB.alloc hB.size o
              have hsz5 := hB.size
              have hck := fun o => hcl.keep ((Below.refl wr.heap.size wr).alloc (Nat.le_refl _) o)
              go_wp2_with (at_builtin; refine wpList_append_fits _ rfl _ _ 30 rfl w4.heap.size 34 i1 2 Try.underlying30 hi1 hy1 w4.heap.size (p + 1 + k) (sn + 1) _ rfl (hown.alloc _) ⟨wr.heap.size, 0, none⟩ 1 1 [.slice (T (p + k)).a (T (p + k)).n (T (p + k)).c, .slice (V (p + k)).a (V (p + k)).n (V (p + k)).c] rfl rfl (two_new _ _ _ _) (two_one _ _) (by omega) ?_; intro w6 hown6 hgrow6)
              have hB6 := (hBa _).grown hgrow6 (by simp; omega) (fun k h => by cases h; exact Nat.le_refl _)
              have hc6 := (hck _).grown hgrow6 (by omega)
              go_roundg (rn - (k + 1))
              case measure => omega
              case rel => exact ⟨k + 1, by omega, rfl, rfl, by go_num, by rw [acl_step]; exact hown6, hc6, hB6⟩
            · obtain rfl : rn = k := by omega
              clear hlt hk
              have hw : p + 1 + rn = sn + 1 := by omega
              rw [hw] at hown ⊢
              have hsW := own_sees hown
              obtain ⟨w9, rfl⟩ : ∃ w9, w9 = wr := ⟨wr, rfl⟩
              have hA9 := below_then hA4 hB
              obtain ⟨nL, N, nR, CL, CR, CW, H3⟩ := three_of (x := ⟨xa, xn, xc⟩) (lc := lc) (rc := rc) (wc := sn + 1) (oc := oc) (hA.keep hA9) hrn hsn (hsL4.keep hB) (hsR.keep hB) hsW (hO.keep hA9) hon hcl rfl (hX.keep hA9) hxn1 hXn hxa hV hVn (fun i hi j hj => (hGB i hi j hj).keep hA9) (fun j hj => (hGX j hj).keep hA9)
              have hbox9 := below_block hB hbox4
              have HX9 := hX.keep hA9
              clear hsW hcl hown hB hsL4 hsR hA4 hbox4 hi1 hy0 hy1 hy2 hA hO hX hGB hGX hU
              obtain ⟨c0, c1, c2, c3, c4, c5, c6, c7, c8, c9⟩ := box_cells hbox9
              have hnl := fun (w : World) (a : Option Addr) (n c : Nat) => Lib.run_eql_slice_nil (P := Try.prog) w 27 22 a n c 0 0 Try.underlying27
              clear HBX HBW hV hVn hXn hxa h1 h2 h3 h4 h6 h7 h8 hsa hua hs hu hxn
              go_wp2_with fail
              refine (H9.out w9 la p lc hA9 hun).mono ?_
              rintro e w10 ⟨bL, rfl, hbL, hw10⟩
              clear c0 c1 c2 c3 c4 c5 c6 c7 c8 c9
              go_wp2_with fail
              refine (H3.L w10 bL hw10 hbL).mono ?_
              rintro e w11 ⟨gL, dL, rfl, _, hsL, hBw11⟩
              have hw11 := below_then hw10 hBw11
              clear hw10 hBw11 hbL
              obtain ⟨c0, c1, c2, c3, c4, c5, c6, c7, c8, c9⟩ := box_cells (below_block hw11 hbox9)
              go_wp2_with fail
              refine (H9.out w11 ra rn rc (below_then hA9 hw11) hun).mono ?_
              rintro e w12 ⟨bR, rfl, hbR, hBw12⟩
              have hw12 := below_then hw11 hBw12
              have hsL12 := hsL.keep hBw12
              clear c0 c1 c2 c3 c4 c5 c6 c7 c8 c9 hBw12 hw11 hsL
              go_wp2_with fail
              refine (H3.R w12 bR hw12 hbR).mono ?_
              rintro e w13 ⟨gR, dR, rfl, _, hsR, hBw13⟩
              have hw13 := below_then hw12 hBw13
              have hsL := hsL12.keep hBw13
              clear hw12 hBw13 hbR hsL12
              obtain ⟨c0, c1, c2, c3, c4, c5, c6, c7, c8, c9⟩ := box_cells (below_block hw13 hbox9)
              go_wp2_with fail
              refine (H9.out w13 (some ⟨w4.heap.size, 0, none⟩) (sn + 1) (sn + 1) (below_then hA9 hw13) hun).mono ?_
              rintro e w14 ⟨bW, rfl, hbW, hBw14⟩
              have hw14 := below_then hw13 hBw14
              have hsL14 := hsL.keep hBw14
              have hsR14 := hsR.keep hBw14
              clear c0 c1 c2 c3 c4 c5 c6 c7 c8 c9 hBw14 hw13 hsL hsR
              go_wp2_with fail
              refine (H3.W w14 bW hw14 hbW).mono ?_
              rintro e w15 ⟨gW, dW, rfl, hnW, hsW, hBw15⟩
              have hw15 := below_then hw14 hBw15
              have hsL := hsL14.keep hBw15
              have hsR := hsR14.keep hBw15
              clear hw14 hBw15 hbW hsL14 hsR14
              have HNW : Hid (gW = none ↔ N = 0) := hnW
              clear hnW
              go_wp2_with fail
              refine (H3.C w15 gL dL xa xc gR dR hsL (HX9.keep hw15) hsR).mono ?_
              rintro e w16 ⟨gC, dC, rfl, hsC, hBw16⟩
              have hw16 := below_then hw15 hBw16
              have hsW16 := hsW.keep hBw16
              clear hsW hsL hsR hw15 hBw16
              go_wp2_with fail
              refine (H3.E w16 gW gC dW dC hw16 hsW16 hsC).mono ?_
              rintro e w17 ⟨rfl, hD17⟩
              have hw17 : Below w.heap.size w w17 := (below_then hA9 hw16).trans (hD17.below _)
              have hNb := H3.bN
              have hnW := HNW.out
              clear H3 hsW16 hsC hw16 hD17 HX9 hbox9 H9 HNW
              by_cases hN : N = 0
              · obtain rfl := hnW.2 hN
                subst hN
                clear hnW
                go_wp2
                go_ret
                exact ⟨rfl, hw17⟩
              · cases gW with
                | none => exact absurd (hnW.1 rfl) hN
                | some g =>
                  have hl0 : ((N : Int) == 0) = false := by
                    rw [beq_eq_false_iff_ne]
                    omega
                  clear hnW
                  go_wp2
                  go_ret
                  exact ⟨rfl, hw17⟩
end Go.Proofs.Qxb6626885a
