/-
  From the row's reading of a signer to what the walks are told of it.
-/
import Derived.Test.Qxb6626885aBase
import Derived.Deep.SlicePairs
import Derived.Deep.Fields
import Derived.Lib.SmallJoins
import Derived.ChangeOld
namespace Go.Proofs.Qxb6626885a
open Go.RowKit Go.ChangeShapes Go.WideShapes Go.ChangeAt

theorem addr_none {w : World} {a : Addr} {v : Value} (h : w.cell? (a.add 0) = some v) : ∃ b o, a = ⟨b, o, none⟩ := by
  obtain ⟨b, o, sp⟩ := a
  have hs : sp = none := by simpa [Addr.add] using World.cell?_spot h
  subst hs
  exact ⟨b, o, rfl⟩

theorem sees_of {w : World} {a : Addr} {n : Nat} {f : Nat → Value} (h : ∀ i, i < n → w.cell? (a.add i) = some (f i)) : Sees w (some a) n f := by
  rcases Nat.eq_zero_or_pos n with e | e
  · subst e
    exact ⟨0, 0, fun h => absurd h (by omega), fun i hi => absurd hi (by omega)⟩
  · obtain ⟨b, o, rfl⟩ := addr_none (h 0 e)
    refine ⟨b, o, fun _ => rfl, fun i hi => ?_⟩
    rw [← WideShapes.add_plain]
    exact h i hi
theorem sees_nil (w : World) (f : Nat → Value) : Sees w none 0 f := ⟨0, 0, fun h => absurd h (by omega), fun i hi => absurd hi (by omega)⟩

theorem pick_lt {α : Type} (d : α) {n : Nat} {p : Nat → α → Prop} (h : ∀ i, i < n → ∃ x, p i x) : ∃ f : Nat → α, ∀ i, i < n → p i (f i) := by
  classical
  refine ⟨fun i => if hi : i < n then Classical.choose (h i hi) else d, fun i hi => ?_⟩
  show p i (if hi : i < n then Classical.choose (h i hi) else d)
  rw [dif_pos hi]
  exact Classical.choose_spec (h i hi)

/-- A nil slice has neither length nor capacity. -/
def NilOk (s : Sl) : Prop := s.a = none → s.n = 0 ∧ s.c = 0

section
variable {H : Type} {enc : TypeId × Value → H} {W : World}

theorem open_ints23 {fuel : Nat} {v : Value} {y : DataW H × List MemPlace} (h : DataW.trod enc Try.prog W 0 (fun _ => true) true fuel 23 [v] = some y) :
    ∃ (s : Sl) (A : Nat → Int), v = .slice s.a s.n s.c ∧ Sees W s.a s.n (intsV A) ∧ s.n ≤ maxLen ∧ NilOk s := by
  rcases open_ints Try.underlying23 Try.underlying3 (by kernel_rfl) h with ⟨hcs, _⟩ | ⟨x, l, c, zs, hcs, _, hl, hm, hz, _, hcell, _⟩
  · simp only [List.cons.injEq, and_true] at hcs
    exact ⟨⟨none, 0, 0⟩, fun _ => 0, hcs, sees_nil _ _, Nat.zero_le _, fun _ => ⟨rfl, rfl⟩⟩
  · simp only [List.cons.injEq, and_true] at hcs
    simp only [if_true] at hz
    exact ⟨⟨some x, l, c⟩, fun i => zs.getD i 0, hcs, sees_of (fun i (hi : i < l) => hcell i (by omega)), Nat.le_trans hl hm, fun h => absurd h (by simp)⟩

theorem open_bytes22 {fuel : Nat} {v : Value} {y : DataW H × List MemPlace} (h : DataW.trod enc Try.prog W 0 (fun _ => true) true fuel 22 [v] = some y) :
    ∃ (s : Sl) (A : Nat → Int), v = .slice s.a s.n s.c ∧ Sees W s.a s.n (fun i => .int .u8 (A i)) ∧ s.n ≤ maxLen ∧ NilOk s := by
  rcases open_ints Try.underlying22 Try.underlying5 (by kernel_rfl) h with ⟨hcs, _⟩ | ⟨x, l, c, zs, hcs, _, hl, hm, hz, _, hcell, _⟩
  · simp only [List.cons.injEq, and_true] at hcs
    exact ⟨⟨none, 0, 0⟩, fun _ => 0, hcs, sees_nil _ _, Nat.zero_le _, fun _ => ⟨rfl, rfl⟩⟩
  · simp only [List.cons.injEq, and_true] at hcs
    simp only [if_true] at hz
    exact ⟨⟨some x, l, c⟩, fun i => zs.getD i 0, hcs, sees_of (fun i (hi : i < l) => hcell i (by omega)), Nat.le_trans hl hm, fun h => absurd h (by simp)⟩

/-- The bytes of each value. -/
def Bytes (w : World) (n : Nat) (B : Nat → Sl) (Y : Nat → Nat → Int) : Prop := ∀ j, j < n → Sees w (B j).a (B j).n (fun i => .int .u8 (Y j i))

theorem open_vals27 {fuel : Nat} {v : Value} {y : DataW H × List MemPlace} (h : DataW.trod enc Try.prog W 0 (fun _ => true) true fuel 27 [v] = some y) :
    ∃ (s : Sl) (B : Nat → Sl) (Y : Nat → Nat → Int), v = .slice s.a s.n s.c ∧ Sees W s.a s.n (slV B) ∧ s.n ≤ maxLen ∧ NilOk s ∧ (∀ j, j < s.n → (B j).n ≤ maxLen) ∧ Bytes W s.n B Y := by
  rcases Deep.open_slice1 Try.underlying27 (by kernel_rfl) h with ⟨hcs, _⟩ | ⟨x, l, c, m, n, C, D, Pl, hcs, _, hl, hm, hmm, _, hx⟩
  · simp only [List.cons.injEq, and_true] at hcs
    exact ⟨⟨none, 0, 0⟩, fun _ => ⟨none, 0, 0⟩, fun _ _ => 0, hcs, sees_nil _ _, Nat.zero_le _, fun _ => ⟨rfl, rfl⟩, fun j hj => absurd hj (Nat.not_lt_zero _), fun j hj => absurd hj (Nat.not_lt_zero _)⟩
  · simp only [List.cons.injEq, and_true] at hcs
    simp only [if_true] at hmm
    subst hmm
    obtain ⟨f, hf⟩ := pick_lt (d := ((⟨none, 0, 0⟩ : Sl), fun _ : Nat => (0 : Int))) (n := l) (p := fun i q => C i = .slice q.1.a q.1.n q.1.c ∧ Sees W q.1.a q.1.n (fun i => .int .u8 (q.2 i)) ∧ q.1.n ≤ maxLen) (fun i hi => by
      obtain ⟨s, A, h1, h2, h3, _⟩ := open_bytes22 (hx i (by omega)).2
      exact ⟨(s, A), h1, h2, h3⟩)
    exact ⟨⟨some x, l, m⟩, fun j => (f j).1, fun j => (f j).2, hcs, sees_of (fun i (hi : i < l) => by rw [(hx i (by omega)).1, (hf i hi).1]), Nat.le_trans hl hm, fun h => absurd h (by simp), fun j hj => (hf j hj).2.2, fun j hj => (hf j hj).2.1⟩

theorem seesA_of {w : World} {a : Addr} {n : Nat} {T V : Nat → Sl} (h : ∀ i, i < n → w.cell? (a.add (i * 2)) = some (.slice (T i).a (T i).n (T i).c) ∧ w.cell? (a.add (i * 2 + 1)) = some (.slice (V i).a (V i).n (V i).c)) : SeesA w (some a) n T V := by
  rcases Nat.eq_zero_or_pos n with e | e
  · subst e
    exact ⟨0, 0, fun h => absurd h (by omega), fun i hi => absurd hi (by omega)⟩
  · obtain ⟨b, o, rfl⟩ := addr_none (by simpa using (h 0 e).1)
    refine ⟨b, o, fun _ => rfl, fun i hi => ?_⟩
    have := h i hi
    rw [WideShapes.add_plain, WideShapes.add_plain] at this
    exact this

theorem open_attrs24 {fuel : Nat} {v : Value} {y : DataW H × List MemPlace} (h : DataW.trod enc Try.prog W 0 (fun _ => true) true fuel 24 [v] = some y) :
    ∃ (s : Sl) (T V : Nat → Sl) (TI : Nat → Nat → Int) (B : Nat → Nat → Sl) (Y : Nat → Nat → Nat → Int), v = .slice s.a s.n s.c ∧ Attrs W s.a s.n T V TI B ∧ s.n ≤ maxLen ∧ NilOk s ∧ (∀ i, i < s.n → NilOk (V i)) ∧ ∀ i, i < s.n → Bytes W (V i).n (B i) (Y i) := by
  rcases Deep.open_slice_pairs Try.underlying24 Try.underlying44 (by kernel_rfl) rfl rfl (by kernel_rfl) (by kernel_rfl) h with ⟨hcs, _⟩ | ⟨x, l, c, m, n, V0, V1, D0, D1, P0, P1, hcs, _, hl, hm, hmm, _, hx⟩
  · simp only [List.cons.injEq, and_true] at hcs
    exact ⟨⟨none, 0, 0⟩, fun _ => ⟨none, 0, 0⟩, fun _ => ⟨none, 0, 0⟩, fun _ _ => 0, fun _ _ => ⟨none, 0, 0⟩, fun _ _ _ => 0, hcs, ⟨⟨0, 0, fun h => absurd h (Nat.lt_irrefl _), fun i hi => absurd hi (Nat.not_lt_zero _)⟩, fun i hi => absurd hi (Nat.not_lt_zero _), fun i hi => absurd hi (Nat.not_lt_zero _), fun i hi => absurd hi (Nat.not_lt_zero _), fun i hi => absurd hi (Nat.not_lt_zero _), fun i hi => absurd hi (Nat.not_lt_zero _)⟩, Nat.zero_le _, fun _ => ⟨rfl, rfl⟩, fun i hi => absurd hi (Nat.not_lt_zero _), fun i hi => absurd hi (Nat.not_lt_zero _)⟩
  · simp only [List.cons.injEq, and_true] at hcs
    simp only [if_true] at hmm
    subst hmm
    obtain ⟨f, hf⟩ := pick_lt (d := ((⟨none, 0, 0⟩ : Sl), fun _ : Nat => (0 : Int))) (n := l) (p := fun i q => V0 i = .slice q.1.a q.1.n q.1.c ∧ Sees W q.1.a q.1.n (intsV q.2) ∧ q.1.n ≤ maxLen) (fun i hi => by
      obtain ⟨s, A, h1, h2, h3, _⟩ := open_ints23 (hx i (by omega)).2.2.1
      exact ⟨(s, A), h1, h2, h3⟩)
    obtain ⟨g, hg⟩ := pick_lt (d := ((⟨none, 0, 0⟩ : Sl), (fun _ : Nat => (⟨none, 0, 0⟩ : Sl)), fun _ _ : Nat => (0 : Int))) (n := l) (p := fun i q => V1 i = .slice q.1.a q.1.n q.1.c ∧ Sees W q.1.a q.1.n (slV q.2.1) ∧ q.1.n ≤ maxLen ∧ NilOk q.1 ∧ (∀ j, j < q.1.n → (q.2.1 j).n ≤ maxLen) ∧ Bytes W q.1.n q.2.1 q.2.2) (fun i hi => by
      obtain ⟨s, B, Y, h1, h2, h3, h4, h5, h6⟩ := open_vals27 (hx i (by omega)).2.2.2
      exact ⟨(s, B, Y), h1, h2, h3, h4, h5, h6⟩)
    exact ⟨⟨some x, l, m⟩, fun i => (f i).1, fun i => (g i).1, fun i => (f i).2, fun i => (g i).2.1, fun i => (g i).2.2, hcs,
      ⟨seesA_of (fun i (hi : i < l) => ⟨by rw [(hx i (by omega)).1, (hf i hi).1], by rw [(hx i (by omega)).2.1, (hg i hi).1]⟩), fun i hi => (hf i hi).2.1, fun i hi => (hg i hi).2.1, fun i hi => (hf i hi).2.2, fun i hi => (hg i hi).2.2.1, fun i hi => (hg i hi).2.2.2.2.1⟩,
      Nat.le_trans hl hm, fun h => absurd h (by simp), fun i hi => (hg i hi).2.2.2.1, fun i hi => (hg i hi).2.2.2.2.2⟩

theorem array10 {α : Type} {cs : Array α} (h : cs.size = 10) : ∃ c0 c1 c2 c3 c4 c5 c6 c7 c8 c9, cs = #[c0, c1, c2, c3, c4, c5, c6, c7, c8, c9] := by
  obtain ⟨l⟩ := cs
  match l, h with
  | [c0, c1, c2, c3, c4, c5, c6, c7, c8, c9], _ => exact ⟨c0, c1, c2, c3, c4, c5, c6, c7, c8, c9, rfl⟩

theorem trod_get {t : TypeId} {fs : Array Field} {n : Nat} {cs : List Value} {xs : List (DataW H × List MemPlace)} (hlen : xs.length = fs.size)
    (hf : ∀ (i : Nat) (f : Field), fs[i]? = some f → DataW.trod enc Try.prog W 0 (fun _ => true) true n f.type ((cs.drop f.offset).take (Try.prog.cellsOf f.type)) = xs[i]?) (hone : Deep.oneCellFields Try.prog fs = true)
    (i : Nat) {f : Field} (hi : fs[i]? = some f) (ht : f.type = t) {c : Value} (hc : cs[i]? = some c) : ∃ y, DataW.trod enc Try.prog W 0 (fun _ => true) true n t [c] = some y := by
  obtain ⟨o, k⟩ := Deep.hone_of hone i f hi
  have := hf i f hi
  have hlt : i < fs.size := (Array.getElem?_eq_some_iff.1 hi).1
  rw [o, k, List.getElem?_eq_getElem (by omega)] at this
  obtain ⟨hcl, hce⟩ := List.getElem?_eq_some_iff.1 hc
  have e : (cs.drop i).take 1 = [c] := by
    rw [List.drop_eq_getElem_cons hcl, hce]
    rfl
  rw [e, ht] at this
  exact ⟨_, this⟩

set_option maxRecDepth 100000 in
theorem open_signer {r : Reach} {b0 : Nat} {v : Value} {d : DataW H} {p : List MemPlace} (hv : Value.okWide Try.prog W r b0 26 v) (h : DataW.Trod enc Try.prog W 0 (fun _ => true) true 26 v d p) :
    ∃ (ver : Int) (k1 k2 k3 k4 s k6 k7 k8 u : Sl) (T V T' V' : Nat → Sl) (TI TI' : Nat → Nat → Int) (B B' : Nat → Nat → Sl) (Y : Nat → Nat → Nat → Int),
      v = signerV ver k1 k2 k3 k4 s k6 k7 k8 u ∧ Attrs W s.a s.n T V TI B ∧ Attrs W u.a u.n T' V' TI' B' ∧ s.n ≤ maxLen ∧ u.n ≤ maxLen ∧ k1.n ≤ maxLen ∧ k2.n ≤ maxLen ∧ k3.n ≤ maxLen ∧ k4.n ≤ maxLen ∧ k6.n ≤ maxLen ∧ k7.n ≤ maxLen ∧ k8.n ≤ maxLen ∧
      NilOk s ∧ NilOk u ∧ (∀ i, i < s.n → NilOk (V i)) ∧ ∀ i, i < s.n → Bytes W (V i).n (B i) (Y i) := by
  obtain ⟨cs, rfl, hsz⟩ := okWide_struct Try.underlying26 hv
  obtain ⟨c0, c1, c2, c3, c4, c5, c6, c7, c8, c9, rfl⟩ := array10 (hsz.trans (by kernel_rfl))
  obtain ⟨fuel, hf0⟩ := h
  obtain ⟨xs, n, _, _, _, hlen, hf⟩ := DataW.trod_struct Try.underlying26 hf0
  have hg := fun i f hi t ht c hc => trod_get (t := t) (f := f) (c := c) (cs := [c0, c1, c2, c3, c4, c5, c6, c7, c8, c9]) hlen hf (by kernel_rfl) i hi ht hc
  obtain ⟨y0, g0⟩ := hg 0 _ rfl 3 rfl c0 rfl
  obtain ⟨y1, g1⟩ := hg 1 _ rfl 22 rfl c1 rfl
  obtain ⟨y2, g2⟩ := hg 2 _ rfl 22 rfl c2 rfl
  obtain ⟨y3, g3⟩ := hg 3 _ rfl 23 rfl c3 rfl
  obtain ⟨y4, g4⟩ := hg 4 _ rfl 22 rfl c4 rfl
  obtain ⟨y5, g5⟩ := hg 5 _ rfl 24 rfl c5 rfl
  obtain ⟨y6, g6⟩ := hg 6 _ rfl 23 rfl c6 rfl
  obtain ⟨y7, g7⟩ := hg 7 _ rfl 22 rfl c7 rfl
  obtain ⟨y8, g8⟩ := hg 8 _ rfl 22 rfl c8 rfl
  obtain ⟨y9, g9⟩ := hg 9 _ rfl 24 rfl c9 rfl
  clear hg hf hf0
  obtain ⟨ver, e0, _, _⟩ := DataW.trod_int Try.underlying3 g0
  simp only [List.cons.injEq, and_true] at e0
  obtain ⟨k1, _, rfl, _, l1, _⟩ := open_bytes22 g1
  obtain ⟨k2, _, rfl, _, l2, _⟩ := open_bytes22 g2
  obtain ⟨k3, _, rfl, _, l3, _⟩ := open_ints23 g3
  obtain ⟨k4, _, rfl, _, l4, _⟩ := open_bytes22 g4
  obtain ⟨s, T, V, TI, B, Y, rfl, hA, ls, ns, nv, hY⟩ := open_attrs24 g5
  obtain ⟨k6, _, rfl, _, l6, _⟩ := open_ints23 g6
  obtain ⟨k7, _, rfl, _, l7, _⟩ := open_bytes22 g7
  obtain ⟨k8, _, rfl, _, l8, _⟩ := open_bytes22 g8
  obtain ⟨u, T', V', TI', B', _, rfl, hU, lu, nu, _, _⟩ := open_attrs24 g9
  subst e0
  exact ⟨ver, k1, k2, k3, k4, s, k6, k7, k8, u, T, V, T', V', TI, TI', B, B', Y, rfl, hA, hU, ls, lu, l1, l2, l3, l4, l6, l7, l8, ns, nu, nv, hY⟩
end
end Go.Proofs.Qxb6626885a
