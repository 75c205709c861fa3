/-
  (*SignerInfo).SignedAttr by its contract: the values of all attributes whose type equals oid, one after the other.
-/
import Derived.Test.Qxb6626885aAttrs
import Derived.Laws.AppendOwnNone
namespace Go.Proofs.Qxb6626885a
open Go.RowKit

theorem Try.info22 : (Try.prog.info? 22).map (fun i => (i.zero, i.size, i.bytes)) = some (some (.slice none 0 0), 1, 24) := by kernel_rfl

/-- A slice's elements as cells. -/
def valsOf (n : Nat) (B : Nat → Sl) : List Value := (List.range n).map (slV B)
theorem valsOf_length (n : Nat) (B : Nat → Sl) : (valsOf n B).length = n := by simp [valsOf]
theorem valsOf_get {n : Nat} {B : Nat → Sl} {j : Nat} {u : Value} (h : (valsOf n B)[j]? = some u) : j < n ∧ u = slV B j := by
  unfold valsOf at h
  rw [List.getElem?_map] at h
  by_cases hj : j < n
  · rw [List.getElem?_range hj] at h
    exact ⟨hj, by simpa using h.symm⟩
  · rw [List.getElem?_eq_none (by simpa using hj)] at h
    simp at h

/-- The values of the first k attributes that are picked. -/
def gath (pick : Nat → Bool) (L : Nat → List Value) : Nat → List Value
  | 0 => []
  | k + 1 => gath pick L k ++ (if pick k then L k else [])

theorem gath_le {pick : Nat → Bool} {L : Nat → List Value} {k M : Nat} (h : ∀ i, i < k → (L i).length ≤ M) : (gath pick L k).length ≤ k * M := by
  induction k with
  | zero => simp [gath]
  | succ k ih =>
    have h1 := ih (fun i hi => h i (by omega))
    have h2 := h k (by omega)
    rw [gath, List.length_append, Nat.add_mul]
    split <;> simp <;> omega

/-- What SignedAttr hands back: the cells L, nil where there are none. -/
def sigPost (L : List Value) (w : World) (e : Ending) (w' : World) : Prop :=
  ∃ ra rc, e = .returned (.slice ra L.length rc) ∧ (ra = none ↔ L = []) ∧ Sees w' ra L.length (fun i => L.getD i (.slice none 0 0)) ∧ Below w.heap.size w w'

theorem sigPost_of {L : List Value} {w w' : World} {v : Value} (hown : w'.ownsRow w.heap.size 22 1 v L.length L) (hnil : v = .slice none 0 0 ↔ L = []) (hb : Below w.heap.size w w') : sigPost L w (.returned v) w' := by
  obtain ⟨_, h⟩ := hown
  rcases h with ⟨rfl, h0⟩ | ⟨g, cap, cur, rfl, h1, h2, h3, h4, h5, h6⟩
  · have : L = [] := by simpa using h0
    subst this
    exact ⟨none, 0, rfl, by simp, ⟨0, 0, fun h => absurd h (by simp), fun i hi => absurd hi (by simp)⟩, hb⟩
  · refine ⟨some ⟨g, 0, none⟩, cap, rfl, ⟨fun h => absurd h (by simp), fun h => absurd (hnil.2 h) (by simp)⟩, ⟨g, 0, fun _ => rfl, fun i hi => ?_⟩, hb⟩
    have hi2 : i < cur.size := by omega
    rw [Nat.zero_add]
    simp only [World.cell?, h2]
    have e : cur[i]? = L[i]? := by
      rw [← h6, List.getElem?_take_of_lt (by omega), Array.getElem?_toList]
    rw [e, List.getD_eq_getElem?_getD, List.getElem?_eq_getElem hi]
    rfl

theorem own_drawn {w w' : World} {base : Nat} {v : Value} {n : Nat} {xs : List Value} (h : w.ownsRow base 22 1 v n xs) (hd : Drawn w w') : w'.ownsRow base 22 1 v n xs := by
  obtain ⟨m, rfl⟩ := hd
  exact h

set_option maxRecDepth 100000 in
set_option maxHeartbeats 2000000 in
theorem signed_any (b : Nat) (ga : Option Addr) (gn gc : Nat) (oa : Option Addr) (on oc : Nat) (T V : Nat → Sl) (TI : Nat → Nat → Int) (B : Nat → Nat → Sl) (O : Nat → Int) (w : World)
    (hc : w.cell? ⟨b, 5, none⟩ = some (.slice ga gn gc)) (hA : Attrs w ga gn T V TI B) (hO : Sees w oa on (intsV O)) (hon : on ≤ maxLen) (hg : gn ≤ 2097152) (hV : ∀ i, i < gn → (V i).n ≤ 1048576) (hVn : ∀ i, i < gn → (V i).a = none → (V i).n = 0 ∧ (V i).c = 0) :
    Calls Try.prog 10 #[.pointer (some ⟨b, 0, none⟩), .slice oa on oc] w fun e w' => sigPost (gath (fun i => eqI (T i).n on (TI i) O) (fun i => valsOf (V i).n (B i)) gn) w e w' := by
  obtain ⟨i0, hi, hz0, hz1, hz2⟩ := info_parts Try.info22
  have hgl : ∀ k, k ≤ gn → (gath (fun i => eqI (T i).n on (TI i) O) (fun i => valsOf (V i).n (B i)) k).length ≤ k * 1048576 := fun k hk => gath_le (fun i hi => by rw [valsOf_length]; exact hV i (by omega))
  have hgs : ∀ k, gath (fun i => eqI (T i).n on (TI i) O) (fun i => valsOf (V i).n (B i)) (k + 1) = gath (fun i => eqI (T i).n on (TI i) O) (fun i => valsOf (V i).n (B i)) k ++ (if eqI (T k).n on (TI k) O then valsOf (V k).n (B k) else []) := fun k => rfl
  have hg0 : gath (fun i => eqI (T i).n on (TI i) O) (fun i => valsOf (V i).n (B i)) 0 = [] := rfl
  generalize gath (fun i => eqI (T i).n on (TI i) O) (fun i => valsOf (V i).n (B i)) = G at *
  have HGS : Hid (∀ k, G (k + 1) = G k ++ (if eqI (T k).n on (TI k) O then valsOf (V k).n (B k) else [])) := hgs
  have HG0 : Hid (G 0 = []) := hg0
  have HGL : Hid (∀ k, k ≤ gn → (G k).length ≤ k * 1048576) := hgl
  clear hgs hg0 hgl
  go_enter Try.func10, Try.ntmps10
  go_wp2
  go_loopg [5, 13] gn (fun gh v i wr => ∃ k : Nat, k ≤ gn ∧ gh = gn - k ∧ i = .int .i64 k ∧ wr.ownsRow w.heap.size 22 1 v (G k).length (G k) ∧ (v = .slice none 0 0 ↔ G k = []) ∧ Below w.heap.size w wr)
  case atStart => exact ⟨0, Nat.zero_le _, rfl, rfl, by rw [HG0.out]; exact World.ownsRow_nil _ _ _ _, by rw [HG0.out]; simp, Below.refl _ _⟩
  case round =>
    obtain ⟨k, hk, rfl, rfl, hown, hnil, hB⟩ := hrel
    by_cases hlt : k < gn
    · obtain ⟨b1, o1, rfl, hc0, hc1⟩ := (hA.keep hB).at2.at hlt
      have hlz : (k : Int) < (gn : Int) := by omega
      have hBa : ∀ o, Below w.heap.size w (wr.alloc o) := fun o => hB.alloc hB.size o
      have HT : Hid (∀ o, Sees (wr.alloc o) (T k).a (T k).n (intsV (TI k))) := fun o => (hA.ty k hlt).keep (hBa o)
      have HO : Hid (∀ o, Sees (wr.alloc o) oa on (intsV O)) := fun o => hO.keep (hBa o)
      have htl := hA.tl k hlt
      have hle := HGL.out k hk
      have hVk := hV k hlt
      go_wp2_with fail
      refine (equal_any (T k).a oa (T k).n (T k).c on oc (TI k) O _ (HT.out _) (HO.out _) htl hon).mono ?_
      rintro e w1 ⟨rfl, hD1⟩
      have hown1 := own_drawn (hown.alloc _) hD1
      have hB1 := (hBa _).trans (hD1.below _)
      have hcv : w1.cell? ⟨wr.heap.size, 1, none⟩ = some (.slice (V k).a (V k).n (V k).c) := by
        rw [(hD1.below (wr.heap.size + 1)).cell (p := ⟨wr.heap.size, 1, none⟩) (Nat.lt_succ_self _)]; simp
      have HGk := HGS.out k
      have hVa := (hA.va k hlt).keep hB1
      cases hq : eqI (T k).n on (TI k) O with
      | false =>
        rw [hq] at HGk
        simp only [if_false, Bool.false_eq_true, List.append_nil] at HGk
        have HGk' : Hid (G (k + 1) = G k) := HGk
        clear HGk hq hD1 hown HT HO hc0 hc1
        go_wp2
        go_roundg (gn - (k + 1))
        case measure => omega
        case rel => exact ⟨k + 1, by omega, rfl, by go_num, by rw [HGk'.out]; exact hown1, by rw [HGk'.out]; exact hnil, hB1⟩
      | true =>
        rw [hq] at HGk
        simp only [if_true] at HGk
        have HGk' : Hid (G (k + 1) = G k ++ valsOf (V k).n (B k)) := HGk
        clear HGk hq hD1 hown HT HO hc0 hc1
        cases hva : (V k).a with
        | none =>
          obtain ⟨hn0, hc0⟩ := hVn k hlt hva
          rw [hva, hn0, hc0] at hcv
          have HGk2 : Hid (G (k + 1) = G k) := by
            show _ = _
            rw [HGk'.out, hn0]
            simp [valsOf]
          clear hva hn0 hc0 HGk' hVa
          go_wp2_with (at_builtin; refine wpList_append_own_none rfl _ _ 27 rfl w.heap.size 22 i0 1 Try.underlying27 hi _ _ _ rfl hown1 rfl ?_)
          go_roundg (gn - (k + 1))
          case measure => omega
          case rel => exact ⟨k + 1, by omega, rfl, by go_num, by rw [HGk2.out]; exact hown1, by rw [HGk2.out]; exact hnil, hB1⟩
        | some ad =>
          rw [hva] at hcv hVa
          have hlen : (valsOf (V k).n (B k)).length = (V k).n * 1 := by rw [valsOf_length, Nat.mul_one]
          have hnews : ∀ j u, (valsOf (V k).n (B k))[j]? = some u → w1.cell? (ad.add j) = some u := fun j u hju => by
            obtain ⟨hj, rfl⟩ := valsOf_get hju
            obtain ⟨b2, o2, e2, hc2⟩ := hVa.at hj
            simp only [Option.some.injEq] at e2
            subst e2
            rw [WideShapes.add_plain]
            exact hc2
          have h1c : ∀ u ∈ valsOf (V k).n (B k), u.oneCell' = true := fun u hu => by
            unfold valsOf at hu
            obtain ⟨j, _, rfl⟩ := List.mem_map.1 hu
            rfl
          have hbase : w.heap.size ≤ w1.heap.size := hB1.size
          have h63 : (G k).length + (V k).n ≤ maxLen := by unfold maxLen; omega
          have hby : ((G k).length + (V k).n) * 24 ≤ 140737488355328 := by omega
          go_wp2_with (at_builtin; refine wpList_append_own _ rfl _ _ 27 rfl w.heap.size 22 i0 (.slice none 0 0) 1 24 Try.underlying27 hi hz0 hz1 hz2 rfl (by decide) _ _ _ rfl hown1 ad (V k).n (V k).c (valsOf (V k).n (B k)) rfl hlen hnews h1c h63 hby hbase ?_)
          intro v' w2 hown2 hgrow hnil2
          have hB2 := hB1.grown hgrow hbase (fun k h => (hown1.lt k h).1)
          have hnil3 : v' = .slice none 0 0 ↔ G (k + 1) = [] := by
            rw [hnil2, HGk'.out, List.append_eq_nil_iff]
            have : valsOf (V k).n (B k) = [] ↔ (V k).n = 0 := by
              rw [← List.length_eq_zero_iff, valsOf_length]
            rw [this]
          have hown3 : w2.ownsRow w.heap.size 22 1 v' (G (k + 1)).length (G (k + 1)) := by
            rw [HGk'.out, List.length_append, valsOf_length]
            exact hown2
          have HN : Hid (v' = .slice none 0 0 ↔ G (k + 1) = []) := hnil3
          clear hnil hnil2 hnil3 hown1 hown2 hgrow hva hcv hVa hnews
          go_wp2
          go_roundg (gn - (k + 1))
          case measure => omega
          case rel => exact ⟨k + 1, by omega, rfl, by go_num, hown3, HN.out, hB2⟩
    · obtain rfl : gn = k := by omega
      go_wp2
      go_ret
      exact sigPost_of hown hnil hB
end Go.Proofs.Qxb6626885a
