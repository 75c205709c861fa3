/-
  catVals by its contract: three slices of values, one after the other.
-/
import Derived.Test.Qxb6626885aVals
namespace Go.Proofs.Qxb6626885a
open Go.RowKit

/-- Three families, one after the other. -/
def catB (n1 n2 : Nat) (B1 B2 B3 : Nat → Sl) (i : Nat) : Sl := if i < n1 then B1 i else if i < n1 + n2 then B2 (i - n1) else B3 (i - n1 - n2)

theorem valsOf_succ (k : Nat) (B : Nat → Sl) : valsOf (k + 1) B = valsOf k B ++ [slV B k] := by
  unfold valsOf; rw [List.range_succ, List.map_append]; rfl

def catPost (N : Nat) (B : Nat → Sl) (w : World) (e : Ending) (w' : World) : Prop :=
  ∃ ra rc, e = .returned (.slice ra N rc) ∧ Sees w' ra N (slV B) ∧ Below w.heap.size w w'

theorem cat_of {w w' : World} {N : Nat} {B : Nat → Sl} {c : Nat} (hown : w'.ownsRow w.heap.size 22 1 (.slice (some ⟨w.heap.size, 0, none⟩) N c) N (valsOf N B)) (hb : Below w.heap.size w w') : catPost N B w (.returned (.slice (some ⟨w.heap.size, 0, none⟩) N c)) w' := by
  refine ⟨_, _, rfl, ⟨w.heap.size, 0, fun _ => rfl, fun i hi => ?_⟩, hb⟩
  rw [Nat.zero_add, hown.cellAt i (by omega), valsOf, List.getElem?_map, List.getElem?_range hi]
  rfl

set_option maxRecDepth 100000 in
set_option maxHeartbeats 2000000 in
theorem cat_any (a1 a2 a3 : Option Addr) (n1 c1 n2 c2 n3 c3 : Nat) (B1 B2 B3 : Nat → Sl) (w : World) (hA1 : Sees w a1 n1 (slV B1)) (hA2 : Sees w a2 n2 (slV B2)) (hA3 : Sees w a3 n3 (slV B3)) (hn1 : n1 ≤ 2199023255552) (hn2 : n2 ≤ 2199023255552) (hn3 : n3 ≤ 2199023255552) :
    Calls Try.prog 11 #[.slice a1 n1 c1, .slice a2 n2 c2, .slice a3 n3 c3] w fun e w' => catPost (n1 + n2 + n3) (catB n1 n2 B1 B2 B3) w e w' := by
  obtain ⟨i0, hi, hz0, hz1, hz2⟩ := info_parts Try.info22
  have e1 : ∀ k, k < n1 → catB n1 n2 B1 B2 B3 k = B1 k := fun k hk => by unfold catB; rw [if_pos hk]
  have e2 : ∀ k, k < n2 → catB n1 n2 B1 B2 B3 (n1 + k) = B2 k := fun k hk => by unfold catB; rw [if_neg (by omega), if_pos (by omega), show n1 + k - n1 = k from by omega]
  have e3 : ∀ k, catB n1 n2 B1 B2 B3 (n1 + n2 + k) = B3 k := fun k => by unfold catB; rw [if_neg (by omega), if_neg (by omega), show n1 + n2 + k - n1 - n2 = k from by omega]
  generalize catB n1 n2 B1 B2 B3 = C at *
  have E1 : Hid (∀ k, k < n1 → C k = B1 k) := e1
  have E2 : Hid (∀ k, k < n2 → C (n1 + k) = B2 k) := e2
  have E3 : Hid (∀ k, C (n1 + n2 + k) = B3 k) := e3
  clear e1 e2 e3
  go_enter Try.func11, Try.ntmps11
  go_wp2_with (at_make; refine wpList_make_own _ rfl _ _ 27 rfl w.heap.size 22 i0 (.slice none 0 0) 1 Try.underlying27 hi hz0 hz1 .i64 .i64 _ (n1 + n2 + n3) rfl rfl (by omega) (by rw [hz2]; omega) (by unfold maxLen; omega) (Nat.le_refl _) ?_; intro w1 hown1 hgrow1)
  have hB1 : Below w.heap.size w w1 := (Below.refl _ _).grown hgrow1 (Nat.le_refl _) (fun k h => by cases h)
  clear hgrow1
  go_loopg [7, 8] n1 (fun g v i wr => ∃ k : Nat, k ≤ n1 ∧ g = n1 - k ∧ v = .slice (some ⟨w.heap.size, 0, none⟩) (k) (n1 + n2 + n3) ∧ i = .int .i64 k ∧ wr.ownsRow w.heap.size 22 1 (.slice (some ⟨w.heap.size, 0, none⟩) (k) (n1 + n2 + n3)) (k) (valsOf (k) C) ∧ Below w.heap.size w wr)
  case atStart => exact ⟨0, Nat.zero_le _, rfl, rfl, rfl, hown1, hB1⟩
  case round =>
    obtain ⟨k, hk, rfl, rfl, rfl, hown, hB⟩ := hrel
    by_cases hlt : k < n1
    · obtain ⟨b, o, rfl, hc⟩ := (hA1.keep hB).at hlt
      have hlz : (k : Int) < (n1 : Int) := by omega
      have hnew : valsOf (k + 1) C = valsOf (k) C ++ [.slice (B1 k).a (B1 k).n (B1 k).c] := by
        rw [valsOf_succ]; show _ ++ [Value.slice (C (k)).a (C (k)).n (C (k)).c] = _; rw [E1.out k hlt]
      have HN : Hid (valsOf (k + 1) C = valsOf (k) C ++ [.slice (B1 k).a (B1 k).n (B1 k).c]) := hnew
      clear hnew
      have h1c : ∀ u ∈ [Value.slice (B1 k).a (B1 k).n (B1 k).c], u.oneCell' = true := fun u hu => by rw [List.mem_singleton.1 hu]; rfl
      have hBa := fun o => hB.alloc hB.size o
      have hsz := hB.size
      go_wp2_with (at_builtin; refine wpList_append_fits _ rfl _ _ 27 rfl w.heap.size 22 i0 1 Try.underlying27 hi hz1 w.heap.size (k) (n1 + n2 + n3) (valsOf (k) C) rfl (hown.alloc _) ⟨wr.heap.size, 0, none⟩ 1 1 [.slice (B1 k).a (B1 k).n (B1 k).c] rfl rfl (cell_one_new _ _ _) h1c (by omega) ?_; intro w2 hown2 hgrow2)
      have hB2 := (hBa _).grown hgrow2 (by simp; omega) (fun k h => by cases h; exact Nat.le_refl _)
      go_roundg (n1 - (k + 1))
      case measure => omega
      case rel => exact ⟨k + 1, by omega, rfl, rfl, by go_num, by rw [HN.out]; exact hown2, hB2⟩
    · obtain rfl : n1 = k := by omega
      clear hlt hk hown1 hB1
      have hown1 := hown
      have hB1 := hB
      clear hown hB
      go_wp2
      go_loopg [7, 9] n2 (fun g v i wr => ∃ k : Nat, k ≤ n2 ∧ g = n2 - k ∧ v = .slice (some ⟨w.heap.size, 0, none⟩) (n1 + k) (n1 + n2 + n3) ∧ i = .int .i64 k ∧ wr.ownsRow w.heap.size 22 1 (.slice (some ⟨w.heap.size, 0, none⟩) (n1 + k) (n1 + n2 + n3)) (n1 + k) (valsOf (n1 + k) C) ∧ Below w.heap.size w wr)
      case atStart => exact ⟨0, Nat.zero_le _, rfl, rfl, rfl, hown1, hB1⟩
      case round =>
        obtain ⟨k, hk, rfl, rfl, rfl, hown, hB⟩ := hrel
        by_cases hlt : k < n2
        · obtain ⟨b, o, rfl, hc⟩ := (hA2.keep hB).at hlt
          have hlz : (k : Int) < (n2 : Int) := by omega
          have hnew : valsOf (n1 + (k + 1)) C = valsOf (n1 + k) C ++ [.slice (B2 k).a (B2 k).n (B2 k).c] := by
            rw [show n1 + (k + 1) = n1 + k + 1 from by omega]
            rw [valsOf_succ]; show _ ++ [Value.slice (C (n1 + k)).a (C (n1 + k)).n (C (n1 + k)).c] = _; rw [E2.out k hlt]
          have HN : Hid (valsOf (n1 + (k + 1)) C = valsOf (n1 + k) C ++ [.slice (B2 k).a (B2 k).n (B2 k).c]) := hnew
          clear hnew
          have h1c : ∀ u ∈ [Value.slice (B2 k).a (B2 k).n (B2 k).c], u.oneCell' = true := fun u hu => by rw [List.mem_singleton.1 hu]; rfl
          have hBa := fun o => hB.alloc hB.size o
          have hsz := hB.size
          go_wp2_with (at_builtin; refine wpList_append_fits _ rfl _ _ 27 rfl w.heap.size 22 i0 1 Try.underlying27 hi hz1 w.heap.size (n1 + k) (n1 + n2 + n3) (valsOf (n1 + k) C) rfl (hown.alloc _) ⟨wr.heap.size, 0, none⟩ 1 1 [.slice (B2 k).a (B2 k).n (B2 k).c] rfl rfl (cell_one_new _ _ _) h1c (by omega) ?_; intro w2 hown2 hgrow2)
          have hB2 := (hBa _).grown hgrow2 (by simp; omega) (fun k h => by cases h; exact Nat.le_refl _)
          go_roundg (n2 - (k + 1))
          case measure => omega
          case rel => exact ⟨k + 1, by omega, rfl, rfl, by go_num, by rw [HN.out]; exact hown2, hB2⟩
        · obtain rfl : n2 = k := by omega
          clear hlt hk hown1 hB1
          have hown1 := hown
          have hB1 := hB
          clear hown hB
          go_wp2
          go_loopg [7, 10] n3 (fun g v i wr => ∃ k : Nat, k ≤ n3 ∧ g = n3 - k ∧ v = .slice (some ⟨w.heap.size, 0, none⟩) (n1 + n2 + k) (n1 + n2 + n3) ∧ i = .int .i64 k ∧ wr.ownsRow w.heap.size 22 1 (.slice (some ⟨w.heap.size, 0, none⟩) (n1 + n2 + k) (n1 + n2 + n3)) (n1 + n2 + k) (valsOf (n1 + n2 + k) C) ∧ Below w.heap.size w wr)
          case atStart => exact ⟨0, Nat.zero_le _, rfl, rfl, rfl, hown1, hB1⟩
          case round =>
            obtain ⟨k, hk, rfl, rfl, rfl, hown, hB⟩ := hrel
            by_cases hlt : k < n3
            · obtain ⟨b, o, rfl, hc⟩ := (hA3.keep hB).at hlt
              have hlz : (k : Int) < (n3 : Int) := by omega
              have hnew : valsOf (n1 + n2 + (k + 1)) C = valsOf (n1 + n2 + k) C ++ [.slice (B3 k).a (B3 k).n (B3 k).c] := by
                rw [show n1 + n2 + (k + 1) = n1 + n2 + k + 1 from by omega]
                rw [valsOf_succ]; show _ ++ [Value.slice (C (n1 + n2 + k)).a (C (n1 + n2 + k)).n (C (n1 + n2 + k)).c] = _; rw [E3.out k]
              have HN : Hid (valsOf (n1 + n2 + (k + 1)) C = valsOf (n1 + n2 + k) C ++ [.slice (B3 k).a (B3 k).n (B3 k).c]) := hnew
              clear hnew
              have h1c : ∀ u ∈ [Value.slice (B3 k).a (B3 k).n (B3 k).c], u.oneCell' = true := fun u hu => by rw [List.mem_singleton.1 hu]; rfl
              have hBa := fun o => hB.alloc hB.size o
              have hsz := hB.size
              go_wp2_with (at_builtin; refine wpList_append_fits _ rfl _ _ 27 rfl w.heap.size 22 i0 1 Try.underlying27 hi hz1 w.heap.size (n1 + n2 + k) (n1 + n2 + n3) (valsOf (n1 + n2 + k) C) rfl (hown.alloc _) ⟨wr.heap.size, 0, none⟩ 1 1 [.slice (B3 k).a (B3 k).n (B3 k).c] rfl rfl (cell_one_new _ _ _) h1c (by omega) ?_; intro w2 hown2 hgrow2)
              have hB2 := (hBa _).grown hgrow2 (by simp; omega) (fun k h => by cases h; exact Nat.le_refl _)
              go_roundg (n3 - (k + 1))
              case measure => omega
              case rel => exact ⟨k + 1, by omega, rfl, rfl, by go_num, by rw [HN.out]; exact hown2, hB2⟩
            · obtain rfl : n3 = k := by omega
              clear hlt hk hown1 hB1
              have hown1 := hown
              have hB1 := hB
              clear hown hB
              go_wp2
              go_ret
              exact cat_of hown1 hB1
end Go.Proofs.Qxb6626885a
