/-
  The byte bound of the first law by its contract: where it says yes, the slices are short.
-/
import Derived.Test.Qxb6626885aBase
namespace Go.Proofs.Qxb6626885a
open Go.RowKit

/-- What the byte bound tells where it says yes. -/
def bytesPost (sn un : Nat) (V : Nat → Sl) (w : World) (e : Ending) (w' : World) : Prop :=
  (∃ r, e = .returned (.bool r) ∧ (r = true → sn ≤ 1048576 ∧ un ≤ 1048576 ∧ ∀ i, i < sn → (V i).n ≤ 1048576)) ∧ Below w.heap.size w w'
theorem bytes_no (sn un : Nat) (V : Nat → Sl) {w w' : World} (h : Below w.heap.size w w') : bytesPost sn un V w (.returned (.bool false)) w' := ⟨⟨false, rfl, fun h => by cases h⟩, h⟩
theorem bytes_yes {sn un : Nat} {V : Nat → Sl} {w w' : World} (h1 : sn ≤ 1048576) (h2 : un ≤ 1048576) (h3 : ∀ i, i < sn → (V i).n ≤ 1048576) (h : Below w.heap.size w w') : bytesPost sn un V w (.returned (.bool true)) w' := ⟨⟨true, rfl, fun _ => ⟨h1, h2, h3⟩⟩, h⟩

/-- The first k attributes' values are few. -/
def Few (V : Nat → Sl) (k : Nat) : Prop := ∀ i, i < k → (V i).n ≤ 1048576
theorem Few.zero (V : Nat → Sl) : Few V 0 := fun i hi => absurd hi (by omega)
theorem Few.succ {V : Nat → Sl} {k : Nat} (h : Few V k) (hk : ((V k).n : Int) ≤ 1048576) : Few V (k + 1) := fun i hi => by
  by_cases e : i = k
  · subst e; omega
  · exact h i (by omega)

set_option maxRecDepth 100000 in
set_option maxHeartbeats 4000000 in
theorem bytes13_any (ver : Int) (k1 k2 k3 k4 k6 k7 k8 : Sl) (sa ua : Option Addr) (sn sc un uc : Nat) (T V T' V' : Nat → Sl) (TI TI' : Nat → Nat → Int) (B B' : Nat → Nat → Sl) (w : World)
    (hA : Attrs w sa sn T V TI B) (hU : Attrs w ua un T' V' TI' B') (hs : sn ≤ maxLen) (hu : un ≤ maxLen) (h1 : k1.n ≤ maxLen) (h2 : k2.n ≤ maxLen) (h3 : k3.n ≤ maxLen) (h4 : k4.n ≤ maxLen) (h6 : k6.n ≤ maxLen) (h7 : k7.n ≤ maxLen) (h8 : k8.n ≤ maxLen) :
    Calls Try.prog 13 #[signerV ver k1 k2 k3 k4 ⟨sa, sn, sc⟩ k6 k7 k8 ⟨ua, un, uc⟩] w fun e w' => bytesPost sn un V w e w' := by
  unfold maxLen at hs hu h1 h2 h3 h4 h6 h7 h8
  have hBw : ∀ o, Below w.heap.size w (w.alloc o) := fun o => (Below.refl w.heap.size w).alloc (Nat.le_refl _) o
  have HA : Hid (∀ o, Attrs (w.alloc o) sa sn T V TI B) := fun o => hA.keep (hBw o)
  have HU : Hid (∀ o, Attrs (w.alloc o) ua un T' V' TI' B') := fun o => hU.keep (hBw o)
  have HB : Hid (∀ o, Below w.heap.size w (w.alloc o)) := hBw
  unfold signerV
  dsimp only
  clear hA hU hBw
  go_enter Try.func13, Try.ntmps13
  go_wp2
  iterate 9 (go_ret; exact bytes_no sn un V (HB.out _))
  have hz0 : ((k1.n + k2.n + k3.n + k4.n + sn : Nat) : Int) ≤ 1048576 := by omega
  have hsn : sn ≤ 1048576 := by omega
  go_loop [3, 4] (fun z i => ∃ k t : Nat, k ≤ sn ∧ t ≤ 1048576 ∧ z = .int .i64 t ∧ i = .int .i64 k ∧ Few V k) (fun _ i => sn - (intOf i).toNat)
  case atStart => exact ⟨0, k1.n + k2.n + k3.n + k4.n + sn, by omega, by omega, by go_num, rfl, Few.zero _⟩
  case round =>
    obtain ⟨k, t, hk, ht, rfl, rfl, hF⟩ := hrel
    by_cases hlt : k < sn
    · have hAk := HA.out (.cells #[.int .i64 ver, .slice k1.a k1.n k1.c, .slice k2.a k2.n k2.c, .slice k3.a k3.n k3.c, .slice k4.a k4.n k4.c, .slice sa sn sc, .slice k6.a k6.n k6.c, .slice k7.a k7.n k7.c, .slice k8.a k8.n k8.c, .slice ua un uc] 26)
      obtain ⟨b, o, rfl, hc0, hc1⟩ := hAk.at2.at hlt
      obtain ⟨va, vn, vc, hvk⟩ : ∃ va vn vc, V k = ⟨va, vn, vc⟩ := ⟨_, _, _, rfl⟩
      have htl : ((T k).n : Int) ≤ 9223372036854775807 := by have := hAk.tl k hlt; unfold maxLen at this; omega
      have hvl : ((V k).n : Int) ≤ 9223372036854775807 := by have := hAk.vl k hlt; unfold maxLen at this; omega
      have hva := hAk.va k hlt
      have hbl := hAk.bl k hlt
      rw [hvk] at hc1 hvl hva hbl
      dsimp only at hc1 hvl hva hbl
      have HVk : Hid (V k = ⟨va, vn, vc⟩) := hvk
      have hlz : (k : Int) < (sn : Int) := by omega
      clear hAk hvk
      go_wp2
      iterate 4 (go_ret; exact bytes_no sn un V (HB.out _))
      have hz1 : ((t + (T k).n + vn : Nat) : Int) ≤ 1048576 := by omega
      have hF' : Few V (k + 1) := hF.succ (by rw [HVk.out]; show (vn : Int) ≤ 1048576; omega)
      go_loop [3, 5] (fun z j => ∃ q t2 : Nat, q ≤ vn ∧ t2 ≤ 1048576 ∧ z = .int .i64 t2 ∧ j = .int .i64 q) (fun _ j => vn - (intOf j).toNat)
      case atStart => exact ⟨0, t + (T k).n + vn, by omega, by omega, by go_num, rfl⟩
      case round =>
        obtain ⟨q, t2, hq, ht2, rfl, rfl⟩ := hrel
        by_cases hqlt : q < vn
        · obtain ⟨b2, o2, rfl, hc2⟩ := hva.at hqlt
          have hbq := hbl q hqlt
          unfold maxLen at hbq
          have hqz : (q : Int) < (vn : Int) := by omega
          go_wp2
          iterate 2 (go_ret; exact bytes_no sn un V (HB.out _))
          go_round
          case rel => exact ⟨q + 1, t2 + (B k q).n, by omega, by omega, by go_num, by go_num⟩
          case measure => simp [intOf]; omega
        · go_wp2
          go_round
          case rel => exact ⟨k + 1, t2, by omega, by omega, by go_num, by go_num, hF'⟩
          case measure => simp [intOf]; omega
    · obtain rfl : sn = k := by omega
      go_wp2
      iterate 8 (go_ret; exact bytes_no sn un V (HB.out _))
      have hz2 : ((t + k6.n + k7.n + k8.n + un : Nat) : Int) ≤ 1048576 := by omega
      have hun : un ≤ 1048576 := by omega
      go_loop [3, 6] (fun z i => ∃ k t : Nat, k ≤ un ∧ t ≤ 1048576 ∧ z = .int .i64 t ∧ i = .int .i64 k) (fun _ i => un - (intOf i).toNat)
      case atStart => exact ⟨0, t + k6.n + k7.n + k8.n + un, by omega, by omega, by go_num, rfl⟩
      case round =>
        obtain ⟨k, t, hk, ht, rfl, rfl⟩ := hrel
        by_cases hlt : k < un
        · have hAk := HU.out (.cells #[.int .i64 ver, .slice k1.a k1.n k1.c, .slice k2.a k2.n k2.c, .slice k3.a k3.n k3.c, .slice k4.a k4.n k4.c, .slice sa sn sc, .slice k6.a k6.n k6.c, .slice k7.a k7.n k7.c, .slice k8.a k8.n k8.c, .slice ua un uc] 26)
          obtain ⟨b, o, rfl, hc0, hc1⟩ := hAk.at2.at hlt
          obtain ⟨va, vn, vc, hvk⟩ : ∃ va vn vc, V' k = ⟨va, vn, vc⟩ := ⟨_, _, _, rfl⟩
          have htl : ((T' k).n : Int) ≤ 9223372036854775807 := by have := hAk.tl k hlt; unfold maxLen at this; omega
          have hvl : ((V' k).n : Int) ≤ 9223372036854775807 := by have := hAk.vl k hlt; unfold maxLen at this; omega
          have hva := hAk.va k hlt
          have hbl := hAk.bl k hlt
          rw [hvk] at hc1 hvl hva hbl
          dsimp only at hc1 hvl hva hbl
          have HVk : Hid (V' k = ⟨va, vn, vc⟩) := hvk
          have hlz : (k : Int) < (un : Int) := by omega
          clear hAk hvk
          go_wp2
          iterate 4 (go_ret; exact bytes_no sn un V (HB.out _))
          have hz1 : ((t + (T' k).n + vn : Nat) : Int) ≤ 1048576 := by omega
          go_loop [3, 7] (fun z j => ∃ q t2 : Nat, q ≤ vn ∧ t2 ≤ 1048576 ∧ z = .int .i64 t2 ∧ j = .int .i64 q) (fun _ j => vn - (intOf j).toNat)
          case atStart => exact ⟨0, t + (T' k).n + vn, by omega, by omega, by go_num, rfl⟩
          case round =>
            obtain ⟨q, t2, hq, ht2, rfl, rfl⟩ := hrel
            by_cases hqlt : q < vn
            · obtain ⟨b2, o2, rfl, hc2⟩ := hva.at hqlt
              have hbq := hbl q hqlt
              unfold maxLen at hbq
              have hqz : (q : Int) < (vn : Int) := by omega
              go_wp2
              iterate 2 (go_ret; exact bytes_no sn un V (HB.out _))
              go_round
              case rel => exact ⟨q + 1, t2 + (B' k q).n, by omega, by omega, by go_num, by go_num⟩
              case measure => simp [intOf]; omega
            · go_wp2
              go_round
              case rel => exact ⟨k + 1, t2, by omega, by omega, by go_num, by go_num⟩
              case measure => simp [intOf]; omega
        · go_wp2
          go_ret
          exact bytes_yes hsn hun hF (HB.out _)
end Go.Proofs.Qxb6626885a
