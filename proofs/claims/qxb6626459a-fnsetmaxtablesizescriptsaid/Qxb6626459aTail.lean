/-
  zzSameTail by its contract: where the fields are the last entries it says yes.
-/
import Derived.Test.Qxb6626459aSet
namespace Go.Proofs.Qxb6626459a
open Go.RowKit

/-- The slice of fields: field i is entry 'fr + i'. -/
def SeesF (w : World) (ga : Option Addr) (c : Nat) (N V : Nat → ByteArray) (S : Nat → Bool) (fr : Nat) : Prop :=
  ∃ b o, (0 < c → ga = some ⟨b, o, none⟩) ∧ ∀ i, i < c → w.cell? ⟨b, o + i * 3, none⟩ = some (.string (N (fr + i))) ∧ w.cell? ⟨b, o + i * 3 + 1, none⟩ = some (.string (V (fr + i))) ∧ w.cell? ⟨b, o + i * 3 + 2, none⟩ = some (.bool (S (fr + i)))

theorem SeesF.keep {w w' : World} {ga : Option Addr} {c : Nat} {N V : Nat → ByteArray} {S : Nat → Bool} {fr : Nat} (h : SeesF w ga c N V S fr) (hb : Below w.heap.size w w') : SeesF w' ga c N V S fr := by
  obtain ⟨b, o, h1, h2⟩ := h
  refine ⟨b, o, h1, fun i hi => ?_⟩
  obtain ⟨g0, g1, g2⟩ := h2 i hi
  have hlt : b < w.heap.size := World.block_lt_of_cell? _ _ g0
  exact ⟨(hb.cell (p := ⟨b, o + i * 3, none⟩) hlt).trans g0, (hb.cell (p := ⟨b, o + i * 3 + 1, none⟩) hlt).trans g1, (hb.cell (p := ⟨b, o + i * 3 + 2, none⟩) hlt).trans g2⟩

set_option maxHeartbeats 1000000 in
theorem tail_any (ga na va sa : Option Addr) (c gc n nc mc lc : Nat) (N V : Nat → ByteArray) (S : Nat → Bool) (w : World)
    (hG : SeesF w ga c N V S (n - c)) (hN : Sees w na n (str N)) (hV : Sees w va n (str V)) (hS : Sees w sa n (fun i => .bool (S i))) (hn : n ≤ 65536) (hc : c ≤ n) :
    Calls Try.prog 14 #[.slice ga c gc, .slice na n nc, .slice va n mc, .slice sa n lc, .int .i64 c] w fun e w' => e = .returned (.bool true) ∧ Below w.heap.size w w' := by
  obtain ⟨fr, hfr, hfr2⟩ : ∃ fr, n - c = fr ∧ (n : Int) - (c : Int) = (fr : Int) := ⟨n - c, rfl, by omega⟩
  have hle1 : fr + c ≤ n := by omega
  rw [hfr] at hG
  clear hfr
  go_enter Try.func14, Try.ntmps14
  go_wp2
  clear hfr2
  go_loopg [12] c (fun g i wr => ∃ k : Nat, k ≤ c ∧ g = c - k ∧ i = .int .i64 k ∧ Below w.heap.size w wr)
  case atStart => exact ⟨0, Nat.zero_le _, rfl, rfl, Below.refl _ _⟩
  case round =>
    obtain ⟨k, hk, rfl, rfl, hB⟩ := hrel
    by_cases hlt : k < c
    · obtain ⟨gb, go, hga, hgc⟩ := hG.keep hB
      obtain rfl := hga (by omega)
      obtain ⟨g0, g1, g2⟩ := hgc k hlt
      obtain ⟨b, o, rfl, hc0⟩ := (hN.keep hB).at (i := fr + k) (by omega)
      obtain ⟨b', o', rfl, hc1⟩ := (hV.keep hB).at (i := fr + k) (by omega)
      obtain ⟨b'', o'', rfl, hc2⟩ := (hS.keep hB).at (i := fr + k) (by omega)
      have l0 : b < wr.heap.size := World.block_lt_of_cell? _ _ hc0
      have l1 : b' < wr.heap.size := World.block_lt_of_cell? _ _ hc1
      have l2 : b'' < wr.heap.size := World.block_lt_of_cell? _ _ hc2
      have hlz : (k : Int) < (c : Int) := by omega
      have hlz2 : (fr : Int) + (k : Int) < (n : Int) := by omega
      go_wp2
      go_quiet (fail)
      go_wp2
      go_roundg (c - (k + 1))
      case measure => omega
      case rel => exact ⟨k + 1, by omega, rfl, by go_num, (hB.alloc hB.size _).trans ⟨rfl, rfl, rfl, Nat.le_refl _, fun _ _ => rfl⟩⟩
    · go_wp2
      go_ret
      exact ⟨rfl, hB⟩
end Go.Proofs.Qxb6626459a
