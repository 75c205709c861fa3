/-
  zzFields, ZZnewEncoder, ZZstate by their contracts.
-/
import Derived.Test.Qxb6626459aReach
import Derived.RegionTactic
import Derived.BigRegion
namespace Go.Proofs.Qxb6626459a
open Go.RowKit

theorem Try.info48 : (Try.prog.info? 48).map (fun i => (i.zero, i.size, i.bytes)) = some (some (.agg #[.string ByteArray.empty, .string ByteArray.empty, .bool false]), 3, 40) := by kernel_rfl

/-- The zero field's cells, again and again. -/
def zcell (j : Nat) : Value := if j % 3 = 2 then .bool false else .string ByteArray.empty
/-- The fields' cells: three a field. -/
def fcell (N V : Nat → ByteArray) (S : Nat → Bool) (j : Nat) : Value := if j % 3 = 0 then .string (N (j / 3)) else if j % 3 = 1 then .string (V (j / 3)) else .bool (S (j / 3))
/-- .. when k of them are laid. -/
def fpart (N V : Nat → ByteArray) (S : Nat → Bool) (k j : Nat) : Value := if j < k * 3 then fcell N V S j else zcell j

theorem run_make_fields (n : Nat) (hn : n ≤ 65536) (w : World) :
    (Instr.makeSlice 31 (.int .i64 (n : Int)) (.int .i64 (n : Int))).run Try.prog w = .ok (.slice (some ⟨w.heap.size, 0, none⟩) n n) (w.alloc (.cells (madeCells #[.string ByteArray.empty, .string ByteArray.empty, .bool false] (n * 3)) 48)) := by
  obtain ⟨i, hi, hzz⟩ := Option.map_eq_some_iff.1 Try.info48
  simp only [Prod.mk.injEq] at hzz
  obtain ⟨hz, hs, hb⟩ := hzz
  have hr := run_make (P := Try.prog) w 31 48 i _ Try.underlying31 hi hz .i64 .i64 n n (by omega) (Int.le_refl _) (by rw [hb]; omega) (by omega)
  rw [hs, Int.toNat_natCast] at hr
  exact hr

theorem made_fields (w : World) (n : Nat) : (w.alloc (.cells (madeCells #[.string ByteArray.empty, .string ByteArray.empty, .bool false] (n * 3)) 48)).rowIs w.heap.size 48 (n * 3) zcell :=
  ⟨_, Deep.blk_alloc_new _ _, size_madeCells _ _, fun i hi => by
    unfold zcell
    simp only [madeCells, Array.getElem?_map, Array.getElem?_range, hi, if_true, Option.map_some]
    congr 1
    have : i % 3 = 0 ∨ i % 3 = 1 ∨ i % 3 = 2 := by omega
    show #[Value.string ByteArray.empty, .string ByteArray.empty, .bool false][i % 3]! = _
    rcases this with h | h | h <;> rw [h] <;> rfl⟩

theorem fpart_zero (N V : Nat → ByteArray) (S : Nat → Bool) (j : Nat) : fpart N V S 0 j = zcell j := by unfold fpart; rw [if_neg (by omega)]
theorem fpart_step (N V : Nat → ByteArray) (S : Nat → Bool) (k j : Nat) :
    (if j = k * 3 + 2 then Value.bool (S k) else if j = k * 3 + 1 then .string (V k) else if j = k * 3 then .string (N k) else fpart N V S k j) = fpart N V S (k + 1) j := by
  unfold fpart fcell
  by_cases h0 : j = k * 3 + 2
  · rw [if_pos h0, if_pos (by omega), if_neg (by omega), if_neg (by omega), show j / 3 = k from by omega]
  · rw [if_neg h0]
    by_cases h1 : j = k * 3 + 1
    · rw [if_pos h1, if_pos (by omega), if_neg (by omega), if_pos (by omega), show j / 3 = k from by omega]
    · rw [if_neg h1]
      by_cases h2 : j = k * 3
      · rw [if_pos h2, if_pos (by omega), if_pos (by omega), show j / 3 = k from by omega]
      · rw [if_neg h2]
        by_cases h3 : j < k * 3
        · rw [if_pos h3, if_pos (show j < (k + 1) * 3 by omega)]
        · rw [if_neg h3, if_neg (show ¬ j < (k + 1) * 3 by omega)]
theorem fpart_all (N V : Nat → ByteArray) (S : Nat → Bool) (n j : Nat) (h : j < n * 3) : fpart N V S n j = fcell N V S j := by unfold fpart; rw [if_pos h]

set_option maxHeartbeats 1000000 in
theorem fields_any (na va sa : Option Addr) (n nc mc lc : Nat) (N V : Nat → ByteArray) (S : Nat → Bool) (w : World)
    (hN : Sees w na n (str N)) (hV : Sees w va n (str V)) (hS : Sees w sa n (fun i => .bool (S i))) (hn : n ≤ 65536) :
    Calls Try.prog 9 #[.slice na n nc, .slice va n mc, .slice sa n lc] w fun e w' => e = .returned (.slice (some ⟨w.heap.size, 0, none⟩) n n) ∧ Below w.heap.size w w' ∧ w.heap.size < w'.heap.size ∧ w'.rowIs w.heap.size 48 (n * 3) (fcell N V S) := by
  have hmk := run_make_fields n hn
  go_enter Try.func9, Try.ntmps9
  go_wp2
  clear hmk
  go_loopg [8] n (fun g i wr => ∃ k : Nat, k ≤ n ∧ g = n - k ∧ i = .int .i64 k ∧ Below w.heap.size w wr ∧ w.heap.size < wr.heap.size ∧ wr.rowIs w.heap.size 48 (n * 3) (fpart N V S k))
  case atStart => exact ⟨0, Nat.zero_le _, rfl, rfl, (Below.refl _ _).alloc (Nat.le_refl _) _, by simp, (made_fields w n).congr (fun j _ => (fpart_zero N V S j).symm)⟩
  case round =>
    obtain ⟨k, hk, rfl, rfl, hB, hsz, hR⟩ := hrel
    by_cases hlt : k < n
    · obtain ⟨b, o, rfl, hc⟩ := (hN.keep hB).at hlt
      obtain ⟨b', o', rfl, hc'⟩ := (hV.keep hB).at hlt
      obtain ⟨b'', o'', rfl, hc''⟩ := (hS.keep hB).at hlt
      have hlz : (k : Int) < (n : Int) := by omega
      have c0 := hR.cell (i := k * 3) (by omega)
      have c1 := hR.cell (i := k * 3 + 1) (by omega)
      have c2 := hR.cell (i := k * 3 + 2) (by omega)
      have f0 := hR.frozen (k * 3)
      have f1 := hR.frozen (k * 3 + 1)
      have f2 := hR.frozen (k * 3 + 2)
      go_wp2
      go_region
      go_wp2
      go_roundg (n - (k + 1))
      case measure => omega
      case rel =>
        exact ⟨k + 1, by omega, rfl, by go_num, (((hB.setCell (Nat.le_refl _) _).setCell (Nat.le_refl _) _).setCell (Nat.le_refl _) _).drew, by simpa using hsz,
          ((((hR.set (k * 3) _).set (k * 3 + 1) _).set (k * 3 + 2) _).congr (fun j _ => fpart_step N V S k j)).drew⟩
    · obtain rfl : n = k := by omega
      go_wp2
      go_ret
      exact ⟨rfl, hB, hsz, hR.congr (fun j hj => fpart_all N V S n j hj)⟩

/-- A new encoder: one block of five cells. -/
theorem newEnc_any (fa : Option Addr) (n nc : Nat) (size mx low : Int) (pend : Bool) (w : World) :
    Calls Try.prog 8 #[.slice fa n nc, .int .u32 size, .int .u32 mx, .int .u32 low, .bool pend] w fun e w' =>
      e = .returned (.pointer (some ⟨w.heap.size, 0, none⟩)) ∧ w.alloc (.cells #[.slice fa n nc, .int .u32 size, .int .u32 mx, .int .u32 low, .bool pend] 46) = w' := by
  go_enter Try.func8, Try.ntmps8
  go_wp2
  go_ret
  exact ⟨rfl, rfl⟩

/-- The encoder's block. -/
def ecell (fa : Option Addr) (n c : Nat) (size mx low : Int) (pend : Bool) (j : Nat) : Value :=
  if j = 0 then .slice fa n c else if j = 1 then .int .u32 size else if j = 2 then .int .u32 mx else if j = 3 then .int .u32 low else .bool pend

set_option maxHeartbeats 1000000 in
theorem state_any (E : Nat) (fa : Option Addr) (n c : Nat) (size mx low : Int) (pend : Bool) (w : World) (hE : w.rowIs E 46 5 (ecell fa n c size mx low pend)) :
    Calls Try.prog 11 #[.pointer (some ⟨E, 0, none⟩)] w fun e w' =>
      e = .returned (.tuple #[.slice fa n c, .int .u32 size, .int .u32 mx, .int .u32 low, .bool pend]) ∧ Drawn w w' := by
  have c0 : w.cell? ⟨E, 0, none⟩ = some (.slice fa n c) := hE.cell (i := 0) (by omega)
  have c1 : w.cell? ⟨E, 1, none⟩ = some (.int .u32 size) := hE.cell (i := 1) (by omega)
  have c2 : w.cell? ⟨E, 2, none⟩ = some (.int .u32 mx) := hE.cell (i := 2) (by omega)
  have c3 : w.cell? ⟨E, 3, none⟩ = some (.int .u32 low) := hE.cell (i := 3) (by omega)
  have c4 : w.cell? ⟨E, 4, none⟩ = some (.bool pend) := hE.cell (i := 4) (by omega)
  go_enter Try.func11, Try.ntmps11
  go_wp2
  go_quiet (fail)
  go_wp2
  exact bodyPost_ret (v := .tuple #[.slice fa n c, .int .u32 size, .int .u32 mx, .int .u32 low, .bool pend]) (by simp [results, Try.results11, go_sem]) rfl ⟨rfl, (Drawn.refl _).more _⟩
end Go.Proofs.Qxb6626459a
