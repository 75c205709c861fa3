/-
  toAttrs and toSigner by their contracts.
-/
import Derived.Test.Qxb6626885aEq
import Derived.WalkSpells
import Derived.WalkLawsBesides
import Derived.RegionTactic
import Derived.BigRegion
import Derived.Deep.RegionHeld3
namespace Go.Proofs.Qxb6626885a
open Go.RowKit

theorem Try.info34 : (Try.prog.info? 34).map (fun i => (i.zero, i.size, i.bytes)) = some (some (.agg #[.slice none 0 0, .slice none 0 0]), 2, 48) := by kernel_rfl

/-- The attributes' cells: two each; k of them laid. -/
def acell (T V : Nat → Sl) (j : Nat) : Value := if j % 2 = 0 then .slice (T (j / 2)).a (T (j / 2)).n (T (j / 2)).c else .slice (V (j / 2)).a (V (j / 2)).n (V (j / 2)).c
def apart (T V : Nat → Sl) (k j : Nat) : Value := if j < k * 2 then acell T V j else .slice none 0 0

theorem run_make_attrs (n : Nat) (hn : n ≤ 1048576) (w : World) :
    (Instr.makeSlice 30 (.int .i64 (n : Int)) (.int .i64 (n : Int))).run Try.prog w = .ok (.slice (some ⟨w.heap.size, 0, none⟩) n n) (w.alloc (.cells (madeCells #[.slice none 0 0, .slice none 0 0] (n * 2)) 34)) := by
  obtain ⟨i, hi, hzz⟩ := Option.map_eq_some_iff.1 Try.info34
  simp only [Prod.mk.injEq] at hzz
  obtain ⟨hz, hs, hb⟩ := hzz
  have hr := run_make (P := Try.prog) w 30 34 i _ Try.underlying30 hi hz .i64 .i64 n n (by omega) (Int.le_refl _) (by rw [hb]; omega) (by omega)
  rw [hs, Int.toNat_natCast] at hr
  exact hr

theorem made_attrs (w : World) (n : Nat) : (w.alloc (.cells (madeCells #[.slice none 0 0, .slice none 0 0] (n * 2)) 34)).rowIs w.heap.size 34 (n * 2) (fun _ => .slice none 0 0) :=
  ⟨_, Deep.blk_alloc_new _ _, size_madeCells _ _, fun i hi => by
    simp only [madeCells, Array.getElem?_map, Array.getElem?_range, hi, if_true, Option.map_some]
    congr 1
    have : i % 2 = 0 ∨ i % 2 = 1 := by omega
    show #[Value.slice none 0 0, .slice none 0 0][i % 2]! = _
    rcases this with h | h <;> rw [h] <;> rfl⟩

theorem apart_step (T V : Nat → Sl) (k j : Nat) :
    (if j = k * 2 + 1 then Value.slice (V k).a (V k).n (V k).c else if j = k * 2 then .slice (T k).a (T k).n (T k).c else apart T V k j) = apart T V (k + 1) j := by
  unfold apart acell
  by_cases h1 : j = k * 2 + 1
  · rw [if_pos h1, if_pos (by omega), if_neg (by omega), show j / 2 = k from by omega]
  · rw [if_neg h1]
    by_cases h2 : j = k * 2
    · rw [if_pos h2, if_pos (by omega), if_pos (by omega), show j / 2 = k from by omega]
    · rw [if_neg h2]
      by_cases h3 : j < k * 2
      · rw [if_pos h3, if_pos (show j < (k + 1) * 2 by omega)]
      · rw [if_neg h3, if_neg (show ¬ j < (k + 1) * 2 by omega)]

theorem row_sees {w : World} {b n : Nat} {T V : Nat → Sl} (h : w.rowIs b 34 (n * 2) (apart T V n)) : SeesA w (some ⟨b, 0, none⟩) n T V := by
  refine ⟨b, 0, fun _ => rfl, fun i hi => ⟨?_, ?_⟩⟩
  · rw [Nat.zero_add, h.cell (i := i * 2) (by omega), apart, if_pos (by omega), acell, if_pos (by omega), show i * 2 / 2 = i from by omega]
  · rw [Nat.zero_add, h.cell (i := i * 2 + 1) (by omega), apart, if_pos (by omega), acell, if_neg (by omega), show (i * 2 + 1) / 2 = i from by omega]

/-- What toAttrs hands back: attributes with the same types and values. -/
def toPost (a : Option Addr) (n : Nat) (T V : Nat → Sl) (w : World) (e : Ending) (w' : World) : Prop :=
  ∃ ra rc, e = .returned (.slice ra n rc) ∧ SeesA w' ra n T V ∧ (ra = none ↔ a = none) ∧ Below w.heap.size w w'

set_option maxHeartbeats 1000000 in
theorem toAttrs_any (a : Option Addr) (n c : Nat) (T V : Nat → Sl) (w : World) (hA : SeesA w a n T V) (hnil : a = none → n = 0) (hn : n ≤ 1048576) :
    Calls Try.prog 7 #[.slice a n c] w fun e w' => toPost a n T V w e w' := by
  have hnl := fun w => Lib.run_eql_slice_nil (P := Try.prog) w 24 44 a n c 0 0 Try.underlying24
  cases a with
  | none =>
    obtain rfl := hnil rfl
    go_enter Try.func7, Try.ntmps7
    go_wp2
    go_ret
    exact ⟨none, 0, rfl, hA, Iff.rfl, Below.refl _ _⟩
  | some x =>
    have hmk := run_make_attrs n hn
    go_enter Try.func7, Try.ntmps7
    go_wp2
    clear hmk hnl
    go_loopg [4] n (fun g i wr => ∃ k : Nat, k ≤ n ∧ g = n - k ∧ i = .int .i64 k ∧ Below w.heap.size w wr ∧ wr.rowIs w.heap.size 34 (n * 2) (apart T V k))
    case atStart => exact ⟨0, Nat.zero_le _, rfl, rfl, (Below.refl _ _).alloc (Nat.le_refl _) _, (made_attrs w n).congr (fun j _ => by simp [apart])⟩
    case round =>
      obtain ⟨k, hk, rfl, rfl, hB, hR⟩ := hrel
      by_cases hlt : k < n
      · obtain ⟨b, o, hx, hc0, hc1⟩ := (hA.keep hB).at hlt
        simp only [Option.some.injEq] at hx
        subst hx
        have hlz : (k : Int) < (n : Int) := by omega
        have c0 := hR.cell (i := k * 2) (by omega)
        have c1 := hR.cell (i := k * 2 + 1) (by omega)
        have f0 := hR.frozen (k * 2)
        have f1 := hR.frozen (k * 2 + 1)
        go_wp2
        go_region
        go_wp2
        go_roundg (n - (k + 1))
        case measure => omega
        case rel =>
          exact ⟨k + 1, by omega, rfl, by go_num, ((hB.setCell (Nat.le_refl _) _).setCell (Nat.le_refl _) _).drew,
            (((hR.set (k * 2) _).set (k * 2 + 1) _).congr (fun j _ => apart_step T V k j)).drew⟩
      · obtain rfl : n = k := by omega
        go_wp2
        go_ret
        exact ⟨some ⟨w.heap.size, 0, none⟩, n, rfl, row_sees hR, by simp, hB⟩

/-- A pointer to a new signer whose signed attributes are the given slice. -/
def signerPost (g : Sl) (w : World) (e : Ending) (w' : World) : Prop :=
  ∃ b, e = .returned (.pointer (some ⟨b, 0, none⟩)) ∧ w'.cell? ⟨b, 5, none⟩ = some (.slice g.a g.n g.c) ∧ Below w.heap.size w w'

set_option maxRecDepth 100000 in
set_option maxHeartbeats 2000000 in
theorem toSigner_any (ver : Int) (k1 k2 k3 k4 s k6 k7 k8 u g : Sl) (T V : Nat → Sl) (w : World) (hU : SeesA w u.a u.n T V) (hnil : u.a = none → u.n = 0) (hn : u.n ≤ 1048576) :
    Calls Try.prog 9 #[signerV ver k1 k2 k3 k4 s k6 k7 k8 u, .slice g.a g.n g.c] w fun e w' => signerPost g w e w' := by
  have HU : Hid (∀ wx, Below w.heap.size w wx → SeesA wx u.a u.n T V) := fun wx hb => hU.keep hb
  unfold signerV
  clear hU
  go_enter Try.func9, Try.ntmps9
  go_wp2
  go_region_held3 (fun w' => w'.cell? ⟨w.heap.size, 0, none⟩ = some (.int .i64 ver) ∧ w'.cell? ⟨w.heap.size, 1, none⟩ = some (.slice k1.a k1.n k1.c) ∧ w'.cell? ⟨w.heap.size, 2, none⟩ = some (.slice k2.a k2.n k2.c) ∧ w'.cell? ⟨w.heap.size, 3, none⟩ = some (.slice k3.a k3.n k3.c) ∧ w'.cell? ⟨w.heap.size, 4, none⟩ = some (.slice k4.a k4.n k4.c) ∧ w'.cell? ⟨w.heap.size, 6, none⟩ = some (.slice k6.a k6.n k6.c) ∧ w'.cell? ⟨w.heap.size, 7, none⟩ = some (.slice k7.a k7.n k7.c) ∧ w'.cell? ⟨w.heap.size, 8, none⟩ = some (.slice k8.a k8.n k8.c) ∧ w'.cell? ⟨w.heap.size, 9, none⟩ = some (.slice u.a u.n u.c)) (go_keep)
    ((go_at_call 7; refine (toAttrs_any u.a u.n u.c T V _ ?_ hnil hn).mono ?_; exact HU.out _ (((Below.refl _ _).alloc (Nat.le_refl _) _).drew); rintro e w1 ⟨ra, rc, rfl, hs1, _, hB1⟩; have hcc := fun o => hB1.cell (p := ⟨w.heap.size, o, none⟩) (by simp)))
  have hb1 := below_then (((Below.refl w.heap.size w).alloc (Nat.le_refl _) _).drew) hB1
  have hb2 := hb1.size
  clear hcc hB1 hs1 HU
  go_wp2
  go_ret
  exact ⟨w1.heap.size, rfl, by simp, hb1.alloc hb2 _⟩
end Go.Proofs.Qxb6626885a
