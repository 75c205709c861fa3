/-
  What the walks are told of the slices that came in, and the counting functions by their contracts (they answer an int).
-/
import Derived.Test.Qxb6626885aRows
import Derived.WalkKit
import Derived.ProofKit
import Derived.OpenShut
import Derived.Deep.LoopGhost
import Derived.Deep.OwnRows
import Derived.Deep.QuietTactic
import Derived.BigQuiet
import Derived.Deep.Light
import Derived.Deep.RegionWith
namespace Go.Proofs.Qxb6626885a
open Go.RowKit

/-- A slice's value: where it begins, its length, its capacity. -/
structure Sl where
  a : Option Addr
  n : Nat
  c : Nat

/-- A slice of one-cell elements: at each index below n its cell holds f. -/
def Sees (w : World) (a : Option Addr) (n : Nat) (f : Nat → Value) : Prop :=
  ∃ b o, (0 < n → a = some ⟨b, o, none⟩) ∧ ∀ i, i < n → w.cell? ⟨b, o + i, none⟩ = some (f i)

theorem Sees.keep {w w' : World} {a : Option Addr} {n : Nat} {f : Nat → Value} (h : Sees w a n f) (hb : Below w.heap.size w w') : Sees w' a n f := by
  obtain ⟨b, o, h1, h2⟩ := h
  refine ⟨b, o, h1, fun i hi => ?_⟩
  rw [hb.cell (p := ⟨b, o + i, none⟩) (World.block_lt_of_cell? _ _ (h2 i hi))]
  exact h2 i hi

theorem Sees.at {w : World} {a : Option Addr} {n : Nat} {f : Nat → Value} (h : Sees w a n f) {i : Nat} (hi : i < n) :
    ∃ b o, a = some ⟨b, o, none⟩ ∧ w.cell? ⟨b, o + i, none⟩ = some (f i) := by
  obtain ⟨b, o, h1, h2⟩ := h
  exact ⟨b, o, h1 (by omega), h2 i hi⟩

/-- A slice of attributes: two cells each, the type's slice and the values' slice. -/
def SeesA (w : World) (a : Option Addr) (n : Nat) (T V : Nat → Sl) : Prop :=
  ∃ b o, (0 < n → a = some ⟨b, o, none⟩) ∧ ∀ i, i < n → w.cell? ⟨b, o + i * 2, none⟩ = some (.slice (T i).a (T i).n (T i).c) ∧ w.cell? ⟨b, o + i * 2 + 1, none⟩ = some (.slice (V i).a (V i).n (V i).c)

theorem SeesA.keep {w w' : World} {a : Option Addr} {n : Nat} {T V : Nat → Sl} (h : SeesA w a n T V) (hb : Below w.heap.size w w') : SeesA w' a n T V := by
  obtain ⟨b, o, h1, h2⟩ := h
  refine ⟨b, o, h1, fun i hi => ?_⟩
  have hlt : b < w.heap.size := World.block_lt_of_cell? _ _ (h2 i hi).1
  exact ⟨(hb.cell (p := ⟨b, o + i * 2, none⟩) hlt).trans (h2 i hi).1, (hb.cell (p := ⟨b, o + i * 2 + 1, none⟩) hlt).trans (h2 i hi).2⟩

theorem SeesA.at {w : World} {a : Option Addr} {n : Nat} {T V : Nat → Sl} (h : SeesA w a n T V) {i : Nat} (hi : i < n) :
    ∃ b o, a = some ⟨b, o, none⟩ ∧ w.cell? ⟨b, o + i * 2, none⟩ = some (.slice (T i).a (T i).n (T i).c) ∧ w.cell? ⟨b, o + i * 2 + 1, none⟩ = some (.slice (V i).a (V i).n (V i).c) := by
  obtain ⟨b, o, h1, h2⟩ := h
  exact ⟨b, o, h1 (by omega), h2 i hi⟩

abbrev intsV (A : Nat → Int) : Nat → Value := fun i => .int .i64 (A i)
abbrev slV (B : Nat → Sl) : Nat → Value := fun i => .slice (B i).a (B i).n (B i).c

/-- Attributes with all that they lead to: the arcs of each type, the slices of each attribute's values. -/
structure Attrs (w : World) (a : Option Addr) (n : Nat) (T V : Nat → Sl) (TI : Nat → Nat → Int) (B : Nat → Nat → Sl) : Prop where
  at2 : SeesA w a n T V
  ty : ∀ i, i < n → Sees w (T i).a (T i).n (intsV (TI i))
  va : ∀ i, i < n → Sees w (V i).a (V i).n (slV (B i))
  tl : ∀ i, i < n → (T i).n ≤ maxLen
  vl : ∀ i, i < n → (V i).n ≤ maxLen
  bl : ∀ i, i < n → ∀ j, j < (V i).n → (B i j).n ≤ maxLen

theorem Attrs.keep {w w' : World} {a : Option Addr} {n : Nat} {T V : Nat → Sl} {TI : Nat → Nat → Int} {B : Nat → Nat → Sl} (h : Attrs w a n T V TI B) (hb : Below w.heap.size w w') : Attrs w' a n T V TI B :=
  ⟨h.at2.keep hb, fun i hi => (h.ty i hi).keep hb, fun i hi => (h.va i hi).keep hb, h.tl, h.vl, h.bl⟩

/-- The world has only been drawn from. -/
def Drawn (w w' : World) : Prop := ∃ nq, w' = w.drewN nq
theorem Drawn.refl (w : World) : Drawn w w := ⟨0, rfl⟩
theorem Drawn.more {w w' : World} (h : Drawn w w') (n : Nat) : Drawn w (w'.drewN n) := by
  obtain ⟨m, rfl⟩ := h
  exact ⟨m + n, World.drewN_drewN _ _ _⟩
theorem Drawn.below {w w' : World} (h : Drawn w w') (B : Nat) : Below B w w' := by
  obtain ⟨m, rfl⟩ := h
  exact ⟨rfl, rfl, rfl, Nat.le_refl _, fun _ _ => rfl⟩

theorem below_then {w w1 w2 : World} (h : Below w.heap.size w w1) (k : Below w1.heap.size w1 w2) : Below w.heap.size w w2 := h.trans (k.mono h.size)

/-- The call answers an int. -/
def isInt (e : Ending) : Prop := ∃ z, e = .returned (.int .i64 z)
theorem isInt_mk (z : Int) : isInt (.returned (.int .i64 z)) := ⟨z, rfl⟩

theorem words_any (n : Int) (w : World) : Calls Try.prog 16 #[.int .i64 n] w fun e w' => isInt e ∧ w = w' := by
  go_enter Try.func16, Try.ntmps16
  go_wp2
  all_goals
    go_ret
    exact ⟨isInt_mk _, rfl⟩

set_option maxHeartbeats 1000000 in
theorem vals_any (va : Option Addr) (n c : Nat) (B : Nat → Sl) (acc : Int) (w : World) (hV : Sees w va n (slV B)) (hn : n ≤ maxLen) (hB : ∀ j, j < n → (B j).n ≤ maxLen) :
    Calls Try.prog 17 #[.slice va n c, .int .i64 acc] w fun e w' => isInt e ∧ w = w' := by
  unfold maxLen at *
  by_cases h0 : 1048576 < acc
  · go_enter Try.func17, Try.ntmps17
    go_wp2
    go_ret
    exact ⟨isInt_mk _, rfl⟩
  · have h0' : decide (1048576 < acc) = false := decide_eq_false h0
    go_enter Try.func17, Try.ntmps17
    go_wp2_with fail
    refine (words_any _ _).mono ?_
    rintro e w' ⟨⟨z0, rfl⟩, rfl⟩
    go_wp2
    go_loop [1, 5] (fun t i => ∃ (z : Int) (k : Nat), k ≤ n ∧ t = .int .i64 z ∧ i = .int .i64 k) (fun _ i => n - (intOf i).toNat)
    case atStart => exact ⟨_, 0, Nat.zero_le _, rfl, rfl⟩
    case round =>
      obtain ⟨z, k, hk, rfl, rfl⟩ := hrel
      by_cases hlt : k < n
      · obtain ⟨b, o, rfl, hc⟩ := hV.at hlt
        have hbk := hB k hlt
        have hlz : (k : Int) < (n : Int) := by omega
        by_cases hz : 1048576 < z
        · go_wp2
          go_ret
          exact ⟨isInt_mk _, rfl⟩
        · go_wp2
          go_round
          case rel => exact ⟨_, k + 1, by omega, rfl, by go_num⟩
          case measure => simp [intOf]; omega
      · go_wp2
        go_ret
        exact ⟨isInt_mk _, rfl⟩

set_option maxHeartbeats 1000000 in
theorem attrs_any (a : Option Addr) (n c : Nat) (T V : Nat → Sl) (TI : Nat → Nat → Int) (B : Nat → Nat → Sl) (acc : Int) (w : World) (hA : Attrs w a n T V TI B) (hn : n ≤ maxLen) :
    Calls Try.prog 20 #[.slice a n c, .int .i64 acc] w fun e w' => isInt e ∧ w = w' := by
  have hnz : (n : Int) ≤ 9223372036854775807 := by unfold maxLen at hn; omega
  by_cases h0 : 1048576 < acc
  · go_enter Try.func20, Try.ntmps20
    go_wp2
    go_ret
    exact ⟨isInt_mk _, rfl⟩
  · have h0' : decide (1048576 < acc) = false := decide_eq_false h0
    go_enter Try.func20, Try.ntmps20
    go_wp2_with fail
    refine (words_any _ _).mono ?_
    rintro e w' ⟨⟨z0, rfl⟩, rfl⟩
    go_wp2
    go_loop [1, 5] (fun t i => ∃ (z : Int) (k : Nat), k ≤ n ∧ t = .int .i64 z ∧ i = .int .i64 k) (fun _ i => n - (intOf i).toNat)
    case atStart => exact ⟨_, 0, Nat.zero_le _, rfl, rfl⟩
    case round =>
      obtain ⟨z, k, hk, rfl, rfl⟩ := hrel
      by_cases hlt : k < n
      · obtain ⟨b, o, rfl, hc0, hc1⟩ := hA.at2.at hlt
        have hlz : (k : Int) < (n : Int) := by omega
        by_cases hz : 1048576 < z
        · go_wp2
          go_ret
          exact ⟨isInt_mk _, rfl⟩
        · have hz' : decide (1048576 < z) = false := decide_eq_false hz
          have hva := hA.va k hlt
          have hvl := hA.vl k hlt
          have hbl := hA.bl k hlt
          have htl : ((T k).n : Int) ≤ 9223372036854775807 := by have := hA.tl k hlt; unfold maxLen at this; omega
          go_wp2_with fail
          refine (words_any _ _).mono ?_
          rintro e w' ⟨⟨z1, rfl⟩, rfl⟩
          go_wp2_with fail
          refine (vals_any _ _ _ _ _ _ hva hvl hbl).mono ?_
          rintro e w' ⟨⟨z2, rfl⟩, rfl⟩
          go_wp2
          go_round
          case rel => exact ⟨_, k + 1, by omega, rfl, by go_num⟩
          case measure => simp [intOf]; omega
      · go_wp2
        go_ret
        exact ⟨isInt_mk _, rfl⟩

/-- The signer as a value: its ten cells. -/
def signerV (ver : Int) (k1 k2 k3 k4 s k6 k7 k8 u : Sl) : Value :=
  .agg #[.int .i64 ver, .slice k1.a k1.n k1.c, .slice k2.a k2.n k2.c, .slice k3.a k3.n k3.c, .slice k4.a k4.n k4.c, .slice s.a s.n s.c, .slice k6.a k6.n k6.c, .slice k7.a k7.n k7.c, .slice k8.a k8.n k8.c, .slice u.a u.n u.c]

set_option maxRecDepth 100000 in
set_option maxHeartbeats 1000000 in
theorem signer_any (ver : Int) (k1 k2 k3 k4 s k6 k7 k8 u : Sl) (T V T' V' : Nat → Sl) (TI TI' : Nat → Nat → Int) (B B' : Nat → Nat → Sl) (acc : Int) (w : World)
    (hA : Attrs w s.a s.n T V TI B) (hU : Attrs w u.a u.n T' V' TI' B') (hs : s.n ≤ maxLen) (hu : u.n ≤ maxLen) :
    Calls Try.prog 14 #[signerV ver k1 k2 k3 k4 s k6 k7 k8 u, .int .i64 acc] w fun e w' => isInt e ∧ Below w.heap.size w w' := by
  have hAw := fun o => hA.keep ((Below.refl w.heap.size w).alloc (Nat.le_refl _) o)
  have hUw := fun o => hU.keep ((Below.refl w.heap.size w).alloc (Nat.le_refl _) o)
  unfold signerV
  have HA : Hid (∀ o, Attrs (w.alloc o) s.a s.n T V TI B) := hAw
  have HU : Hid (∀ o, Attrs (w.alloc o) u.a u.n T' V' TI' B') := hUw
  clear hAw hUw hA hU
  go_enter Try.func14, Try.ntmps14
  go_wp2_with (first | (go_at_call 16; refine (words_any _ _).mono ?_; rintro e w' ⟨⟨z, rfl⟩, rfl⟩) | (go_at_call_of 20 s.n; refine (attrs_any s.a s.n s.c T V TI B _ _ (HA.out _) hs).mono ?_; rintro e w' ⟨⟨z, rfl⟩, rfl⟩) | (go_at_call_of 20 u.n; refine (attrs_any u.a u.n u.c T' V' TI' B' _ _ (HU.out _) hu).mono ?_; rintro e w' ⟨⟨z, rfl⟩, rfl⟩))
  all_goals
    go_ret
    exact ⟨isInt_mk _, (Below.refl _ _).alloc (Nat.le_refl _) _⟩
end Go.Proofs.Qxb6626885a
