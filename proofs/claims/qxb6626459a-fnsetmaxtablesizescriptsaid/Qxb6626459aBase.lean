/-
  What the walks are told of a slice that came in ('Sees'), and the two byte bounds by their contracts.
-/
import Derived.Test.Qxb6626459aRows
import Derived.WalkKit
import Derived.ProofKit
import Derived.OpenShut
import Derived.Deep.LoopGhost
import Derived.Deep.OwnRows
import Derived.Deep.QuietTactic
import Derived.BigQuiet
import Derived.Deep.Light
namespace Go.Proofs.Qxb6626459a
open Go.RowKit

/-- A slice of one-cell elements that came in: at each index below n its cell holds f. -/
def Sees (w : World) (a : Option Addr) (n : Nat) (f : Nat → Value) : Prop :=
  ∃ b o, (0 < n → a = some ⟨b, o, none⟩) ∧ ∀ i, i < n → w.cell? ⟨b, o + i, none⟩ = some (f i)

theorem Sees.keep {w w' : World} {a : Option Addr} {n : Nat} {f : Nat → Value} (h : Sees w a n f) (hb : Below w.heap.size w w') : Sees w' a n f := by
  obtain ⟨b, o, h1, h2⟩ := h
  refine ⟨b, o, h1, fun i hi => ?_⟩
  rw [hb.cell (p := ⟨b, o + i, none⟩) (World.block_lt_of_cell? _ _ (h2 i hi))]
  exact h2 i hi

/-- The world has only been drawn from. -/
def Drawn (w w' : World) : Prop := ∃ nq, w' = w.drewN nq
theorem Drawn.refl (w : World) : Drawn w w := ⟨0, rfl⟩
theorem Drawn.more {w w' : World} (h : Drawn w w') (n : Nat) : Drawn w (w'.drewN n) := by
  obtain ⟨m, rfl⟩ := h
  exact ⟨m + n, World.drewN_drewN _ _ _⟩
theorem Drawn.below {w w' : World} (h : Drawn w w') (B : Nat) : Below B w w' := by
  obtain ⟨m, rfl⟩ := h
  exact ⟨rfl, rfl, rfl, Nat.le_refl _, fun _ _ => rfl⟩
theorem Drawn.sees {w w' : World} (h : Drawn w w') {a : Option Addr} {n : Nat} {f : Nat → Value} (hs : Sees w a n f) : Sees w' a n f := hs.keep (h.below _)

/-- .. at one index. -/
theorem Sees.at {w : World} {a : Option Addr} {n : Nat} {f : Nat → Value} (h : Sees w a n f) {i : Nat} (hi : i < n) :
    ∃ b o, a = some ⟨b, o, none⟩ ∧ w.cell? ⟨b, o + i, none⟩ = some (f i) := by
  obtain ⟨b, o, h1, h2⟩ := h
  exact ⟨b, o, h1 (by omega), h2 i hi⟩

abbrev str (N : Nat → ByteArray) : Nat → Value := fun i => .string (N i)

/-- The call answers a bool. -/
def isBool (e : Ending) : Prop := ∃ b, e = .returned (.bool b)
theorem isBool_mk (b : Bool) : isBool (.returned (.bool b)) := ⟨b, rfl⟩

/-- What the byte bound tells: where it says yes, every string is short. -/
def bytesPost (n m : Nat) (N V : Nat → ByteArray) (e : Ending) : Prop :=
  ∃ b, e = .returned (.bool b) ∧ (b = true → (∀ i, i < n → (N i).size ≤ 1048576) ∧ ∀ i, i < m → (V i).size ≤ 1048576)
theorem bytes_no (n m : Nat) (N V : Nat → ByteArray) : bytesPost n m N V (.returned (.bool false)) := ⟨false, rfl, fun h => by cases h⟩
theorem bytes_yes {n m : Nat} {N V : Nat → ByteArray} (h1 : ∀ i, i < n → (N i).size ≤ 1048576) (h2 : ∀ i, i < m → (V i).size ≤ 1048576) : bytesPost n m N V (.returned (.bool true)) := ⟨true, rfl, fun _ => ⟨h1, h2⟩⟩

/-- The first k strings are short. -/
def Short (N : Nat → ByteArray) (k : Nat) : Prop := ∀ i, i < k → (N i).size ≤ 1048576
theorem Short.zero (N : Nat → ByteArray) : Short N 0 := fun i hi => absurd hi (by omega)
theorem Short.succ {N : Nat → ByteArray} {k : Nat} (h : Short N k) (hk : ((N k).size : Int) ≤ 1048576) : Short N (k + 1) := fun i hi => by
  by_cases e : i = k
  · subst e; omega
  · exact h i (by omega)

set_option maxHeartbeats 1000000 in
theorem bytes15_any (na va sa : Option Addr) (n nc m mc l lc : Nat) (N V : Nat → ByteArray) (size mx low x : Int) (pend : Bool) (w : World)
    (hN : Sees w na n (str N)) (hV : Sees w va m (str V)) (hn : n ≤ maxLen) (hm : m ≤ maxLen) (hl : l ≤ maxLen) (hNs : ∀ i, i < n → (N i).size ≤ maxLen) (hVs : ∀ i, i < m → (V i).size ≤ maxLen) :
    Calls Try.prog 15 #[.slice na n nc, .slice va m mc, .slice sa l lc, .int .u32 size, .int .u32 mx, .int .u32 low, .bool pend, .int .u32 x] w fun e w' => bytesPost n m N V e ∧ w = w' := by
  unfold maxLen at *
  go_enter Try.func15, Try.ntmps15
  go_wp2
  · go_ret
    exact ⟨bytes_no _ _ _ _, rfl⟩
  · go_loop [17, 18] (fun z i => ∃ k t : Nat, k ≤ n ∧ t ≤ 1048576 ∧ z = .int .i64 t ∧ i = .int .i64 k ∧ Short N k) (fun _ i => n - (intOf i).toNat)
    case atStart => exact ⟨0, n, by omega, by omega, rfl, rfl, Short.zero _⟩
    case round =>
      obtain ⟨k, t, hk, ht, rfl, rfl, hS⟩ := hrel
      by_cases hlt : k < n
      · obtain ⟨b, o, rfl, hc⟩ := hN.at hlt
        have hsz := hNs k hlt
        have hlz : (k : Int) < (n : Int) := by omega
        go_wp2
        · go_ret
          exact ⟨bytes_no _ _ _ _, rfl⟩
        · go_ret
          exact ⟨bytes_no _ _ _ _, rfl⟩
        · have hle : ((N k).size : Int) ≤ 1048576 := by omega
          go_round
          case rel => exact ⟨k + 1, t + (N k).size, by omega, by omega, by go_num, by go_num, hS.succ hle⟩
          case measure => simp [intOf]; omega
      · obtain rfl : n = k := by omega
        go_wp2
        · go_ret
          exact ⟨bytes_no _ _ _ _, rfl⟩
        · go_ret
          exact ⟨bytes_no _ _ _ _, rfl⟩
        · go_loop [17, 19] (fun z i => ∃ k t : Nat, k ≤ m ∧ t ≤ 1048576 ∧ z = .int .i64 t ∧ i = .int .i64 k ∧ Short V k) (fun _ i => m - (intOf i).toNat)
          case atStart => exact ⟨0, t + m, by omega, by omega, by go_num, rfl, Short.zero _⟩
          case round =>
            obtain ⟨k, t, hk, ht, rfl, rfl, hS2⟩ := hrel
            by_cases hlt : k < m
            · obtain ⟨b, o, rfl, hc⟩ := hV.at hlt
              have hsz := hVs k hlt
              have hlz : (k : Int) < (m : Int) := by omega
              go_wp2
              · go_ret
                exact ⟨bytes_no _ _ _ _, rfl⟩
              · go_ret
                exact ⟨bytes_no _ _ _ _, rfl⟩
              · have hle : ((V k).size : Int) ≤ 1048576 := by omega
                go_round
                case rel => exact ⟨k + 1, t + (V k).size, by omega, by omega, by go_num, by go_num, hS2.succ hle⟩
                case measure => simp [intOf]; omega
            · obtain rfl : m = k := by omega
              go_wp2
              all_goals
                go_ret
                first | exact ⟨bytes_yes hS hS2, rfl⟩ | exact ⟨bytes_no _ _ _ _, rfl⟩

set_option maxHeartbeats 1000000 in
theorem bytes5_any (na va sa ua : Option Addr) (n nc m mc l lc q qc : Nat) (N V : Nat → ByteArray) (size mx low : Int) (pend : Bool) (w : World)
    (hN : Sees w na n (str N)) (hV : Sees w va m (str V)) (hn : n ≤ maxLen) (hm : m ≤ maxLen) (hl : l ≤ maxLen) (hq : q ≤ maxLen) (hNs : ∀ i, i < n → (N i).size ≤ maxLen) (hVs : ∀ i, i < m → (V i).size ≤ maxLen) :
    Calls Try.prog 5 #[.slice na n nc, .slice va m mc, .slice sa l lc, .int .u32 size, .int .u32 mx, .int .u32 low, .bool pend, .slice ua q qc] w fun e w' => bytesPost n m N V e ∧ w = w' := by
  unfold maxLen at *
  go_enter Try.func5, Try.ntmps5
  go_wp2
  · go_ret
    exact ⟨bytes_no _ _ _ _, rfl⟩
  · go_loop [17, 18] (fun z i => ∃ k t : Nat, k ≤ n ∧ t ≤ 1048576 ∧ z = .int .i64 t ∧ i = .int .i64 k ∧ Short N k) (fun _ i => n - (intOf i).toNat)
    case atStart => exact ⟨0, n, by omega, by omega, rfl, rfl, Short.zero _⟩
    case round =>
      obtain ⟨k, t, hk, ht, rfl, rfl, hS⟩ := hrel
      by_cases hlt : k < n
      · obtain ⟨b, o, rfl, hc⟩ := hN.at hlt
        have hsz := hNs k hlt
        have hlz : (k : Int) < (n : Int) := by omega
        go_wp2
        · go_ret
          exact ⟨bytes_no _ _ _ _, rfl⟩
        · go_ret
          exact ⟨bytes_no _ _ _ _, rfl⟩
        · have hle : ((N k).size : Int) ≤ 1048576 := by omega
          go_round
          case rel => exact ⟨k + 1, t + (N k).size, by omega, by omega, by go_num, by go_num, hS.succ hle⟩
          case measure => simp [intOf]; omega
      · obtain rfl : n = k := by omega
        go_wp2
        · go_ret
          exact ⟨bytes_no _ _ _ _, rfl⟩
        · go_ret
          exact ⟨bytes_no _ _ _ _, rfl⟩
        · go_loop [17, 19] (fun z i => ∃ k t : Nat, k ≤ m ∧ t ≤ 1048576 ∧ z = .int .i64 t ∧ i = .int .i64 k ∧ Short V k) (fun _ i => m - (intOf i).toNat)
          case atStart => exact ⟨0, t + m, by omega, by omega, by go_num, rfl, Short.zero _⟩
          case round =>
            obtain ⟨k, t, hk, ht, rfl, rfl, hS2⟩ := hrel
            by_cases hlt : k < m
            · obtain ⟨b, o, rfl, hc⟩ := hV.at hlt
              have hsz := hVs k hlt
              have hlz : (k : Int) < (m : Int) := by omega
              go_wp2
              · go_ret
                exact ⟨bytes_no _ _ _ _, rfl⟩
              · go_ret
                exact ⟨bytes_no _ _ _ _, rfl⟩
              · have hle : ((V k).size : Int) ≤ 1048576 := by omega
                go_round
                case rel => exact ⟨k + 1, t + (V k).size, by omega, by omega, by go_num, by go_num, hS2.succ hle⟩
                case measure => simp [intOf]; omega
            · obtain rfl : m = k := by omega
              go_wp2
              all_goals
                go_ret
                first | exact ⟨bytes_yes hS hS2, rfl⟩ | exact ⟨bytes_no _ _ _ _, rfl⟩

set_option maxHeartbeats 1000000 in
theorem tooBig_any (na va : Option Addr) (n nc m mc : Nat) (x : Int) (N V : Nat → ByteArray) (w : World)
    (hx0 : 0 ≤ x) (hN : Sees w na n (str N)) (hV : Sees w va m (str V)) (hn : n ≤ maxLen) (hm : m ≤ maxLen) (hNs : Short N n) (hVs : Short V m) :
    Calls Try.prog 6 #[.slice na n nc, .slice va m mc, .int .i64 x] w fun e w' => isBool e ∧ w = w' := by
  unfold maxLen at *
  obtain ⟨x, rfl⟩ := Int.eq_ofNat_of_zero_le hx0
  go_enter Try.func6, Try.ntmps6
  go_wp2
  · go_ret
    exact ⟨isBool_mk _, rfl⟩
  · go_loop [7, 8] (fun z i => ∃ k t : Nat, k ≤ n ∧ t ≤ 1048576 ∧ z = .int .i64 t ∧ i = .int .i64 k) (fun _ i => n - (intOf i).toNat)
    case atStart => exact ⟨0, x, by omega, by omega, rfl, rfl⟩
    case round =>
      obtain ⟨k, t, hk, ht, rfl, rfl⟩ := hrel
      by_cases hlt : k < n
      · obtain ⟨b, o, rfl, hc⟩ := hN.at hlt
        have hsz := hNs k hlt
        have hlz : (k : Int) < (n : Int) := by omega
        go_wp2
        · go_ret
          exact ⟨isBool_mk _, rfl⟩
        · go_round
          case rel => exact ⟨k + 1, t + (N k).size, by omega, by omega, by go_num, by go_num⟩
          case measure => simp [intOf]; omega
      · go_wp2
        go_loop [7, 9] (fun z i => ∃ k t : Nat, k ≤ m ∧ t ≤ 1048576 ∧ z = .int .i64 t ∧ i = .int .i64 k) (fun _ i => m - (intOf i).toNat)
        case atStart => exact ⟨0, t, by omega, by omega, rfl, rfl⟩
        case round =>
          obtain ⟨k, t, hk, ht, rfl, rfl⟩ := hrel
          by_cases hlt : k < m
          · obtain ⟨b, o, rfl, hc⟩ := hV.at hlt
            have hsz := hVs k hlt
            have hlz : (k : Int) < (m : Int) := by omega
            go_wp2
            · go_ret
              exact ⟨isBool_mk _, rfl⟩
            · go_round
              case rel => exact ⟨k + 1, t + (V k).size, by omega, by omega, by go_num, by go_num⟩
              case measure => simp [intOf]; omega
          · go_wp2
            go_ret
            exact ⟨isBool_mk _, rfl⟩
end Go.Proofs.Qxb6626459a
