/-
  zzEntrySize, zzReachable, zzClamp by their contracts.
-/
import Derived.Test.Qxb6626459aBase
namespace Go.Proofs.Qxb6626459a
open Go.RowKit

/-- The size of one entry. -/
def esz (a b : ByteArray) : Nat := a.size + b.size + 32
/-- The sum of the first k entries' sizes. -/
def pre (N V : Nat → ByteArray) : Nat → Nat
  | 0 => 0
  | k + 1 => pre N V k + esz (N k) (V k)

theorem esz_le {a b : ByteArray} (ha : a.size ≤ 1048576) (hb : b.size ≤ 1048576) : 32 ≤ esz a b ∧ esz a b ≤ 2097184 := by unfold esz; omega

theorem pre_le {N V : Nat → ByteArray} {k : Nat} (hN : Short N k) (hV : Short V k) : pre N V k ≤ k * 2097184 := by
  induction k with
  | zero => simp [pre]
  | succ k ih =>
    have := ih (fun i hi => hN i (by omega)) (fun i hi => hV i (by omega))
    have := esz_le (hN k (by omega)) (hV k (by omega))
    rw [pre, Nat.add_mul]
    omega

theorem ret_u64 {a b : Int} (h : a = b) : Ending.returned (.int .u64 a) = .returned (.int .u64 b) := by rw [h]

theorem entrySize_any (a b : ByteArray) (w : World) (ha : a.size ≤ 1048576) (hb : b.size ≤ 1048576) :
    Calls Try.prog 16 #[.string a, .string b] w fun e w' => e = .returned (.int .u64 (esz a b)) ∧ w' = w := by
  go_enter Try.func16, Try.ntmps16
  go_wp2
  go_ret
  exact ⟨ret_u64 (by unfold esz; omega), rfl⟩

/-- What zzReachable tells where it says yes. -/
def reachPost (n m l : Nat) (N V : Nat → ByteArray) (size mx low : Int) (pend : Bool) (e : Ending) : Prop :=
  ∃ b, e = .returned (.bool b) ∧ (b = true → n = m ∧ n = l ∧ mx ≤ 4096 ∧ size ≤ mx ∧ (pend = true → low ≤ mx) ∧ (pre N V n : Int) = size)
theorem reach_no (n m l : Nat) (N V : Nat → ByteArray) (size mx low : Int) (pend : Bool) : reachPost n m l N V size mx low pend (.returned (.bool false)) := ⟨false, rfl, fun h => by cases h⟩

set_option maxHeartbeats 1000000 in
theorem reach_any (na va sa : Option Addr) (n nc m mc l lc : Nat) (N V : Nat → ByteArray) (size mx low : Int) (pend : Bool) (w : World)
    (hN : Sees w na n (str N)) (hV : Sees w va m (str V)) (hn : n ≤ 65536) (hm : m ≤ 65536) (hl : l ≤ 65536) (hNs : Short N n) (hVs : Short V m)
    (hs0 : 0 ≤ size) (hs1 : size ≤ 4294967295)  :
    Calls Try.prog 7 #[.slice na n nc, .slice va m mc, .slice sa l lc, .int .u32 size, .int .u32 mx, .int .u32 low, .bool pend] w fun e w' => reachPost n m l N V size mx low pend e ∧ Drawn w w' := by
  by_cases h1 : n = m
  · subst h1
    by_cases h2 : n = l
    · subst h2
      by_cases h3 : 4096 < mx
      · go_enter Try.func7, Try.ntmps7
        go_wp2
        go_ret
        exact ⟨reach_no _ _ _ _ _ _ _ _ _, Drawn.refl _⟩
      · by_cases h4 : mx < size
        · go_enter Try.func7, Try.ntmps7
          go_wp2
          go_ret
          exact ⟨reach_no _ _ _ _ _ _ _ _ _, Drawn.refl _⟩
        · have hd3 : decide (4096 < mx) = false := decide_eq_false h3
          have hd4 : decide (mx < size) = false := decide_eq_false h4
          by_cases h5 : pend = true ∧ mx < low
          · obtain ⟨rfl, h5⟩ := h5
            go_enter Try.func7, Try.ntmps7
            go_wp2
            go_ret
            exact ⟨reach_no _ _ _ _ _ _ _ _ _, Drawn.refl _⟩
          · have h6 : (pend = false ∧ True) ∨ (pend = true ∧ decide (mx < low) = false) := by
              cases pend with
              | false => exact .inl ⟨rfl, trivial⟩
              | true => exact .inr ⟨rfl, decide_eq_false (fun k => h5 ⟨rfl, k⟩)⟩
            have HP : Hid (pend = true → low ≤ mx) := fun hp => by
              have : ¬ mx < low := fun k => h5 ⟨hp, k⟩
              omega
            clear h5
            rcases h6 with ⟨rfl, h6⟩ | ⟨rfl, h6⟩
            all_goals
              go_enter Try.func7, Try.ntmps7
              go_wp2
              go_loopg [15, 16] n (fun g s i wr => ∃ k : Nat, k ≤ n ∧ g = n - k ∧ s = .int .u64 (pre N V k) ∧ i = .int .i64 k ∧ Drawn w wr)
              case atStart => exact ⟨0, Nat.zero_le _, rfl, rfl, rfl, Drawn.refl _⟩
              case round =>
                obtain ⟨k, hk, rfl, rfl, rfl, hD⟩ := hrel
                have hpl := pre_le (k := k) (fun i hi => hNs i (by omega)) (fun i hi => hVs i (by omega))
                by_cases hlt : k < n
                · obtain ⟨b, o, rfl, hc⟩ := (hD.sees hN).at hlt
                  obtain ⟨b', o', rfl, hc'⟩ := (hD.sees hV).at hlt
                  have hlz : (k : Int) < (n : Int) := by omega
                  have hnk := hNs k hlt
                  have hvk := hVs k hlt
                  have hez := esz_le hnk hvk
                  go_wp2
                  go_quiet ((go_at_call 16; exact Calls.quiet_of_same (entrySize_any _ _ _ hnk hvk)))
                  go_wp2
                  go_roundg (n - (k + 1))
                  case measure => omega
                  case rel => exact ⟨k + 1, by omega, rfl, by rw [pre]; go_num, by go_num, hD.more _⟩
                · obtain rfl : n = k := by omega
                  go_wp2
                  go_ret
                  exact ⟨⟨_, rfl, fun hb => ⟨rfl, rfl, by omega, by omega, by first | exact HP.out | exact fun _ => HP.out trivial, by simpa using hb⟩⟩, hD⟩
    · go_enter Try.func7, Try.ntmps7
      go_wp2
      go_ret
      exact ⟨reach_no _ _ _ _ _ _ _ _ _, Drawn.refl _⟩
  · go_enter Try.func7, Try.ntmps7
    go_wp2
    go_ret
    exact ⟨reach_no _ _ _ _ _ _ _ _ _, Drawn.refl _⟩

/-- The clamp. -/
def clampN (x : Int) : Int := if 4096 < x then 4096 else x
theorem ret_u32 {a b : Int} (h : a = b) : Ending.returned (.int .u32 a) = .returned (.int .u32 b) := by rw [h]

theorem clamp_any (x : Int) (w : World) : Calls Try.prog 12 #[.int .u32 x] w fun e w' => e = .returned (.int .u32 (clampN x)) ∧ w = w' := by
  by_cases h : 4096 < x
  · have e : clampN x = 4096 := by unfold clampN; rw [if_pos h]
    rw [e]
    go_enter Try.func12, Try.ntmps12
    go_wp2
    go_ret
    exact ⟨rfl, rfl⟩
  · have e : clampN x = x := by unfold clampN; rw [if_neg h]
    rw [e]
    clear e
    go_enter Try.func12, Try.ntmps12
    go_wp2
    go_ret
    exact ⟨rfl, rfl⟩

theorem pre_mono {N V : Nat → ByteArray} {a b : Nat} (h : a ≤ b) : pre N V a ≤ pre N V b := by
  induction b with
  | zero => rw [show a = 0 from by omega]; exact Nat.le_refl _
  | succ b ih =>
    by_cases e : a = b + 1
    · rw [e]; exact Nat.le_refl _
    · have := ih (by omega)
      rw [pre]
      omega

/-- The greatest count c of last entries whose sizes sum to at most bound, and that sum. -/
structure IsKept (N V : Nat → ByteArray) (n : Nat) (bound : Int) (c : Nat) : Prop where
  le : c ≤ n
  fits : (pre N V n : Int) - pre N V (n - c) ≤ bound
  most : c < n → bound < (pre N V n : Int) - pre N V (n - c - 1)

def keptPost (N V : Nat → ByteArray) (n : Nat) (bound : Int) (e : Ending) : Prop :=
  ∃ c : Nat, IsKept N V n bound c ∧ e = .returned (.tuple #[.int .i64 c, .int .u64 ((pre N V n : Int) - pre N V (n - c))])

set_option maxHeartbeats 1000000 in
theorem kept_any (na va : Option Addr) (n nc mc : Nat) (N V : Nat → ByteArray) (bound : Int) (w : World)
    (hN : Sees w na n (str N)) (hV : Sees w va n (str V)) (hn : n ≤ 65536) (hNs : Short N n) (hVs : Short V n) (hb0 : 0 ≤ bound) (hb1 : bound ≤ 4294967295) :
    Calls Try.prog 13 #[.slice na n nc, .slice va n mc, .int .u32 bound] w fun e w' => keptPost N V n bound e ∧ Drawn w w' := by
  have hpn := pre_le hNs hVs
  go_enter Try.func13, Try.ntmps13
  go_wp2
  go_loopg [8, 9, 10] n (fun g s c i wr => ∃ k : Nat, k ≤ n ∧ g = n - k ∧ s = .int .u64 ((pre N V n : Int) - pre N V (n - k)) ∧ c = .int .i64 k ∧ i = .int .i64 ((n : Int) - 1 - k) ∧ (pre N V n : Int) - pre N V (n - k) ≤ bound ∧ Drawn w wr)
  case atStart => exact ⟨0, Nat.zero_le _, rfl, by simp, rfl, by simp, by simpa using hb0, Drawn.refl _⟩
  case round =>
    obtain ⟨k, hk, rfl, rfl, rfl, rfl, hfit, hD⟩ := hrel
    by_cases hlt : k < n
    · obtain ⟨d, hd1, hd2, e1, e2, e3⟩ : ∃ d, n ≤ d + 1 + k ∧ d + 1 + k ≤ n ∧ n - k = d + 1 ∧ (n : Int) - 1 - k = (d : Int) ∧ n - (k + 1) = d := ⟨n - k - 1, by omega⟩
      rw [e1] at hfit
      rw [e1, e2]
      have HE : Hid (n - k = d + 1 ∧ n - (k + 1) = d) := ⟨e1, e3⟩
      clear e1 e2 e3
      have hm1 : pre N V d + esz (N d) (V d) ≤ pre N V n := by
        have : pre N V (d + 1) ≤ pre N V n := pre_mono (by omega)
        rwa [pre] at this
      rw [pre] at hfit
      rw [pre]
      have hnk := hNs d (by omega)
      have hvk := hVs d (by omega)
      have hez := esz_le hnk hvk
      obtain ⟨b, o, rfl, hc⟩ := (hD.sees hN).at (i := d) (by omega)
      obtain ⟨b', o', rfl, hc'⟩ := (hD.sees hV).at (i := d) (by omega)
      have hdz : (d : Int) < (n : Int) := by omega
      go_wp2
      go_quiet ((go_at_call 16; exact Calls.quiet_of_same (entrySize_any _ _ _ hnk hvk)))
      by_cases hbb : bound < (pre N V n : Int) - pre N V d
      · go_wp2
        go_ret2
        exact ⟨⟨k, ⟨hk, by rw [HE.out.1]; exact hfit, fun _ => by rw [show n - k - 1 = d from by omega]; exact hbb⟩, by rw [HE.out.1]; rfl⟩, hD.more _⟩
      · go_wp2
        go_roundg (n - (k + 1))
        case measure => omega
        case rel => exact ⟨k + 1, by omega, rfl, by rw [HE.out.2]; go_num, by go_num, by go_num, by rw [HE.out.2]; omega, hD.more _⟩
    · obtain rfl : n = k := by omega
      go_wp2
      go_ret2
      exact ⟨⟨n, ⟨Nat.le_refl _, hfit, fun h => absurd h (by omega)⟩, rfl⟩, hD⟩
end Go.Proofs.Qxb6626459a
