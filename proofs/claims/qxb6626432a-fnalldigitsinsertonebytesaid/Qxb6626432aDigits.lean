/-
  The callees of the two laws: the byte bound ('zzBytes_..') and 'AllDigits', each by a contract of its own.
-/
import Derived.Test.Qxb6626432aRows
import Derived.WalkKit
import Derived.ProofKit
namespace Go.Proofs.Qxb6626432a
open Go.RowKit

/-- One byte is an ASCII digit. -/
def dg (c : UInt8) : Bool := decide (48 ≤ (c.toNat : Int) ∧ (c.toNat : Int) ≤ 57)
/-- A list of bytes is one or more ASCII digits. -/
def allD (l : List UInt8) : Bool := !l.isEmpty && l.all dg

theorem dg_yes {c : UInt8} (h1 : 48 ≤ (c.toNat : Int)) (h2 : (c.toNat : Int) ≤ 57) : dg c = true := decide_eq_true ⟨h1, h2⟩
theorem dg_no {c : UInt8} (h : (c.toNat : Int) < 48 ∨ 57 < (c.toNat : Int)) : dg c = false := decide_eq_false (fun k => by omega)

theorem take_snoc (s : ByteArray) (k : Nat) (h : k < s.size) : s.data.toList.take (k + 1) = s.data.toList.take k ++ [s[k]] := by
  rw [List.take_succ_eq_append_getElem (by simpa using h)]; rfl

theorem all_snoc (s : ByteArray) (k : Nat) (h : k < s.size) (ha : (s.data.toList.take k).all dg = true) (hd : dg s[k] = true) : (s.data.toList.take (k + 1)).all dg = true := by
  rw [take_snoc s k h, List.all_append, ha]; simp [hd]

theorem all_stop (s : ByteArray) (k : Nat) (h : k < s.size) (hd : dg s[k] = false) : allD s.data.toList = false := by
  have hm : s[k] ∈ s.data.toList := by
    rw [show s[k] = s.data.toList[k]'(by simpa using h) from rfl]
    exact List.getElem_mem _
  have : s.data.toList.all dg = false := by
    rw [List.all_eq_false]
    exact ⟨_, hm, by simp [hd]⟩
  simp [allD, this]

theorem ret_bool {a b : Bool} (h : a = b) : Ending.returned (.bool a) = .returned (.bool b) := by rw [h]

set_option maxHeartbeats 400000 in
theorem digits_any (s : ByteArray) (w : World) (hs : s.size ≤ maxLen) :
    Calls Try.prog 6 #[.string s] w fun e w' => e = .returned (.bool (allD s.data.toList)) ∧ w = w' := by
  unfold maxLen at hs
  by_cases h0 : s.toList.isEmpty = true
  · have hf : allD s.data.toList = false := by
      have : s.data.toList = [] := by simpa [ByteArray.toList_eq] using h0
      simp [allD, this]
    have HF : Hid (allD s.data.toList = false) := hf
    clear hf
    go_enter Try.func6, Try.ntmps6
    go_wp2
    go_ret
    exact ⟨ret_bool HF.out.symm, rfl⟩
  · have hne : s.data.toList.isEmpty = false := by
      rw [ByteArray.toList_eq] at h0
      simpa using h0
    go_enter Try.func6, Try.ntmps6
    go_wp2
    go_loop [3] (fun i => ∃ k : Nat, k ≤ s.size ∧ i = .int .i64 k ∧ (s.data.toList.take k).all dg = true) (fun i => s.size - (intOf i).toNat)
    case atStart => exact ⟨0, Nat.zero_le _, rfl, rfl⟩
    case round =>
      obtain ⟨k, hk, rfl, hall⟩ := hrel
      by_cases hlt : k < s.size
      · have HA : Hid ((s.data.toList.take k).all dg = true) := hall
        clear hall
        by_cases h1 : (s[k].toNat : Int) < 48
        · have HF : Hid (allD s.data.toList = false) := all_stop s k hlt (dg_no (.inl h1))
          go_wp2
          go_ret
          exact ⟨ret_bool HF.out.symm, rfl⟩
        · by_cases h2 : 57 < (s[k].toNat : Int)
          · have HF : Hid (allD s.data.toList = false) := all_stop s k hlt (dg_no (.inr h2))
            go_wp2
            go_ret
            exact ⟨ret_bool HF.out.symm, rfl⟩
          · have HA' : Hid ((s.data.toList.take (k + 1)).all dg = true) := all_snoc s k hlt HA.out (dg_yes (by omega) (by omega))
            go_wp2
            go_round
            case rel => exact ⟨k + 1, by omega, by go_num, HA'.out⟩
            case measure => simp [intOf]; omega
      · have HF : Hid (allD s.data.toList = true) := by
          rw [List.take_of_length_le (by simp; omega)] at hall
          simp [allD, hne, hall, Hid]
        clear hall
        go_wp2
        go_ret
        exact ⟨ret_bool HF.out.symm, rfl⟩

theorem bytes5_any (s : ByteArray) (p c : Int) (w : World) (hs : s.size ≤ maxLen) :
    Calls Try.prog 5 #[.string s, .int .i64 p, .int .u8 c] w fun e w' => e = .returned (.bool (decide (s.size ≤ 1048576))) ∧ w = w' := by
  unfold maxLen at hs
  by_cases h : s.size ≤ 1048576
  · rw [decide_eq_true h]
    go_enter Try.func5, Try.ntmps5
    go_wp2
    go_ret
    exact ⟨rfl, rfl⟩
  · rw [decide_eq_false h]
    go_enter Try.func5, Try.ntmps5
    go_wp2
    go_ret
    exact ⟨rfl, rfl⟩

theorem bytes7_any (s : ByteArray) (w : World) (hs : s.size ≤ maxLen) :
    Calls Try.prog 7 #[.string s] w fun e w' => e = .returned (.bool (decide (s.size ≤ 1048576))) ∧ w = w' := by
  unfold maxLen at hs
  by_cases h : s.size ≤ 1048576
  · rw [decide_eq_true h]
    go_enter Try.func7, Try.ntmps7
    go_wp2
    go_ret
    exact ⟨rfl, rfl⟩
  · rw [decide_eq_false h]
    go_enter Try.func7, Try.ntmps7
    go_wp2
    go_ret
    exact ⟨rfl, rfl⟩

end Go.Proofs.Qxb6626432a
