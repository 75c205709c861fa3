/-
  The walk of 'FnAllDigitsFixedPointsOfDigitFold' at texts within its bound, and the plain law on the folded byte.
-/
import Derived.Test.Qxb6626432aDigits
import Derived.OpenShut
import Derived.Deep.LoopGhost
import Derived.Deep.OwnRows
import Derived.Laws.BytesArg
namespace Go.Proofs.Qxb6626432a
open Go.RowKit

theorem Try.info5 : (Try.prog.info? 5).map (fun i => (i.zero, i.size, i.bytes)) = some (some (.int .u8 0), 1, 1) := by kernel_rfl

/-- One byte folded, as a number. -/
def foldN (c : UInt8) : Int := 48 + (((c.toNat : Int) - 48) % 256) % 10

theorem foldN_range (c : UInt8) : 48 ≤ foldN c ∧ foldN c ≤ 57 := by unfold foldN; omega

/-- The folded byte. -/
def foldB (c : UInt8) : UInt8 := UInt8.ofNat (foldN c).toNat

theorem foldB_toNat (c : UInt8) : ((foldB c).toNat : Int) = foldN c := by
  have h := foldN_range c
  unfold foldB
  rw [UInt8.toNat_ofNat']
  omega

theorem fold_dg (c : UInt8) : dg (foldB c) = true := by
  have h := foldN_range c
  have e := foldB_toNat c
  exact dg_yes (by omega) (by omega)

theorem fold_fix (c : UInt8) : (foldB c == c) = dg c := by
  have e := foldB_toNat c
  have hc : c.toNat < 256 := c.toNat_lt
  by_cases h : 48 ≤ (c.toNat : Int) ∧ (c.toNat : Int) ≤ 57
  · rw [dg_yes h.1 h.2, beq_iff_eq]
    apply UInt8.toNat_inj.1
    unfold foldN at e
    omega
  · rw [dg_no (by omega), beq_eq_false_iff_ne]
    intro k
    rw [k] at e
    have := foldN_range c
    omega

theorem map_fix : ∀ l : List UInt8, (l.map foldB == l) = l.all dg
  | [] => rfl
  | c :: l => by
    rw [List.map_cons, List.cons_beq_cons, fold_fix, map_fix l, List.all_cons]

theorem map_all : ∀ l : List UInt8, (l.map foldB).all dg = true
  | [] => rfl
  | c :: l => by rw [List.map_cons, List.all_cons, fold_dg, map_all l]; rfl

theorem folded_data (l : List UInt8) : (strOfNums (l.map foldN)).data.toList = l.map foldB := by
  rw [strOfNums_data, List.map_map]; rfl

theorem fold_ok (l : List UInt8) (f : ByteArray) (h : f = strOfNums (l.map foldN)) : allD f.data.toList = !l.isEmpty := by
  subst h
  rw [folded_data, allD, map_all]
  simp

theorem fold_same (s f : ByteArray) (h : f = strOfNums (s.data.toList.map foldN)) : (f.toList == s.toList) = s.data.toList.all dg := by
  subst h
  rw [ByteArray.toList_eq, ByteArray.toList_eq, folded_data, map_fix]

set_option maxHeartbeats 400000 in
theorem fold_walk (s : ByteArray) (w : World) (hs : s.size ≤ 1048576) :
    Calls Try.prog 4 #[.string s] w fun e w' => e = .returned (.bool true) ∧ Grown w w' := by
  have hm : s.size ≤ maxLen := by unfold maxLen; omega
  have hmk := run_make_row' (P := Try.prog) 23 5 (.int .u8 0) 1 Try.underlying23 Try.info5 rfl .i64 .i64 s.size (by omega) (by omega)
  have hdec : decide (s.size ≤ 1048576) = true := decide_eq_true hs
  go_enter Try.func4, Try.ntmps4
  go_wp2_with (go_at_call 7; refine (bytes7_any s _ hm).mono ?_; rintro e w' ⟨rfl, rfl⟩)
  clear hmk
  go_loopg [4] s.size (fun g i wr => ∃ k : Nat, k ≤ s.size ∧ g = s.size - k ∧ i = .int .i64 k ∧ Grown w wr ∧ wr.rowIs w.heap.size 5 s.size (fun j => if j < k then .int .u8 (foldN (s.data.toList.getD j 0)) else .int .u8 0))
  case atStart =>
    exact ⟨0, Nat.zero_le _, rfl, rfl, (Grown.refl w).alloc _ _, (World.rowIs_made w _ s.size 5).congr (fun j _ => by simp)⟩
  case round =>
    obtain ⟨k, hk, rfl, rfl, hG, hR⟩ := hrel
    by_cases hlt : k < s.size
    · have hlz : (k : Int) < (s.size : Int) := by omega
      have hc := hR.cell hlt
      have hf := hR.frozen k
      go_wp2
      go_roundg (s.size - (k + 1))
      case measure => omega
      case rel =>
        refine ⟨k + 1, by omega, rfl, by go_num, hG.setCell (Nat.le_refl _) _, (hR.set k _).congr (fun j hj => ?_)⟩
        by_cases e : j = k
        · subst e
          rw [if_pos rfl, if_pos (by omega), List.getD_eq_getElem?_getD, List.getElem?_eq_getElem (by simpa using hj)]
          rfl
        · rw [if_neg e]
          by_cases hjk : j < k
          · rw [if_pos hjk, if_pos (by omega)]
          · rw [if_neg hjk, if_neg (by omega)]
    · obtain rfl : k = s.size := by omega
      have hcv := run_convert_bytes_arg (P := Try.prog) wr 23 5 Try.underlying23 Try.underlying5 w.heap.size 0 s.size s.size (s.data.toList.map foldN) (by simp)
        (fun i hi => by
          have := hR.cell hi
          rw [if_pos hi] at this
          rw [Nat.zero_add, this]
          simp [List.getElem?_eq_getElem (show i < s.data.toList.length by simpa using hi)]) 9 Try.underlying9
      obtain ⟨f, hf⟩ : ∃ f, f = strOfNums (s.data.toList.map foldN) := ⟨_, rfl⟩
      rw [← hf] at hcv
      have HF : Hid (f = strOfNums (s.data.toList.map foldN)) := hf
      clear hf
      have hfm : f.size ≤ maxLen := by
        rw [HF.out, strOfNums_size]; unfold maxLen; simp; omega
      have D1 : ∀ E : Bool, s.toList.isEmpty = E → Hid (∀ wx, Calls Try.prog 6 #[.string f] wx fun e w' => e = .returned (.bool (!E)) ∧ wx = w') := fun E hE wx => by
        have := digits_any f wx hfm
        rw [fold_ok _ f HF.out, ← ByteArray.toList_eq, hE] at this
        exact this
      have D2 : ∀ E A : Bool, s.toList.isEmpty = E → s.data.toList.all dg = A → Hid (∀ wx, Calls Try.prog 6 #[.string s] wx fun e w' => e = .returned (.bool (!E && A)) ∧ wx = w') := fun E A hE hA wx => by
        have := digits_any s wx hm
        rw [allD, ← ByteArray.toList_eq, hE, ByteArray.toList_eq, hA] at this
        exact this
      have e2 := fold_same s f HF.out
      clear HF hR hlt hk hm
      cases hE : s.toList.isEmpty <;> cases hA : s.data.toList.all dg
      all_goals
        have d1 := D1 _ hE
        have d2 := D2 _ _ hE hA
        rw [hA] at e2
        clear D1 D2 hA
        go_wp2_with fail
        refine (d1.out _).mono ?_
        rintro e w' ⟨rfl, rfl⟩
        go_wp2_with fail
        refine (d2.out _).mono ?_
        rintro e w' ⟨rfl, rfl⟩
        go_wp2
        go_ret
        exact ⟨rfl, hG⟩
end Go.Proofs.Qxb6626432a
