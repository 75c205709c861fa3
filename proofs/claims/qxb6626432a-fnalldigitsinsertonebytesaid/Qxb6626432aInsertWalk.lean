/-
  The walk of 'FnAllDigitsInsertOneByte' at inputs within its bounds, and the plain law on a list with one byte put in.
-/
import Derived.Test.Qxb6626432aDigits
import Derived.OpenShut
import Derived.Deep.LoopGhost
import Derived.Deep.OwnRows
import Derived.Laws.BytesArg
namespace Go.Proofs.Qxb6626432a
open Go.RowKit

theorem Try.info5' : (Try.prog.info? 5).map (fun i => (i.zero, i.size, i.bytes)) = some (some (.int .u8 0), 1, 1) := by kernel_rfl

/-- The text with c put in at p. -/
def insL (l : List UInt8) (p : Nat) (c : UInt8) : List UInt8 := l.take p ++ c :: l.drop p

theorem ins_all (l : List UInt8) (p : Nat) (c : UInt8) : (insL l p c).all dg = (dg c && l.all dg) := by
  unfold insL
  have h : l.all dg = ((l.take p).all dg && (l.drop p).all dg) := by rw [← List.all_append, List.take_append_drop]
  rw [List.all_append, List.all_cons, h]
  cases dg c <;> cases (l.take p).all dg <;> cases (l.drop p).all dg <;> rfl

theorem ins_ok (l : List UInt8) (p : Nat) (c : UInt8) : allD (insL l p c) = (dg c && (l.isEmpty || allD l)) := by
  rw [allD, ins_all, allD]
  have : (insL l p c).isEmpty = false := by unfold insL; simp
  rw [this]
  cases l with
  | nil => simp
  | cons x l => simp

/-- The content of the new row when the first loop has gone k rounds. -/
def row1 (l : List UInt8) (k : Nat) : Nat → Value := fun j => if j < k then .int .u8 ((l.getD j 0).toNat : Int) else .int .u8 0
/-- .. and when, behind the store of c at p, the second loop stands at k. -/
def row2 (l : List UInt8) (p k : Nat) (c : UInt8) : Nat → Value := fun j => if j < p then .int .u8 ((l.getD j 0).toNat : Int) else if j = p then .int .u8 (c.toNat : Int) else if j < k + 1 then .int .u8 ((l.getD (j - 1) 0).toNat : Int) else .int .u8 0

theorem row1_step (l : List UInt8) (k : Nat) (x : UInt8) (hx : l.getD k 0 = x) (j : Nat) : (if j = k then Value.int .u8 (x.toNat : Int) else row1 l k j) = row1 l (k + 1) j := by
  unfold row1
  by_cases e : j = k
  · subst e; rw [if_pos rfl, if_pos (by omega), hx]
  · rw [if_neg e]
    by_cases h : j < k
    · rw [if_pos h, if_pos (by omega)]
    · rw [if_neg h, if_neg (by omega)]

theorem row2_start (l : List UInt8) (p : Nat) (c : UInt8) (j : Nat) : (if j = p then Value.int .u8 (c.toNat : Int) else row1 l p j) = row2 l p p c j := by
  unfold row1 row2
  by_cases e : j = p
  · subst e; rw [if_pos rfl, if_neg (by omega), if_pos rfl]
  · rw [if_neg e]
    by_cases h : j < p
    · rw [if_pos h, if_pos h]
    · rw [if_neg h, if_neg h, if_neg e, if_neg (by omega)]

theorem row2_step (l : List UInt8) (p k : Nat) (c x : UInt8) (hk : p ≤ k) (hx : l.getD k 0 = x) (j : Nat) : (if j = k + 1 then Value.int .u8 (x.toNat : Int) else row2 l p k c j) = row2 l p (k + 1) c j := by
  unfold row2
  by_cases e : j = k + 1
  · subst e; rw [if_pos rfl, if_neg (by omega), if_neg (by omega), if_pos (by omega), Nat.add_sub_cancel, hx]
  · rw [if_neg e]
    by_cases h : j < p
    · rw [if_pos h, if_pos h]
    · rw [if_neg h, if_neg h]
      by_cases h2 : j = p
      · rw [if_pos h2, if_pos h2]
      · rw [if_neg h2, if_neg h2]
        by_cases h3 : j < k + 1
        · rw [if_pos h3, if_pos (by omega)]
        · rw [if_neg h3, if_neg (by omega)]

/-- The bytes as numbers. -/
def nums (l : List UInt8) : List Int := l.map fun b => (b.toNat : Int)

theorem nums_getD (l : List UInt8) (j : Nat) : (nums l).getD j 0 = ((l.getD j 0).toNat : Int) := by
  unfold nums
  rw [List.getD_eq_getElem?_getD, List.getD_eq_getElem?_getD, List.getElem?_map]
  cases l[j]? <;> rfl

theorem str_nums (l : List UInt8) : (strOfNums (nums l)).data.toList = l := by
  rw [strOfNums_data, nums, List.map_map]
  conv => rhs; rw [← List.map_id l]
  apply List.map_congr_left
  intro b _
  simp

theorem ins_length (l : List UInt8) (p : Nat) (c : UInt8) (hp : p ≤ l.length) : (insL l p c).length = l.length + 1 := by
  unfold insL; simp; omega

theorem ins_getD (l : List UInt8) (p : Nat) (c : UInt8) (hp : p ≤ l.length) (j : Nat) : (insL l p c).getD j 0 = if j < p then l.getD j 0 else if j = p then c else l.getD (j - 1) 0 := by
  unfold insL
  simp only [List.getD_eq_getElem?_getD]
  by_cases h : j < p
  · rw [if_pos h, List.getElem?_append_left (by simp; omega), List.getElem?_take_of_lt h]
  · rw [if_neg h, List.getElem?_append_right (by simp; omega)]
    have e : (l.take p).length = p := by simp; omega
    rw [e]
    by_cases h2 : j = p
    · subst h2; simp
    · rw [if_neg h2]
      obtain ⟨d, rfl⟩ : ∃ d, j = p + 1 + d := ⟨j - (p + 1), by omega⟩
      rw [show p + 1 + d - p = d + 1 from by omega, List.getElem?_cons_succ, List.getElem?_drop, show p + 1 + d - 1 = p + d from by omega]

theorem row2_end (l : List UInt8) (p : Nat) (c : UInt8) (hp : p ≤ l.length) (j : Nat) (hj : j < l.length + 1) : row2 l p l.length c j = Value.int .u8 ((nums (insL l p c)).getD j 0) := by
  rw [nums_getD, ins_getD l p c hp, row2]
  by_cases h : j < p
  · rw [if_pos h, if_pos h]
  · rw [if_neg h, if_neg h]
    by_cases h2 : j = p
    · rw [if_pos h2, if_pos h2]
    · rw [if_neg h2, if_neg h2, if_pos hj]

theorem getD_at (s : ByteArray) (k : Nat) (h : k < s.size) : s.data.toList.getD k 0 = s[k] := by
  rw [List.getD_eq_getElem?_getD, List.getElem?_eq_getElem (by simpa using h)]; rfl

theorem single_ok (c : UInt8) : allD (strOfNums [(c.toNat : Int)]).data.toList = dg c := by
  rw [show [(c.toNat : Int)] = nums [c] from rfl, str_nums]
  simp [allD]

set_option maxRecDepth 100000 in
set_option maxHeartbeats 2000000 in
theorem insert_walk (s : ByteArray) (p : Nat) (c : UInt8) (w : World) (hs : s.size ≤ 1048576) (hp : p ≤ s.size) :
    Calls Try.prog 3 #[.string s, .int .i64 p, .int .u8 (c.toNat : Int)] w fun e w' => e = .returned (.bool true) ∧ Grown w w' := by
  have hm : s.size ≤ maxLen := by unfold maxLen; omega
  have hmk := run_make_row' (P := Try.prog) 23 5 (.int .u8 0) 1 Try.underlying23 Try.info5' rfl .i64 .i64 (s.size + 1) (by omega) (by omega)
  rw [show ((s.size + 1 : Nat) : Int) = (s.size : Int) + 1 from by omega] at hmk
  have hmk1 : ∀ w, (Instr.makeSlice 23 (.int .i64 1) (.int .i64 1)).run Try.prog w = .ok (.slice (some ⟨w.heap.size, 0, none⟩) 1 1) (w.alloc (.cells #[.int .u8 0] 5)) := fun _ => by kernel_rfl
  have hdec : decide (s.size ≤ 1048576) = true := decide_eq_true hs
  have hcd : (c.toNat : Int) < 256 := by have := c.toNat_lt; omega
  have hd1 : decide ((p : Int) < 0) = false := decide_eq_false (by omega)
  have hd2 : decide (s.size < p) = false := decide_eq_false (by omega)
  have hd3 : decide ((1048576 : Int) < (s.size : Int)) = false := decide_eq_false (by omega)
  have hp1 : 0 ≤ (p : Int) := by omega
  have hp2 : (p : Int) ≤ (s.size : Int) := by omega
  -- the three calls of AllDigits
  have DS : ∀ cd, dg c = cd → Hid (∀ wx, Calls Try.prog 6 #[.string (strOfNums [(c.toNat : Int)])] wx fun e w' => e = .returned (.bool cd) ∧ wx = w') := fun cd h wx => by
    have := digits_any (strOfNums [(c.toNat : Int)]) wx (by rw [strOfNums_size]; unfold maxLen; simp)
    rw [single_ok, h] at this
    exact this
  have DF : ∀ cd E A f, dg c = cd → s.toList.isEmpty = E → allD s.data.toList = A → f = strOfNums (nums (insL s.data.toList p c)) → Hid (∀ wx, Calls Try.prog 6 #[.string f] wx fun e w' => e = .returned (.bool (cd && (E || A))) ∧ wx = w') := fun cd E A f h hE hA hf wx => by
    have := digits_any f wx (by rw [hf, strOfNums_size, nums, List.length_map, ins_length _ _ _ (by simpa using hp)]; unfold maxLen; simp; omega)
    have e : allD f.data.toList = (cd && (E || A)) := by rw [hf, str_nums, ins_ok, h, hA, ← ByteArray.toList_eq, hE]
    rw [e] at this
    exact this
  obtain ⟨cd, hcdg, hcases⟩ : ∃ cd : Bool, dg c = cd ∧ (((c.toNat : Int) < 48 ∧ cd = false) ∨ ((48 ≤ (c.toNat : Int) ∧ decide ((c.toNat : Int) ≤ 57) = true) ∧ cd = true) ∨ ((decide ((c.toNat : Int) ≤ 57) = false ∧ 48 ≤ (c.toNat : Int)) ∧ cd = false)) := by
    by_cases h1 : (c.toNat : Int) < 48
    · exact ⟨_, dg_no (.inl h1), .inl ⟨h1, rfl⟩⟩
    · by_cases h2 : (c.toNat : Int) ≤ 57
      · exact ⟨_, dg_yes (by omega) h2, .inr (.inl ⟨⟨by omega, decide_eq_true h2⟩, rfl⟩)⟩
      · exact ⟨_, dg_no (.inr (by omega)), .inr (.inr ⟨⟨decide_eq_false h2, by omega⟩, rfl⟩)⟩
  rcases hcases with ⟨hc, rfl⟩ | ⟨⟨hc, hc'⟩, rfl⟩ | ⟨⟨hc, hc'⟩, rfl⟩
  all_goals
    have ds := DS _ hcdg
    have df := fun E A f => DF _ E A f hcdg
    have HDF : Hid (∀ E A f, _) := df
    clear hcdg DS DF df
    go_enter Try.func3, Try.ntmps3
    go_wp2_with (go_at_call 5; refine (bytes5_any s _ _ _ hm).mono ?_; rintro e w' ⟨rfl, rfl⟩)
    clear hmk
    go_loopg [9] p (fun g i wr => ∃ k : Nat, k ≤ p ∧ g = p - k ∧ i = .int .i64 k ∧ Grown w wr ∧ wr.rowIs w.heap.size 5 (s.size + 1) (row1 s.data.toList k))
    case atStart => exact ⟨0, Nat.zero_le _, rfl, rfl, (Grown.refl w).alloc _ _, (World.rowIs_made w _ (s.size + 1) 5).congr (fun j _ => by simp [row1])⟩
    case round =>
      obtain ⟨k, hk, rfl, rfl, hG, hR⟩ := hrel
      by_cases hlt : k < p
      · have hlz : (k : Int) < (s.size : Int) := by omega
        have hlz1 : (k : Int) < (s.size : Int) + 1 := by omega
        have hlp : (k : Int) < (p : Int) := by omega
        have hc1 := hR.cell (i := k) (by omega)
        have hf1 := hR.frozen k
        go_wp2
        go_roundg (p - (k + 1))
        case measure => omega
        case rel => exact ⟨k + 1, by omega, rfl, by go_num, hG.setCell (Nat.le_refl _) _, (hR.set k _).congr (fun j _ => row1_step _ k _ (getD_at s k (by omega)) j)⟩
      · obtain rfl : p = k := by omega
        have hc1 := hR.cell (i := p) (by omega)
        have hf1 := hR.frozen p
        have hlz1 : (p : Int) < (s.size : Int) + 1 := by omega
        go_wp2
        clear hc1 hf1
        go_loopg [10] (s.size - p) (fun g i wr => ∃ k : Nat, p ≤ k ∧ k ≤ s.size ∧ g = s.size - k ∧ i = .int .i64 k ∧ Grown w wr ∧ wr.rowIs w.heap.size 5 (s.size + 1) (row2 s.data.toList p k c))
        case atStart => exact ⟨p, Nat.le_refl _, hp, rfl, rfl, hG.setCell (Nat.le_refl _) _, (hR.set p _).congr (fun j _ => row2_start _ p c j)⟩
        case round =>
          clear hG hR
          obtain ⟨k, hpk, hk, rfl, rfl, hG, hR⟩ := hrel
          by_cases hlt : k < s.size
          · have hlz : (k : Int) < (s.size : Int) := by omega
            have hlz1 : (k : Int) + 1 < (s.size : Int) + 1 := by omega
            have hc1 := hR.cell (i := k + 1) (by omega)
            have hf1 := hR.frozen (k + 1)
            go_wp2
            go_roundg (s.size - (k + 1))
            case measure => omega
            case rel => exact ⟨k + 1, by omega, by omega, rfl, by go_num, hG.setCell (Nat.le_refl _) _, (hR.set (k + 1) _).congr (fun j _ => row2_step _ p k c _ hpk (getD_at s k hlt) j)⟩
          · obtain rfl : s.size = k := by omega
            have hl : s.data.toList.length = s.size := by simp
            have hcv := run_convert_bytes_arg (P := Try.prog) wr 23 5 Try.underlying23 Try.underlying5 w.heap.size 0 (s.size + 1) (s.size + 1) (nums (insL s.data.toList p c)) (by rw [nums, List.length_map, ins_length _ _ _ (by omega), hl])
              (fun i hi => by
                rw [Nat.zero_add, hR.cell hi]
                have := row2_end s.data.toList p c (by omega) i (by omega)
                rw [hl] at this
                rw [this]) 9 Try.underlying9
            have hcv1 := run_convert_bytes_arg (P := Try.prog) (wr.alloc (.cells #[.int .u8 (c.toNat : Int)] 5)) 23 5 Try.underlying23 Try.underlying5 wr.heap.size 0 1 1 [(c.toNat : Int)] rfl
              (fun i hi => by
                obtain rfl : i = 0 := by omega
                simp) 9 Try.underlying9
            obtain ⟨f, hf⟩ : ∃ f, f = strOfNums (nums (insL s.data.toList p c)) := ⟨_, rfl⟩
            rw [← hf] at hcv
            have DA : ∀ A, allD s.data.toList = A → Hid (∀ wx, Calls Try.prog 6 #[.string s] wx fun e w' => e = .returned (.bool A) ∧ wx = w') := fun A hA wx => by
              have := digits_any s wx hm
              rw [hA] at this
              exact this
            clear hR
            cases hE : s.toList.isEmpty <;> cases hA : allD s.data.toList
            all_goals
              have df := HDF.out _ _ f hE hA hf
              have da := DA _ hA
              clear hA hf HDF DA
              go_wp2_with fail
              refine (ds.out _).mono ?_
              rintro e w' ⟨rfl, rfl⟩
              go_wp2_with fail
              refine (da.out _).mono ?_
              rintro e w' ⟨rfl, rfl⟩
              go_wp2_with fail
              refine (df.out _).mono ?_
              rintro e w' ⟨rfl, rfl⟩
              go_wp2
              go_ret
              exact ⟨rfl, hG.alloc _ _⟩
end Go.Proofs.Qxb6626432a
