/-
  The walk of 'FnSetMaxTableSizeAboveDefault'.
-/
import Derived.Test.Qxb6626459aTail
namespace Go.Proofs.Qxb6626459a
open Go.RowKit

theorem Enc.of_frame {w w' : World} {E F E' F' n : Nat} {N V : Nat → ByteArray} {S : Nat → Bool} {d : Nat} {mx low : Int} {pend : Bool} (h : Enc w E F n N V S d mx low pend)
    (hf : Frame E' F' w w') (h1 : E ≠ E') (h2 : E ≠ F') (h3 : F ≠ E') (h4 : F ≠ F') : Enc w' E F n N V S d mx low pend := by
  obtain ⟨fa, hfa, hR⟩ := h.fld
  exact ⟨h.le, h.ne, ⟨fa, hfa, hR.of_block (hf.block E hR.lt h1 h2)⟩, h.row.of_block (hf.block F h.row.lt h3 h4)⟩
theorem Enc.of_below {w w' : World} {E F n : Nat} {N V : Nat → ByteArray} {S : Nat → Bool} {d : Nat} {mx low : Int} {pend : Bool} (h : Enc w E F n N V S d mx low pend)
    (hf : Below w.heap.size w w') : Enc w' E F n N V S d mx low pend := by
  obtain ⟨fa, hfa, hR⟩ := h.fld
  exact ⟨h.le, h.ne, ⟨fa, hfa, hR.of_block (hf.block E hR.lt)⟩, h.row.of_block (hf.block F h.row.lt)⟩

/-- A new encoder over new fields. -/
theorem Enc.new {w : World} {F n : Nat} {N V : Nat → ByteArray} {S : Nat → Bool} {size mx low : Int} {pend : Bool} (h : w.rowIs F 48 (n * 3) (fcell N V S)) (hs : (pre N V n : Int) = size) :
    Enc (w.alloc (.cells #[.slice (some ⟨F, 0, none⟩) n n, .int .u32 size, .int .u32 mx, .int .u32 low, .bool pend] 46)) w.heap.size F n N V S 0 mx low pend := by
  have hne : w.heap.size ≠ F := fun e => by have := h.lt; omega
  refine ⟨Nat.zero_le _, hne, ⟨some ⟨F, 0, none⟩, fun _ => by simp, ?_⟩, (h.alloc _).congr (fun j _ => by simp)⟩
  refine World.rowIs_alloc w _ 46 _ (fun i hi => ?_)
  have : i = 0 ∨ i = 1 ∨ i = 2 ∨ i = 3 ∨ i = 4 := by simp at hi; omega
  rcases this with e | e | e | e | e <;> subst e <;> simp [ecell, pre, hs]

theorem Enc.sees {w : World} {E F n : Nat} {N V : Nat → ByteArray} {S : Nat → Bool} {d : Nat} {mx low : Int} {pend : Bool} (h : Enc w E F n N V S d mx low pend) :
    ∃ fa, w.rowIs E 46 5 (ecell fa (n - d) (n - d) ((pre N V n : Int) - pre N V d) mx low pend) ∧ SeesF w fa (n - d) N V S d := by
  obtain ⟨fa, hfa, hR⟩ := h.fld
  have hle := h.le
  refine ⟨fa, hR, F, d * 3, fun hc => hfa (by omega), fun i hi => ⟨?_, ?_, ?_⟩⟩
  · rw [h.row.cell (i := d * 3 + i * 3) (by omega), if_neg (by omega), fcell, if_pos (by omega), show (d * 3 + i * 3) / 3 = d + i from by omega]
  · rw [h.row.cell (i := d * 3 + i * 3 + 1) (by omega), if_neg (by omega), fcell, if_neg (by omega), if_pos (by omega), show (d * 3 + i * 3 + 1) / 3 = d + i from by omega]
  · rw [h.row.cell (i := d * 3 + i * 3 + 2) (by omega), if_neg (by omega), fcell, if_neg (by omega), if_neg (by omega), show (d * 3 + i * 3 + 2) / 3 = d + i from by omega]

/-- A size of at least 4096: nothing is evicted. -/
theorem setAbove_any (E F n : Nat) (N V : Nat → ByteArray) (S : Nat → Bool) (mx low x lowX : Int) (pend pendX : Bool) (w : World)
    (h : Enc w E F n N V S 0 mx low pend) (hn : n ≤ 65536) (hNs : Short N n) (hVs : Short V n) (hsz : pre N V n ≤ 4096) (hx0 : 4096 ≤ x) (hx1 : x ≤ 4294967295)
    (hmx : mx ≤ 4096) (hlow : pend = true → low ≤ mx)
    (hX : (mx = 4096 ∧ lowX = low ∧ pendX = pend) ∨ (mx ≠ 4096 ∧ pendX = true ∧ ((pend = true ∧ lowX = low) ∨ (pend = false ∧ lowX = 4096)))) :
    Calls Try.prog 10 #[.pointer (some ⟨E, 0, none⟩), .int .u32 x] w fun e w' => e = .returned (.tuple #[]) ∧ Enc w' E F n N V S 0 4096 lowX pendX ∧ Frame E F w w' := by
  have hcl : clampN x = 4096 := by unfold clampN; split <;> omega
  rcases hX with ⟨rfl, rfl, rfl⟩ | ⟨hne, rfl, hX⟩
  · refine (set_same E F n N V S 0 4096 _ x _ w h hcl).mono ?_
    rintro e w' ⟨rfl, rfl⟩
    exact ⟨rfl, h, Frame.refl _ _ _⟩
  · refine (set_new E F n N V S 0 mx low x pend w h hn hNs hVs hsz (by omega) hx1 (by rw [hcl]; exact fun e => hne e.symm)).mono ?_
    rw [hcl]
    rintro e w' ⟨rfl, d', h1, h2, h3, h4, h5⟩
    have hd : d' = 0 := by
      rcases Nat.eq_zero_or_pos d' with e | e
      · exact e
      · have := h4 0 (Nat.le_refl _) e
        simp [pre] at this
        omega
    subst hd
    have hl : lowN pend low 4096 = lowX := by
      unfold lowN
      rcases hX with ⟨rfl, rfl⟩ | ⟨rfl, rfl⟩
      · have := hlow rfl
        rw [if_pos rfl, if_neg (by omega)]
      · simp
    rw [hl] at h2
    exact ⟨rfl, h2, h5⟩

theorem below_then {w w1 w2 : World} (h : Below w.heap.size w w1) (k : Below w1.heap.size w1 w2) : Below w.heap.size w w2 := h.trans (k.mono h.size)

set_option maxRecDepth 100000 in
set_option maxHeartbeats 4000000 in
theorem above_walk (na va sa : Option Addr) (n nc m mc l lc : Nat) (N V : Nat → ByteArray) (S : Nat → Bool) (size mx low x : Int) (pend : Bool) (w : World)
    (hN : Sees w na n (str N)) (hV : Sees w va m (str V)) (hS : Sees w sa l (fun i => .bool (S i))) (hn : n ≤ maxLen) (hm : m ≤ maxLen) (hl : l ≤ maxLen)
    (hNs : ∀ i, i < n → (N i).size ≤ maxLen) (hVs : ∀ i, i < m → (V i).size ≤ maxLen)
    (hs0 : 0 ≤ size) (hs1 : size ≤ 4294967295) (hm0 : 0 ≤ mx) (hm1 : mx ≤ 4294967295) (hl0 : 0 ≤ low) (hl1 : low ≤ 4294967295) (_hx0 : 0 ≤ x) (hx1 : x ≤ 4294967295) :
    Calls Try.prog 4 #[.slice na n nc, .slice va m mc, .slice sa l lc, .int .u32 size, .int .u32 mx, .int .u32 low, .bool pend, .int .u32 x] w fun e w' => e = .returned (.bool true) ∧ Below w.heap.size w w' := by
  have B15 := bytes15_any na va sa n nc m mc l lc N V size mx low x pend w hN hV hn hm hl hNs hVs
  have H15 : Hid (Calls Try.prog 15 #[.slice na n nc, .slice va m mc, .slice sa l lc, .int .u32 size, .int .u32 mx, .int .u32 low, .bool pend, .int .u32 x] w fun e w' => bytesPost n m N V e ∧ w = w') := B15
  clear B15 hNs hVs
  have hnz : (n : Int) ≤ 9223372036854775807 := by unfold maxLen at hn; omega
  have hmz : (m : Int) ≤ 9223372036854775807 := by unfold maxLen at hm; omega
  have hlz : (l : Int) ≤ 9223372036854775807 := by unfold maxLen at hl; omega
  go_enter Try.func4, Try.ntmps4
  go_wp2_with fail
  refine H15.out.mono ?_
  rintro e w' ⟨⟨b, rfl, hb⟩, rfl⟩
  clear H15
  cases b with
  | false =>
    go_wp2
    go_ret
    exact ⟨rfl, Below.refl _ _⟩
  | true =>
    obtain ⟨hNs, hVs⟩ := hb rfl
    have hNs : Short N n := hNs
    have hVs : Short V m := hVs
    clear hb
    by_cases q1 : 65536 < (n : Int)
    · go_wp2
      go_ret
      exact ⟨rfl, Below.refl _ _⟩
    by_cases q2 : 65536 < (m : Int)
    · have q1' : decide (65536 < (n : Int)) = false := decide_eq_false q1
      go_wp2
      go_ret
      exact ⟨rfl, Below.refl _ _⟩
    by_cases q3 : 65536 < (l : Int)
    · have q1' : decide (65536 < (n : Int)) = false := decide_eq_false q1
      have q2' : decide (65536 < (m : Int)) = false := decide_eq_false q2
      go_wp2
      go_ret
      exact ⟨rfl, Below.refl _ _⟩
    have q1' : decide (65536 < (n : Int)) = false := decide_eq_false q1
    have q2' : decide (65536 < (m : Int)) = false := decide_eq_false q2
    have q3' : decide (65536 < (l : Int)) = false := decide_eq_false q3
    go_wp2_with fail
    refine (tooBig_any na va n nc m mc _ N V w (by omega) hN hV hn hm hNs hVs).mono ?_
    rintro e w' ⟨⟨b, rfl⟩, rfl⟩
    cases b with
    | true =>
      go_wp2
      go_ret
      exact ⟨rfl, Below.refl _ _⟩
    | false =>
      go_wp2_with fail
      refine (reach_any na va sa n nc m mc l lc N V size mx low pend w hN hV (by omega) (by omega) (by omega) hNs hVs hs0 hs1).mono ?_
      rintro e w1 ⟨⟨b, rfl, hb⟩, hD1⟩
      cases b with
      | false =>
        go_wp2
        go_ret
        exact ⟨rfl, hD1.below _⟩
      | true =>
        obtain ⟨e1, e2, hmx, hsm, hpl, hpre⟩ := hb rfl
        subst e1 e2
        clear hb
        by_cases hx : x < 4096
        · go_wp2
          go_ret
          exact ⟨rfl, hD1.below _⟩
        · have hd : decide (x < 4096) = false := decide_eq_false hx
          have HP : Hid (pend = true → low ≤ mx) := hpl
          have HS : Hid ((pre N V n : Int) = size) := hpre
          have hpr : pre N V n ≤ 4096 := by omega
          clear hpl hpre
          have hcase : ∃ (lowX : Int) (pendX : Bool), ((mx = 4096 ∧ lowX = low ∧ pendX = pend) ∨ (mx ≠ 4096 ∧ pendX = true ∧ ((pend = true ∧ lowX = low) ∨ (pend = false ∧ lowX = 4096)))) ∧
              (((mx != 4096) = false ∧ lowX = low ∧ pend = true ∧ pendX = true) ∨ ((mx != 4096) = false ∧ lowX = low ∧ pend = false ∧ pendX = false) ∨ ((mx != 4096) = true ∧ lowX = low ∧ pend = true ∧ pendX = true) ∨ ((mx != 4096) = true ∧ lowX = 4096 ∧ pend = false ∧ pendX = true)) := by
            by_cases h4 : mx = 4096
            · cases pend with
              | true => exact ⟨low, true, .inl ⟨h4, rfl, rfl⟩, .inl ⟨by rw [h4]; rfl, rfl, rfl, rfl⟩⟩
              | false => exact ⟨low, false, .inl ⟨h4, rfl, rfl⟩, .inr (.inl ⟨by rw [h4]; rfl, rfl, rfl, rfl⟩)⟩
            · cases pend with
              | true => exact ⟨low, true, .inr ⟨h4, rfl, .inl ⟨rfl, rfl⟩⟩, .inr (.inr (.inl ⟨bne_iff_ne.2 h4, rfl, rfl, rfl⟩))⟩
              | false => exact ⟨4096, true, .inr ⟨h4, rfl, .inr ⟨rfl, rfl⟩⟩, .inr (.inr (.inr ⟨bne_iff_ne.2 h4, rfl, rfl, rfl⟩))⟩
          obtain ⟨lowX, pendX, hX, hcase⟩ := hcase
          have HX : Hid ((mx = 4096 ∧ lowX = low ∧ pendX = pend) ∨ (mx ≠ 4096 ∧ pendX = true ∧ ((pend = true ∧ lowX = low) ∨ (pend = false ∧ lowX = 4096)))) := hX
          have HC : Hid (((mx != 4096) = false ∧ lowX = low ∧ pend = true ∧ pendX = true) ∨ ((mx != 4096) = false ∧ lowX = low ∧ pend = false ∧ pendX = false) ∨ ((mx != 4096) = true ∧ lowX = low ∧ pend = true ∧ pendX = true) ∨ ((mx != 4096) = true ∧ lowX = 4096 ∧ pend = false ∧ pendX = true)) := hcase
          clear hX hcase
          have hA1 := hD1.below w.heap.size
          go_wp2_with fail
          refine (fields_any na va sa n nc mc lc N V S w1 (hN.keep hA1) (hV.keep hA1) (hS.keep hA1) (by omega)).mono ?_
          rintro e w2 ⟨rfl, hB2, hz2, hR2⟩
          have hA2 := below_then hA1 hB2
          go_wp2_with fail
          refine (newEnc_any _ n n size mx low pend w2).mono ?_
          rintro e w3 ⟨rfl, hw3⟩
          have hE1 : Enc w3 w2.heap.size w1.heap.size n N V S 0 mx low pend := by rw [← hw3]; exact Enc.new hR2 HS.out
          have hB3 : Below w2.heap.size w2 w3 := by rw [← hw3]; exact (Below.refl _ _).alloc (Nat.le_refl _) _
          have hz3 : w2.heap.size < w3.heap.size := by rw [← hw3]; simp
          clear hw3 hR2 hB2
          have hA3 := below_then hA2 hB3
          go_wp2_with fail
          refine (fields_any na va sa n nc mc lc N V S w3 (hN.keep hA3) (hV.keep hA3) (hS.keep hA3) (by omega)).mono ?_
          rintro e w4 ⟨rfl, hB4, hz4, hR4⟩
          have hA4 := below_then hA3 hB4
          have hE1' := hE1.of_below hB4
          clear hE1
          go_wp2_with fail
          refine (newEnc_any _ n n size mx low pend w4).mono ?_
          rintro e w5 ⟨rfl, hw5⟩
          have hE2 : Enc w5 w4.heap.size w3.heap.size n N V S 0 mx low pend := by rw [← hw5]; exact Enc.new hR4 HS.out
          have hB5 : Below w4.heap.size w4 w5 := by rw [← hw5]; exact (Below.refl _ _).alloc (Nat.le_refl _) _
          have hz5 : w4.heap.size < w5.heap.size := by rw [← hw5]; simp
          have hE1 := hE1'.of_below hB5
          clear hw5 hR4 hB4 hE1'
          have hA5 := below_then hA4 hB5
          have s0 := hA1.size
          go_wp2_with fail
          refine (setAbove_any w2.heap.size w1.heap.size n N V S mx low x lowX pend pendX w5 hE1 (by omega) hNs hVs hpr hx hx1 hmx HP.out HX.out).mono ?_
          rintro e w6 ⟨rfl, hE1, hF6⟩
          have hE2 := hE2.of_frame hF6 (by omega) (by omega) (by omega) (by omega)
          have hA6 := hA5.trans (hF6.below (by omega) (by omega) (by omega))
          go_wp2_with fail
          refine (setAbove_any w4.heap.size w3.heap.size n N V S mx low 4096 lowX pend pendX w6 hE2 (by omega) hNs hVs hpr (by omega) (by omega) hmx HP.out HX.out).mono ?_
          rintro e w7 ⟨rfl, hE2, hF7⟩
          have hE1 := hE1.of_frame hF7 (by omega) (by omega) (by omega) (by omega)
          have s6 := hF6.size
          have hA7 := hA6.trans (hF7.below (by omega) (by omega) (by omega))
          clear hF6 hF7 hA5 hA4 hA3 hA2 hA6
          obtain ⟨fa1, hr1, hs1⟩ := hE1.sees
          obtain ⟨fa2, hr2, hs2⟩ := hE2.sees
          rw [Nat.sub_zero] at hr1 hr2 hs1 hs2
          rw [show (pre N V n : Int) - pre N V 0 = size from by rw [HS.out]; simp [pre]] at hr1 hr2
          go_wp2_with fail
          refine (state_any w2.heap.size fa1 n n size 4096 lowX pendX w7 hr1).mono ?_
          rintro e w8 ⟨rfl, hD8⟩
          go_wp2_with fail
          refine (state_any w4.heap.size fa2 n n size 4096 lowX pendX w8 (hr2.of_block ((hD8.below _).block _ hr2.lt))).mono ?_
          rintro e w9 ⟨rfl, hD9⟩
          have hA8 := below_then hA7 (hD8.below _)
          have hA9 := below_then hA8 (hD9.below _)
          have hs1 := (hs1.keep (hD8.below _)).keep (hD9.below _)
          have hs2 := (hs2.keep (hD8.below _)).keep (hD9.below _)
          rw [show (0 : Nat) = n - n from by omega] at hs1 hs2
          rcases HC.out with ⟨g1, rfl, rfl, rfl⟩ | ⟨g1, rfl, rfl, rfl⟩ | ⟨g1, rfl, rfl, rfl⟩ | ⟨g1, rfl, rfl, rfl⟩
          all_goals
            go_wp2_with fail
            refine (tail_any fa1 na va sa n n n nc mc lc N V S w9 hs1 (hN.keep hA9) (hV.keep hA9) (hS.keep hA9) (by omega) (Nat.le_refl _)).mono ?_
            rintro e w10 ⟨rfl, hB10⟩
            have hA10 := below_then hA9 hB10
            go_wp2_with fail
            refine (tail_any fa2 na va sa n n n nc mc lc N V S w10 (hs2.keep hB10) (hN.keep hA10) (hV.keep hA10) (hS.keep hA10) (by omega) (Nat.le_refl _)).mono ?_
            rintro e w11 ⟨rfl, hB11⟩
            go_wp2
            go_ret
            exact ⟨rfl, below_then hA10 hB11⟩
end Go.Proofs.Qxb6626459a
