/-
  The walk of 'FnSetMaxTableSizeScript'.
-/
import Derived.Test.Qxb6626459aAbove
import Derived.Test.Qxb6626459aPlain
namespace Go.Proofs.Qxb6626459a
open Go.RowKit

/-- The sizes chosen, clamped. -/
def clampAt (U : Nat → Int) : Nat → Int := fun i => clampN (U i)
theorem clampAt_range {U : Nat → Int} {q : Nat} (hU : ∀ i, i < q → 0 ≤ U i ∧ U i ≤ 4294967295) : ∀ i, i < q → 0 ≤ clampAt U i ∧ clampAt U i ≤ 4096 := fun i hi => by
  have := hU i hi
  unfold clampAt clampN
  split <;> omega

/-- The sum of the entries from j on. -/
def tailSum (N V : Nat → ByteArray) (n : Nat) : Nat → Int := fun j => (pre N V n : Int) - pre N V j
theorem tailSum_mono (N V : Nat → ByteArray) (n : Nat) : ∀ i j, i ≤ j → tailSum N V n j ≤ tailSum N V n i := fun i j h => by
  have := pre_mono (N := N) (V := V) h
  unfold tailSum
  omega

/-- What holds of the encoder behind k calls of the script. -/
def ScriptInv (w3 wr : World) (E F n : Nat) (N V : Nat → ByteArray) (S : Nat → Bool) (mx low : Int) (pend : Bool) (C : Nat → Int) (k : Nat) : Prop :=
  ∃ d, Enc wr E F n N V S d (mxAt mx C k) (stAt mx low pend C k).1 (stAt mx low pend C k).2 ∧ IsCut (tailSum N V n) d (bdAt mx C k) ∧ Frame E F w3 wr

theorem script_call (w3 wr : World) (E F n : Nat) (N V : Nat → ByteArray) (S : Nat → Bool) (mx low : Int) (pend : Bool) (U : Nat → Int) (k : Nat)
    (h : ScriptInv w3 wr E F n N V S mx low pend (clampAt U) k) (hn : n ≤ 65536) (hNs : Short N n) (hVs : Short V n) (hsz : pre N V n ≤ 4096) (hU0 : 0 ≤ U k) (hU1 : U k ≤ 4294967295) :
    Calls Try.prog 10 #[.pointer (some ⟨E, 0, none⟩), .int .u32 (U k)] wr fun e w' => e = .returned (.tuple #[]) ∧ ScriptInv w3 w' E F n N V S mx low pend (clampAt U) (k + 1) := by
  obtain ⟨d, hE, hC, hF⟩ := h
  by_cases hx : clampN (U k) = mxAt mx (clampAt U) k
  · refine (set_same E F n N V S d _ _ (U k) _ wr hE hx).mono ?_
    rintro e w' ⟨rfl, rfl⟩
    refine ⟨rfl, d, ?_, ?_, hF⟩
    · have hx' : clampAt U k = mxAt mx (clampAt U) k := hx
      rw [stAt, if_pos hx']
      show Enc wr E F n N V S d (clampAt U k) _ _
      rw [hx']
      exact hE
    · rw [bdAt_same hx]
      exact hC
  · refine (set_new E F n N V S d _ _ (U k) _ wr hE hn hNs hVs hsz hU0 hU1 hx).mono ?_
    rintro e w' ⟨rfl, d', h1, h2, h3, h4, h5⟩
    have hx' : ¬ clampAt U k = mxAt mx (clampAt U) k := hx
    refine ⟨rfl, d', ?_, hC.step (fun i j hij _ => tailSum_mono N V n i j hij) h1 h3 h4, hF.trans h5⟩
    rw [stAt, if_neg hx']
    exact h2

set_option maxRecDepth 100000 in
set_option maxHeartbeats 4000000 in
theorem script_walk (na va sa ua : Option Addr) (n nc m mc l lc q qc : Nat) (N V : Nat → ByteArray) (S : Nat → Bool) (U : Nat → Int) (size mx low : Int) (pend : Bool) (w : World)
    (hN : Sees w na n (str N)) (hV : Sees w va m (str V)) (hS : Sees w sa l (fun i => .bool (S i))) (hU : Sees w ua q (fun i => .int .u32 (U i))) (hn : n ≤ maxLen) (hm : m ≤ maxLen) (hl : l ≤ maxLen) (hq : q ≤ maxLen)
    (hNs : ∀ i, i < n → (N i).size ≤ maxLen) (hVs : ∀ i, i < m → (V i).size ≤ maxLen) (hUr : ∀ i, i < q → 0 ≤ U i ∧ U i ≤ 4294967295)
    (hs0 : 0 ≤ size) (hs1 : size ≤ 4294967295) (hm0 : 0 ≤ mx) (hm1 : mx ≤ 4294967295) (_hl0 : 0 ≤ low) (_hl1 : low ≤ 4294967295) :
    Calls Try.prog 3 #[.slice na n nc, .slice va m mc, .slice sa l lc, .int .u32 size, .int .u32 mx, .int .u32 low, .bool pend, .slice ua q qc] w fun e w' => e = .returned (.bool true) ∧ Below w.heap.size w w' := by
  have B5 := bytes5_any na va sa ua n nc m mc l lc q qc N V size mx low pend w hN hV hn hm hl hq hNs hVs
  have H5 : Hid (Calls Try.prog 5 #[.slice na n nc, .slice va m mc, .slice sa l lc, .int .u32 size, .int .u32 mx, .int .u32 low, .bool pend, .slice ua q qc] w fun e w' => bytesPost n m N V e ∧ w = w') := B5
  clear B5 hNs hVs
  have hnz : (n : Int) ≤ 9223372036854775807 := by unfold maxLen at hn; omega
  have hmz : (m : Int) ≤ 9223372036854775807 := by unfold maxLen at hm; omega
  have hlz : (l : Int) ≤ 9223372036854775807 := by unfold maxLen at hl; omega
  have hqz : (q : Int) ≤ 9223372036854775807 := by unfold maxLen at hq; omega
  go_enter Try.func3, Try.ntmps3
  go_wp2_with fail
  refine H5.out.mono ?_
  rintro e w' ⟨⟨b, rfl, hb⟩, rfl⟩
  clear H5
  cases b with
  | false =>
    go_wp2
    go_ret
    exact ⟨rfl, Below.refl _ _⟩
  | true =>
    obtain ⟨hNs, hVs⟩ := hb rfl
    have hNs : Short N n := hNs
    have hVs : Short V m := hVs
    clear hb
    by_cases q1 : 65536 < (n : Int)
    · go_wp2
      go_ret
      exact ⟨rfl, Below.refl _ _⟩
    have q1' : decide (65536 < (n : Int)) = false := decide_eq_false q1
    by_cases q2 : 65536 < (m : Int)
    · go_wp2
      go_ret
      exact ⟨rfl, Below.refl _ _⟩
    have q2' : decide (65536 < (m : Int)) = false := decide_eq_false q2
    by_cases q3 : 65536 < (l : Int)
    · go_wp2
      go_ret
      exact ⟨rfl, Below.refl _ _⟩
    have q3' : decide (65536 < (l : Int)) = false := decide_eq_false q3
    by_cases q4 : 65536 < (q : Int)
    · go_wp2
      go_ret
      exact ⟨rfl, Below.refl _ _⟩
    have q4' : decide (65536 < (q : Int)) = false := decide_eq_false q4
    go_wp2_with fail
    refine (tooBig_any na va n nc m mc _ N V w (by omega) hN hV hn hm hNs hVs).mono ?_
    rintro e w' ⟨⟨b, rfl⟩, rfl⟩
    cases b with
    | true =>
      go_wp2
      go_ret
      exact ⟨rfl, Below.refl _ _⟩
    | false =>
      go_wp2_with fail
      refine (reach_any na va sa n nc m mc l lc N V size mx low pend w hN hV (by omega) (by omega) (by omega) hNs hVs hs0 hs1).mono ?_
      rintro e w1 ⟨⟨b, rfl, hb⟩, hD1⟩
      cases b with
      | false =>
        go_wp2
        go_ret
        exact ⟨rfl, hD1.below _⟩
      | true =>
        obtain ⟨e1, e2, hmx, hsm, hpl, hpre⟩ := hb rfl
        subst e1 e2
        clear hb hpl
        have HS : Hid ((pre N V n : Int) = size) := hpre
        have hpr : pre N V n ≤ 4096 := by omega
        clear hpre
        have hA1 := hD1.below w.heap.size
        go_wp2_with fail
        refine (fields_any na va sa n nc mc lc N V S w1 (hN.keep hA1) (hV.keep hA1) (hS.keep hA1) (by omega)).mono ?_
        rintro e w2 ⟨rfl, hB2, hz2, hR2⟩
        have hA2 := below_then hA1 hB2
        go_wp2_with fail
        refine (newEnc_any _ n n size mx low pend w2).mono ?_
        rintro e w3 ⟨rfl, hw3⟩
        have hE1 : Enc w3 w2.heap.size w1.heap.size n N V S 0 mx low pend := by rw [← hw3]; exact Enc.new hR2 HS.out
        have hB3 : Below w2.heap.size w2 w3 := by rw [← hw3]; exact (Below.refl _ _).alloc (Nat.le_refl _) _
        have hz3 : w2.heap.size < w3.heap.size := by rw [← hw3]; simp
        clear hw3 hR2 hB2
        have hA3 := below_then hA2 hB3
        have s0 := hA1.size
        have hI0 : ScriptInv w3 w3 w2.heap.size w1.heap.size n N V S mx low pend (clampAt U) 0 :=
          ⟨0, hE1, ⟨by show (pre N V n : Int) - pre N V 0 ≤ mx; rw [HS.out]; simp [pre]; omega, fun j hj => absurd hj (by omega)⟩, Frame.refl _ _ _⟩
        clear hE1
        go_wp2
        go_loopg [18] q (fun g i wr => ∃ k : Nat, k ≤ q ∧ g = q - k ∧ i = .int .i64 k ∧ ScriptInv w3 wr w2.heap.size w1.heap.size n N V S mx low pend (clampAt U) k)
        case atStart => exact ⟨0, Nat.zero_le _, rfl, rfl, hI0⟩
        case round =>
          clear hI0
          obtain ⟨k, hk, rfl, rfl, hI⟩ := hrel
          obtain ⟨d, hE, hCut, hFr⟩ := hI
          have hAr := hA3.trans (hFr.below (by omega) (by omega) (by omega))
          by_cases hlt : k < q
          · obtain ⟨b, o, rfl, hc⟩ := (hU.keep hAr).at hlt
            have hlq : (k : Int) < (q : Int) := by omega
            have hur := hUr k hlt
            go_wp2_with fail
            refine (script_call w3 wr w2.heap.size w1.heap.size n N V S mx low pend U k ⟨d, hE, hCut, hFr⟩ (by omega) hNs hVs hpr hur.1 hur.2).mono ?_
            rintro e w' ⟨rfl, hI⟩
            go_wp2
            go_roundg (q - (k + 1))
            case measure => omega
            case rel => exact ⟨k + 1, by omega, rfl, by go_num, hI⟩
          · obtain rfl : q = k := by omega
            clear hlt hk
            -- what the encoder holds behind the script, by names
            obtain ⟨M, L, Pd, hM, hL, hPd⟩ : ∃ M L Pd, mxAt mx (clampAt U) q = M ∧ (stAt mx low pend (clampAt U) q).1 = L ∧ (stAt mx low pend (clampAt U) q).2 = Pd := ⟨_, _, _, rfl, rfl, rfl⟩
            rw [hM, hL, hPd] at hE
            have HM : Hid (mxAt mx (clampAt U) q = M ∧ (stAt mx low pend (clampAt U) q).1 = L ∧ (stAt mx low pend (clampAt U) q).2 = Pd) := ⟨hM, hL, hPd⟩
            clear hM hL hPd
            have hdn := hE.le
            have hpd : pre N V d ≤ pre N V n := pre_mono hdn
            obtain ⟨fa, hr, hsf⟩ := hE.sees
            clear hE hFr
            go_wp2_with fail
            refine (state_any w2.heap.size fa (n - d) (n - d) _ M L Pd wr hr).mono ?_
            rintro e w4 ⟨rfl, hD4⟩
            have hA4 := below_then hAr (hD4.below _)
            have hsf := hsf.keep (hD4.below _)
            clear hr hD4
            go_wp2
            go_loopg [24, 25, 26] q (fun g f bd i wx => w4 = wx ∧ ∃ k : Nat, k ≤ q ∧ g = q - k ∧ f = .int .i64 (fsAt mx (clampAt U) k) ∧ bd = .int .u32 (bdAt mx (clampAt U) k) ∧ i = .int .i64 k)
            case atStart => exact ⟨rfl, 0, Nat.zero_le _, rfl, rfl, rfl, rfl⟩
            case round =>
              obtain ⟨rfl, k, hk, rfl, rfl, rfl, rfl⟩ := hrel
              by_cases hlt : k < q
              · obtain ⟨b, o, rfl, hc⟩ := (hU.keep hA4).at hlt
                have hlq : (k : Int) < (q : Int) := by omega
                have HF : Hid (fsAt mx (clampAt U) (k + 1) = if fsAt mx (clampAt U) k < 0 ∧ clampN (U k) ≠ mx then (k : Int) else fsAt mx (clampAt U) k) := rfl
                have HB : Hid (bdAt mx (clampAt U) (k + 1) = if clampN (U k) < bdAt mx (clampAt U) k then clampN (U k) else bdAt mx (clampAt U) k) := rfl
                go_wp2_with fail
                refine (clamp_any _ _).mono ?_
                rintro e w' ⟨rfl, rfl⟩
                generalize fsAt mx (clampAt U) k = fs at *
                generalize bdAt mx (clampAt U) k = bd at *
                generalize clampN (U k) = ck at *
                have hfc : (fs < 0 ∧ (ck != mx) = false ∧ Hid (fsAt mx (clampAt U) (k + 1) = fs)) ∨ (fs < 0 ∧ (ck != mx) = true ∧ Hid (fsAt mx (clampAt U) (k + 1) = (k : Int))) ∨ (decide (fs < 0) = false ∧ True ∧ Hid (fsAt mx (clampAt U) (k + 1) = fs)) := by
                  by_cases c1 : fs < 0
                  · by_cases c2 : ck = mx
                    · exact .inl ⟨c1, by simp [c2], by show _ = _; rw [HF.out, if_neg (fun h => h.2 c2)]⟩
                    · exact .inr (.inl ⟨c1, bne_iff_ne.2 c2, by show _ = _; rw [HF.out, if_pos ⟨c1, c2⟩]⟩)
                  · exact .inr (.inr ⟨decide_eq_false c1, trivial, by show _ = _; rw [HF.out, if_neg (fun h => c1 h.1)]⟩)
                have hbc : (ck < bd ∧ Hid (bdAt mx (clampAt U) (k + 1) = ck)) ∨ (decide (ck < bd) = false ∧ Hid (bdAt mx (clampAt U) (k + 1) = bd)) := by
                  by_cases c3 : ck < bd
                  · exact .inl ⟨c3, by show _ = _; rw [HB.out, if_pos c3]⟩
                  · exact .inr ⟨decide_eq_false c3, by show _ = _; rw [HB.out, if_neg c3]⟩
                clear HF HB
                rcases hfc with ⟨c1, c2, HF⟩ | ⟨c1, c2, HF⟩ | ⟨c1, c2, HF⟩
                all_goals
                  rcases hbc with ⟨c3, HB⟩ | ⟨c3, HB⟩
                  all_goals
                    go_wp2
                    go_roundg (q - (k + 1))
                    case measure => omega
                    case rel => exact ⟨rfl, k + 1, by omega, rfl, by rw [HF.out], by rw [HB.out], by go_num⟩
              · obtain rfl : q = k := by omega
                clear hlt hk
                have hbr := bdAt_range hm0 hmx (clampAt_range hUr) (Nat.le_refl q)
                have HCut : Hid (IsCut (tailSum N V n) d (bdAt mx (clampAt U) q)) := hCut
                clear hCut
                obtain ⟨bd, hbd⟩ : ∃ bd, bdAt mx (clampAt U) q = bd := ⟨_, rfl⟩
                rw [hbd] at HCut hbr ⊢
                clear hbd
                go_wp2_with fail
                refine (kept_any na va n nc mc N V bd w4 (hN.keep hA4) (hV.keep hA4) (by omega) hNs hVs hbr.1 (by omega)).mono ?_
                rintro e w5 ⟨⟨c, hK, he⟩, hD5⟩
                have hcd : n - c = d := cut_kept (fun i j hij _ => tailSum_mono N V n i j hij) HCut.out hK.le hK.fits hK.most
                have hcn : c = n - d := by have := hK.le; omega
                rw [hcd, hcn] at he
                subst he
                clear hcd hcn hK
                have hA5 := below_then hA4 (hD5.below _)
                have hsf := hsf.keep (hD5.below _)
                have hsf : SeesF w5 fa (n - d) N V S (n - (n - d)) := by rw [show n - (n - d) = d from by omega]; exact hsf
                have hz0 : 0 ≤ (pre N V n : Int) - pre N V d := by omega
                have hz1 : (pre N V n : Int) - pre N V d ≤ 4096 := by omega
                clear HCut hbr
                generalize (pre N V n : Int) - pre N V d = z at *
                go_wp2_with fail
                refine (tail_any fa na va sa (n - d) (n - d) n nc mc lc N V S w5 hsf (hN.keep hA5) (hV.keep hA5) (hS.keep hA5) (by omega) (by omega)).mono ?_
                rintro e w6 ⟨rfl, hB6⟩
                have hA6 := below_then hA5 hB6
                clear hsf
                by_cases hfs : fsAt mx (clampAt U) q < 0
                · obtain ⟨_, g1, g2⟩ := fs_none (low := low) (pend := pend) hfs
                  rw [g1, g2] at HM
                  obtain ⟨rfl, rfl, rfl⟩ := HM.out
                  go_wp2
                  go_ret
                  exact ⟨rfl, hA6⟩
                · obtain ⟨f, g1, g2, g3, g4⟩ := fs_some hfs
                  obtain ⟨r, hr0⟩ : ∃ r, q = f + 1 + r := ⟨q - f - 1, by omega⟩
                  have hst := st_some (low := low) (pend := pend) g3 g4 r
                  rw [← hr0] at hst
                  rw [hst] at HM
                  have hM : M = clampN (U (q - 1)) := by
                    rw [← HM.out.1]
                    obtain ⟨q', rfl⟩ : ∃ q', q = q' + 1 := ⟨q - 1, by omega⟩
                    rfl
                  subst hM
                  obtain ⟨_, hL, rfl⟩ := HM.out
                  rw [g1]
                  have HR : Hid (q = f + 1 + r) := hr0
                  have HL : Hid ((if pend = true ∧ low < wlAt (clampAt U) f r then low else wlAt (clampAt U) f r) = L) := hL
                  clear g1 g3 g4 hfs hr0 hst HM hL
                  have hfz : (f : Int) < (q : Int) := by omega
                  have hqp : (0 : Int) ≤ (q : Int) - 1 := by omega
                  obtain ⟨b, o, hb0, hbc⟩ := hU.keep hA6
                  obtain rfl := hb0 (by omega)
                  have hcf := hbc f g2
                  have hcq := hbc (q - 1) (by omega)
                  have eq1 : ((q : Int) - 1).toNat = q - 1 := by omega
                  go_wp2_with fail
                  refine (clamp_any _ _).mono ?_
                  rintro e w' ⟨rfl, rfl⟩
                  go_wp2
                  go_loopg [30, 31] r (fun g wl i wx => w6 = wx ∧ ∃ k : Nat, k ≤ r ∧ g = r - k ∧ wl = .int .u32 (wlAt (clampAt U) f k) ∧ i = .int .i64 ((f + 1 + k : Nat) : Int))
                  case atStart => exact ⟨rfl, 0, Nat.zero_le _, rfl, rfl, by go_num⟩
                  case round =>
                    obtain ⟨rfl, k, hk, rfl, rfl, rfl⟩ := hrel
                    have hrq := HR.out
                    have hrq1 : f + 1 + r ≤ q := by omega
                    have hrq2 : q ≤ f + 1 + r := by omega
                    clear hrq
                    by_cases hlt : k < r
                    · have hck := hbc (f + 1 + k) (by omega)
                      have hlq : ((f + 1 + k : Nat) : Int) < (q : Int) := by omega
                      have HB : Hid (wlAt (clampAt U) f (k + 1) = if clampN (U (f + 1 + k)) < wlAt (clampAt U) f k then clampN (U (f + 1 + k)) else wlAt (clampAt U) f k) := rfl
                      obtain ⟨p, hp⟩ : ∃ p, f + 1 + k = p := ⟨_, rfl⟩
                      have HP : Hid (f + 1 + k = p) := hp
                      rw [hp] at hck hlq HB ⊢
                      clear hp
                      go_wp2_with fail
                      refine (clamp_any _ _).mono ?_
                      rintro e w' ⟨rfl, rfl⟩
                      generalize wlAt (clampAt U) f k = wl at *
                      generalize clampN (U p) = ck at *
                      have hbc2 : (ck < wl ∧ Hid (wlAt (clampAt U) f (k + 1) = ck)) ∨ (decide (ck < wl) = false ∧ Hid (wlAt (clampAt U) f (k + 1) = wl)) := by
                        by_cases c3 : ck < wl
                        · exact .inl ⟨c3, by show _ = _; rw [HB.out, if_pos c3]⟩
                        · exact .inr ⟨decide_eq_false c3, by show _ = _; rw [HB.out, if_neg c3]⟩
                      clear HB
                      rcases hbc2 with ⟨c3, HB⟩ | ⟨c3, HB⟩
                      all_goals
                        go_wp2
                        go_roundg (r - (k + 1))
                        case measure => omega
                        case rel => exact ⟨rfl, k + 1, by omega, rfl, by rw [HB.out], by have := HP.out; rw [show f + 1 + (k + 1) = p + 1 from by omega]; go_num⟩
                    · obtain rfl : r = k := by omega
                      have hlq : ¬ ((f + 1 + r : Nat) : Int) < (q : Int) := by omega
                      generalize wlAt (clampAt U) f r = wl at *
                      have hfin : (pend = false ∧ wl = L) ∨ (pend = true ∧ low < wl ∧ low = L) ∨ (pend = true ∧ decide (low < wl) = false ∧ wl = L) := by
                        have := HL.out
                        cases pend with
                        | false => exact .inl ⟨rfl, by simpa using this⟩
                        | true =>
                          by_cases h : low < wl
                          · exact .inr (.inl ⟨rfl, h, by simpa [h] using this⟩)
                          · exact .inr (.inr ⟨rfl, decide_eq_false h, by simpa [h] using this⟩)
                      clear HL
                      rcases hfin with ⟨rfl, rfl⟩ | ⟨rfl, h7, rfl⟩ | ⟨rfl, h7, rfl⟩
                      all_goals
                        go_wp2_with fail
                        refine (clamp_any _ _).mono ?_
                        rintro e w' ⟨rfl, rfl⟩
                        go_wp2
                        go_ret
                        exact ⟨rfl, hA6⟩
end Go.Proofs.Qxb6626459a
