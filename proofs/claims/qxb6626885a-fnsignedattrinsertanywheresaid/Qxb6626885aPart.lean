/-
  The walk of 'FnSignedAttrPartitionsValues'.
-/
import Derived.Test.Qxb6626885aBytes
import Derived.Test.Qxb6626885aPlain
namespace Go.Proofs.Qxb6626885a
open Go.RowKit

/-- The cells of the boxed signer. -/
theorem box_cells {w : World} {b : Nat} {v0 v1 v2 v3 v4 v5 v6 v7 v8 v9 : Value} (h : w.heap[b]? = some (.cells #[v0, v1, v2, v3, v4, v5, v6, v7, v8, v9] 26 (0, 0))) :
    w.cell? ⟨b, 0, none⟩ = some v0 ∧ w.cell? ⟨b, 1, none⟩ = some v1 ∧ w.cell? ⟨b, 2, none⟩ = some v2 ∧ w.cell? ⟨b, 3, none⟩ = some v3 ∧ w.cell? ⟨b, 4, none⟩ = some v4 ∧ w.cell? ⟨b, 5, none⟩ = some v5 ∧ w.cell? ⟨b, 6, none⟩ = some v6 ∧ w.cell? ⟨b, 7, none⟩ = some v7 ∧ w.cell? ⟨b, 8, none⟩ = some v8 ∧ w.cell? ⟨b, 9, none⟩ = some v9 := by
  simp [World.cell?, h]

theorem below_block {w w' : World} (h : Below w.heap.size w w') {b : Nat} {o : Obj} (hb : w.heap[b]? = some o) : w'.heap[b]? = some o := by
  rw [h.block b (by obtain ⟨hlt, _⟩ := Array.getElem?_eq_some_iff.1 hb; exact hlt)]
  exact hb

/-- The attributes read through another slice with the same types and values. -/
theorem Attrs.thru {w w' : World} {a ra : Option Addr} {n : Nat} {T V : Nat → Sl} {TI : Nat → Nat → Int} {B : Nat → Nat → Sl} (h : Attrs w a n T V TI B) (hb : Below w.heap.size w w') (hs : SeesA w' ra n T V) : Attrs w' ra n T V TI B :=
  ⟨hs, (h.keep hb).ty, (h.keep hb).va, h.tl, h.vl, h.bl⟩

/-- What the law's loops read. -/
structure Ctx (w : World) (bx rb : Nat) (sa ua ra : Option Addr) (sn sc un uc rc : Nat) (T V T' V' : Nat → Sl) (TI TI' : Nat → Nat → Int) (B B' : Nat → Nat → Sl) : Prop where
  c5 : w.cell? ⟨bx, 5, none⟩ = some (.slice sa sn sc)
  c9 : w.cell? ⟨bx, 9, none⟩ = some (.slice ua un uc)
  r5 : w.cell? ⟨rb, 5, none⟩ = some (.slice ra sn rc)
  A : Attrs w sa sn T V TI B
  U : Attrs w ua un T' V' TI' B'
  R : Attrs w ra sn T V TI B

theorem Ctx.keep {w w' : World} {bx rb : Nat} {sa ua ra : Option Addr} {sn sc un uc rc : Nat} {T V T' V' : Nat → Sl} {TI TI' : Nat → Nat → Int} {B B' : Nat → Nat → Sl} (h : Ctx w bx rb sa ua ra sn sc un uc rc T V T' V' TI TI' B B') (hb : Below w.heap.size w w') :
    Ctx w' bx rb sa ua ra sn sc un uc rc T V T' V' TI TI' B B' :=
  ⟨(hb.cell (p := ⟨bx, 5, none⟩) (World.block_lt_of_cell? _ _ h.c5)).trans h.c5, (hb.cell (p := ⟨bx, 9, none⟩) (World.block_lt_of_cell? _ _ h.c9)).trans h.c9, (hb.cell (p := ⟨rb, 5, none⟩) (World.block_lt_of_cell? _ _ h.r5)).trans h.r5, h.A.keep hb, h.U.keep hb, h.R.keep hb⟩

/-- How many values the first k attributes hold. -/
def totV (V : Nat → Sl) (k : Nat) : Nat := sumIf (fun _ => true) (fun i => (V i).n) k
theorem totV_succ (V : Nat → Sl) (k : Nat) : totV V (k + 1) = totV V k + (V k).n := by unfold totV; rw [sumIf]; simp
theorem totV_le {V : Nat → Sl} {n k : Nat} (h : ∀ i, i < n → (V i).n ≤ 1048576) (hk : k ≤ n) : totV V k ≤ k * 1048576 := sumIf_bound (fun i hi => h i (by omega))
/-- The law's running sum. -/
def sumV (T V : Nat → Sl) (TI : Nat → Nat → Int) (n k : Nat) : Nat := partSum (sameT T TI) (fun i => (V i).n) n k
theorem sumV_le (T V : Nat → Sl) (TI : Nat → Nat → Int) (n k : Nat) : sumV T V TI n k ≤ totV V n := part_le (sameT_sym T TI) (sameT_tr T TI) k
theorem sumV_all (T V : Nat → Sl) (TI : Nat → Nat → Int) (n : Nat) : sumV T V TI n n = totV V n := part_all (sameT_rfl T TI) (sameT_sym T TI) (sameT_tr T TI)
theorem sumV_seen {T V : Nat → Sl} {TI : Nat → Nat → Int} {n k : Nat} (h : anyB (fun j => sameT T TI j k) k = true) : sumV T V TI n (k + 1) = sumV T V TI n k := by unfold sumV; rw [partSum, if_pos h]
theorem sumV_new {T V : Nat → Sl} {TI : Nat → Nat → Int} {B : Nat → Nat → Sl} {n k : Nat} (h : anyB (fun j => sameT T TI j k) k = false) :
    sumV T V TI n (k + 1) = sumV T V TI n k + (gath (fun j => sameT T TI j k) (fun i => valsOf (V i).n (B i)) n).length := by
  unfold sumV
  rw [partSum, if_neg (by simp [h]), gath_length]

set_option maxRecDepth 100000 in
set_option maxHeartbeats 4000000 in
theorem part_walk (ver : Int) (k1 k2 k3 k4 k6 k7 k8 : Sl) (sa ua : Option Addr) (sn sc un uc : Nat) (T V T' V' : Nat → Sl) (TI TI' : Nat → Nat → Int) (B B' : Nat → Nat → Sl) (w : World)
    (hA : Attrs w sa sn T V TI B) (hU : Attrs w ua un T' V' TI' B') (hs : sn ≤ maxLen) (hu : un ≤ maxLen) (h1 : k1.n ≤ maxLen) (h2 : k2.n ≤ maxLen) (h3 : k3.n ≤ maxLen) (h4 : k4.n ≤ maxLen) (h6 : k6.n ≤ maxLen) (h7 : k7.n ≤ maxLen) (h8 : k8.n ≤ maxLen)
    (hsa : sa = none → sn = 0) (hua : ua = none → un = 0) (hVn : ∀ i, i < sn → (V i).a = none → (V i).n = 0 ∧ (V i).c = 0) :
    Calls Try.prog 4 #[signerV ver k1 k2 k3 k4 ⟨sa, sn, sc⟩ k6 k7 k8 ⟨ua, un, uc⟩] w fun e w' => e = .returned (.bool true) ∧ Below w.heap.size w w' := by
  have hBw : ∀ o, Below w.heap.size w (w.alloc o) := fun o => (Below.refl w.heap.size w).alloc (Nat.le_refl _) o
  have H13 : Hid (∀ wx, Below w.heap.size w wx → Calls Try.prog 13 #[.agg #[.int .i64 ver, .slice k1.a k1.n k1.c, .slice k2.a k2.n k2.c, .slice k3.a k3.n k3.c, .slice k4.a k4.n k4.c, .slice sa sn sc, .slice k6.a k6.n k6.c, .slice k7.a k7.n k7.c, .slice k8.a k8.n k8.c, .slice ua un uc]] wx fun e w' => bytesPost sn un V wx e w') := fun wx hb => by
    have := bytes13_any ver k1 k2 k3 k4 k6 k7 k8 sa ua sn sc un uc T V T' V' TI TI' B B' wx (hA.keep hb) (hU.keep hb) hs hu h1 h2 h3 h4 h6 h7 h8
    unfold signerV at this
    exact this
  have H14 : Hid (∀ wx acc, Below w.heap.size w wx → Calls Try.prog 14 #[.agg #[.int .i64 ver, .slice k1.a k1.n k1.c, .slice k2.a k2.n k2.c, .slice k3.a k3.n k3.c, .slice k4.a k4.n k4.c, .slice sa sn sc, .slice k6.a k6.n k6.c, .slice k7.a k7.n k7.c, .slice k8.a k8.n k8.c, .slice ua un uc], .int .i64 acc] wx fun e w' => isInt e ∧ Below wx.heap.size wx w') := fun wx acc hb => by
    have := signer_any ver k1 k2 k3 k4 ⟨sa, sn, sc⟩ k6 k7 k8 ⟨ua, un, uc⟩ T V T' V' TI TI' B B' acc wx (hA.keep hb) (hU.keep hb) hs hu
    unfold signerV at this
    exact this
  have H9 : Hid (∀ wx ra rc, Below w.heap.size w wx → un ≤ 1048576 → Calls Try.prog 9 #[.agg #[.int .i64 ver, .slice k1.a k1.n k1.c, .slice k2.a k2.n k2.c, .slice k3.a k3.n k3.c, .slice k4.a k4.n k4.c, .slice sa sn sc, .slice k6.a k6.n k6.c, .slice k7.a k7.n k7.c, .slice k8.a k8.n k8.c, .slice ua un uc], .slice ra sn rc] wx fun e w' => signerPost ⟨ra, sn, rc⟩ wx e w') := fun wx ra rc hb hun => by
    have := toSigner_any ver k1 k2 k3 k4 ⟨sa, sn, sc⟩ k6 k7 k8 ⟨ua, un, uc⟩ ⟨ra, sn, rc⟩ T' V' wx (hU.keep hb).at2 hua hun
    unfold signerV at this
    exact this
  have H7 : Hid (∀ wx, Below w.heap.size w wx → sn ≤ 1048576 → Calls Try.prog 7 #[.slice sa sn sc] wx fun e w' => toPost sa sn T V wx e w') := fun wx hb hsn => toAttrs_any sa sn sc T V wx (hA.keep hb).at2 hsa hsn
  unfold signerV
  dsimp only
  have hsz : (sn : Int) ≤ 9223372036854775807 := by unfold maxLen at hs; omega
  have huz : (un : Int) ≤ 9223372036854775807 := by unfold maxLen at hu; omega
  have hbox0 : ∀ cs, (w.alloc (.cells cs 26)).heap[w.heap.size]? = some (.cells cs 26 (0, 0)) := fun cs => Deep.blk_alloc_new _ _
  have HBX : Hid (∀ cs, (w.alloc (.cells cs 26)).heap[w.heap.size]? = some (.cells cs 26 (0, 0))) := hbox0
  have HBW : Hid (∀ o, Below w.heap.size w (w.alloc o)) := hBw
  clear hbox0 hBw
  go_enter Try.func4, Try.ntmps4
  go_wp2_with fail
  refine (H13.out _ (HBW.out _)).mono ?_
  rintro e w1 ⟨⟨r, rfl, hr⟩, hB1⟩
  have hbox1 := below_block hB1 (HBX.out _)
  have hA1 := below_then (HBW.out _) hB1
  clear hB1
  cases r with
  | false =>
    go_wp2
    go_ret
    exact ⟨rfl, hA1⟩
  | true =>
    obtain ⟨hsn, hun, hV⟩ := hr rfl
    clear hr
    obtain ⟨c0, c1, c2, c3, c4, c5, c6, c7, c8, c9⟩ := box_cells hbox1
    go_wp2_with fail
    refine (H14.out _ _ hA1).mono ?_
    rintro e w2 ⟨⟨z, rfl⟩, hB2⟩
    have hbox2 := below_block hB2 hbox1
    have hA2 := below_then hA1 hB2
    clear hB2 hbox1 hA1 c0 c1 c2 c3 c4 c5 c6 c7 c8 c9
    obtain ⟨c0, c1, c2, c3, c4, c5, c6, c7, c8, c9⟩ := box_cells hbox2
    by_cases hz : 1048576 < z
    · go_wp2
      go_ret
      exact ⟨rfl, hA2⟩
    have hz' : decide (1048576 < z) = false := decide_eq_false hz
    by_cases q1 : 4096 < (sn : Int)
    · go_wp2
      go_ret
      exact ⟨rfl, hA2⟩
    have q1' : decide (4096 < (sn : Int)) = false := decide_eq_false q1
    by_cases q2 : 4096 < (un : Int)
    · go_wp2
      go_ret
      exact ⟨rfl, hA2⟩
    have q2' : decide (4096 < (un : Int)) = false := decide_eq_false q2
    have hlt2 : w.heap.size < w2.heap.size := by obtain ⟨h, _⟩ := Array.getElem?_eq_some_iff.1 hbox2; exact h
    go_wp2
    go_region_held3 (fun w' => w'.cell? ⟨w.heap.size, 0, none⟩ = some (.int .i64 ver) ∧ w'.cell? ⟨w.heap.size, 1, none⟩ = some (.slice k1.a k1.n k1.c) ∧ w'.cell? ⟨w.heap.size, 2, none⟩ = some (.slice k2.a k2.n k2.c) ∧ w'.cell? ⟨w.heap.size, 3, none⟩ = some (.slice k3.a k3.n k3.c) ∧ w'.cell? ⟨w.heap.size, 4, none⟩ = some (.slice k4.a k4.n k4.c) ∧ w'.cell? ⟨w.heap.size, 5, none⟩ = some (.slice sa sn sc) ∧ w'.cell? ⟨w.heap.size, 6, none⟩ = some (.slice k6.a k6.n k6.c) ∧ w'.cell? ⟨w.heap.size, 7, none⟩ = some (.slice k7.a k7.n k7.c) ∧ w'.cell? ⟨w.heap.size, 8, none⟩ = some (.slice k8.a k8.n k8.c) ∧ w'.cell? ⟨w.heap.size, 9, none⟩ = some (.slice ua un uc)) (go_keep)
      (first
        | (go_at_call 7; refine (H7.out _ (hA2.drew) hsn).mono ?_; rintro e w3 ⟨ra, rc, rfl, hs3, hnil3, hB3⟩; have hcc3 := fun o => hB3.cell (p := ⟨w.heap.size, o, none⟩) hlt2; have hA3 := below_then hA2.drew hB3)
        | (go_at_call 9; refine (H9.out w3 ra rc hA3 hun).mono ?_; rintro e w4 ⟨rb, rfl, hr4, hB4⟩; have hcc4 := fun o => hB4.cell (p := ⟨w.heap.size, o, none⟩) (Nat.lt_of_lt_of_le hlt2 hB3.size)))
    have hA4 := below_then hA3 hB4
    have hC : Ctx w4 w.heap.size rb sa ua ra sn sc un uc rc T V T' V' TI TI' B B' :=
      ⟨(hcc4 5).trans ((hcc3 5).trans c5), (hcc4 9).trans ((hcc3 9).trans c9), hr4, hA.keep hA4, hU.keep hA4, hA.thru hA4 (hs3.keep hB4)⟩
    clear hcc4 hcc3 hB4 hB3 hs3 hnil3 hA3 hr4 c0 c1 c2 c3 c4 c5 c6 c7 c8 c9 hbox2 hA2 hlt2 HBX HBW H7 H9 H13 H14 hA hU
    clear hsa hua h1 h2 h3 h4 h6 h7 h8
    have hnl := fun (w : World) (a : Option Addr) (n c : Nat) => Lib.run_eql_slice_nil (P := Try.prog) w 27 22 a n c 0 0 Try.underlying27
    have c5 := hC.c5
    go_wp2
    go_loop [4, 5] (fun t i => ∃ k : Nat, k ≤ sn ∧ t = .int .i64 (totV V k) ∧ i = .int .i64 k) (fun _ i => sn - (intOf i).toNat)
    case atStart => exact ⟨0, Nat.zero_le _, rfl, rfl⟩
    case round =>
      obtain ⟨k, hk, rfl, rfl⟩ := hrel
      have htk := totV_le hV hk
      by_cases hlt : k < sn
      · obtain ⟨b, o, rfl, hc0, hc1⟩ := hC.A.at2.at hlt
        have hlz : (k : Int) < (sn : Int) := by omega
        have hvk := hV k hlt
        go_wp2
        go_round
        case rel => exact ⟨k + 1, by omega, by rw [totV_succ]; go_num, by go_num⟩
        case measure => simp [intOf]; omega
      · obtain rfl : sn = k := by omega
        clear hlt hk
        go_wp2
        clear c5
        have htb := htk
        obtain ⟨tot, htot⟩ : ∃ tot, totV V sn = tot := ⟨_, rfl⟩
        have HTOT : Hid (totV V sn = tot) := htot
        rw [htot] at htb ⊢
        clear htot htk
        go_loopg [6, 7] sn (fun g s i wr => ∃ k : Nat, k ≤ sn ∧ g = sn - k ∧ s = .int .i64 (sumV T V TI sn k) ∧ i = .int .i64 k ∧ Below w4.heap.size w4 wr)
        case atStart => exact ⟨0, Nat.zero_le _, rfl, rfl, rfl, Below.refl _ _⟩
        case round =>
          obtain ⟨k, hk, rfl, rfl, rfl, hB5⟩ := hrel
          have hC5 := hC.keep hB5
          have hsk := sumV_le T V TI sn k
          have hsk1 := sumV_le T V TI sn (k + 1)
          rw [HTOT.out] at hsk hsk1
          by_cases hlt : k < sn
          · obtain ⟨b, o, hba, hc0, hc1⟩ := hC5.A.at2.at hlt
            have hlz : (k : Int) < (sn : Int) := by omega
            subst hba
            have c5 := hC5.c5
            obtain ⟨w5, rfl⟩ : ∃ w5, w5 = wr := ⟨wr, rfl⟩
            have hty := hC5.A.ty
            have htl := hC5.A.tl
            go_wp2
            go_loopg [9, 10] k (fun g s9 j wx => Drawn w5 wx ∧ ∃ m : Nat, m ≤ k ∧ g = k - m ∧ s9 = .bool false ∧ j = .int .i64 m ∧ anyB (fun j => sameT T TI j k) m = false)
            case atStart => exact ⟨Drawn.refl _, 0, Nat.zero_le _, rfl, rfl, rfl, rfl⟩
            case round =>
              obtain ⟨hD, m, hm, rfl, rfl, rfl, hany⟩ := hrel
              have hC6 := hC5.keep (hD.below _)
              have c6 := hC6.c5
              have hBd : Below w4.heap.size w4 wr := hB5.trans (hD.below _)
              by_cases hmlt : m < k
              · obtain ⟨b1, o1, hba, hm0, hm1⟩ := hC6.A.at2.at (i := m) (by omega)
                simp only [Option.some.injEq, Addr.mk.injEq, and_true] at hba
                obtain ⟨rfl, rfl⟩ := hba
                have hmz : (m : Int) < (k : Int) := by omega
                have hmz2 : (m : Int) < (sn : Int) := by omega
                have HANY : Hid (anyB (fun j => sameT T TI j k) m = false) := hany
                clear hany
                go_wp2_with fail
                refine (intsEq_any (T m).a (T k).a (T m).n (T m).c (T k).n (T k).c (TI m) (TI k) wr (hC6.A.ty m (by omega)) (hC6.A.ty k hlt) (htl m (by omega)) (htl k hlt)).mono ?_
                rintro e w7 ⟨rfl, hD7⟩
                have hB7 : Below w4.heap.size w4 w7 := hBd.trans (hD7.below _)
                cases hq : eqI (T m).n (T k).n (TI m) (TI k) with
                | true =>
                  have hseen : anyB (fun j => sameT T TI j k) k = true := anyB_true (p := fun j => sameT T TI j k) hmlt hq
                  have HS := sumV_seen (V := V) (n := sn) hseen
                  have HS' : Hid (sumV T V TI sn (k + 1) = sumV T V TI sn k) := HS
                  clear HS hseen hq
                  go_wp2
                  go_roundg (sn - (k + 1))
                  case measure => omega
                  case rel => exact ⟨k + 1, by omega, rfl, by rw [HS'.out], by go_num, hB7⟩
                | false =>
                  have hany' : anyB (fun j => sameT T TI j k) (m + 1) = false := by
                    rw [anyB, HANY.out]
                    exact hq
                  have HANY' : Hid (anyB (fun j => sameT T TI j k) (m + 1) = false) := hany'
                  have hDD : Drawn w5 w7 := by
                    obtain ⟨x, rfl⟩ := hD
                    obtain ⟨y, rfl⟩ := hD7
                    exact ⟨x + y, World.drewN_drewN _ _ _⟩
                  clear hany' hq HANY
                  go_wp2
                  go_roundg (k - (m + 1))
                  case measure => omega
                  case rel => exact ⟨hDD, m + 1, by omega, rfl, rfl, by go_num, HANY'.out⟩
              · obtain rfl : k = m := by omega
                have HNEW := sumV_new (V := V) (B := B) (n := sn) hany
                have HN : Hid (sumV T V TI sn (k + 1) = sumV T V TI sn k + (gath (fun j => sameT T TI j k) (fun i => valsOf (V i).n (B i)) sn).length) := HNEW
                clear HNEW hany
                have HSIG := signed_any rb ra sn rc (T k).a (T k).n (T k).c T V TI B (TI k) wr hC6.r5 hC6.R (hC6.A.ty k hlt) (htl k hlt) (by omega) hV hVn
                have HSG : Hid (Calls Try.prog 10 #[.pointer (some ⟨rb, 0, none⟩), .slice (T k).a (T k).n (T k).c] wr fun e w' => sigPost (gath (fun i => eqI (T i).n (T k).n (TI i) (TI k)) (fun i => valsOf (V i).n (B i)) sn) wr e w') := HSIG
                clear HSIG
                change Hid (sumV T V TI sn (k + 1) = sumV T V TI sn k + (gath (fun i => eqI (T i).n (T k).n (TI i) (TI k)) (fun i => valsOf (V i).n (B i)) sn).length) at HN
                generalize gath (fun i => eqI (T i).n (T k).n (TI i) (TI k)) (fun i => valsOf (V i).n (B i)) sn = L at *
                go_wp2_with fail
                refine HSG.out.mono ?_
                rintro e w7 ⟨ga, gc, rfl, hgn, hgs, hB7'⟩
                have hB7 : Below w4.heap.size w4 w7 := below_then hBd hB7'
                clear HSG hgs hB7'
                have hLb : sumV T V TI sn k + L.length ≤ tot := by rw [← HN.out]; exact hsk1
                by_cases hL : L = []
                · obtain rfl := hgn.2 hL
                  subst hL
                  clear hgn
                  go_wp2
                  go_roundg (sn - (k + 1))
                  case measure => omega
                  case rel => exact ⟨k + 1, by omega, rfl, by rw [HN.out]; simp, by go_num, hB7⟩
                · cases ga with
                  | none => exact absurd (hgn.1 rfl) hL
                  | some x =>
                    have hl0 : ((L.length : Int) == 0) = false := by
                      rw [beq_eq_false_iff_ne]
                      intro h
                      exact hL (List.length_eq_zero_iff.1 (by omega))
                    clear hgn
                    generalize L.length = ln at *
                    go_wp2
                    go_roundg (sn - (k + 1))
                    case measure => omega
                    case rel => exact ⟨k + 1, by omega, rfl, by rw [HN.out]; go_num, by go_num, hB7⟩
          · obtain rfl : sn = k := by omega
            clear hlt hk hsk hsk1
            have hfin : sumV T V TI sn sn = tot := by rw [sumV_all, HTOT.out]
            rw [hfin]
            clear hfin HTOT
            obtain ⟨w5, rfl⟩ : ∃ w5, w5 = wr := ⟨wr, rfl⟩
            have c5 := hC5.c5
            go_wp2
            clear c5
            go_loopg [12] un (fun g i wx => ∃ k : Nat, k ≤ un ∧ g = un - k ∧ i = .int .i64 k ∧ Below w5.heap.size w5 wx)
            case atStart => exact ⟨0, Nat.zero_le _, rfl, rfl, Below.refl _ _⟩
            case round =>
              obtain ⟨k, hk, rfl, rfl, hB6⟩ := hrel
              have hC6 := hC5.keep hB6
              have c9 := hC6.c9
              have hBd : Below w4.heap.size w4 wr := below_then hB5 hB6
              by_cases hlt : k < un
              · obtain ⟨b, o, hba, hc0, hc1⟩ := hC6.U.at2.at hlt
                subst hba
                have hkz : (k : Int) < (un : Int) := by omega
                obtain ⟨w6, rfl⟩ : ∃ w6, w6 = wr := ⟨wr, rfl⟩
                have htl := hC6.A.tl
                have htl' := hC6.U.tl k hlt
                go_wp2
                clear c9 hc0 hc1
                go_loopg [14, 15] sn (fun g s14 j wx => Drawn w6 wx ∧ ∃ m : Nat, m ≤ sn ∧ g = sn - m ∧ s14 = .bool false ∧ j = .int .i64 m ∧ anyB (fun j => eqI (T j).n (T' k).n (TI j) (TI' k)) m = false)
                case atStart => exact ⟨Drawn.refl _, 0, Nat.zero_le _, rfl, rfl, rfl, rfl⟩
                case round =>
                  obtain ⟨hD, m, hm, rfl, rfl, rfl, hany⟩ := hrel
                  have hC7 := hC6.keep (hD.below _)
                  have c6 := hC7.c5
                  have hBd7 : Below w5.heap.size w5 wr := hB6.trans (hD.below _)
                  by_cases hmlt : m < sn
                  · obtain ⟨b1, o1, hba, hm0, hm1⟩ := hC7.A.at2.at (i := m) hmlt
                    subst hba
                    have hmz : (m : Int) < (sn : Int) := by omega
                    have HANY : Hid (anyB (fun j => eqI (T j).n (T' k).n (TI j) (TI' k)) m = false) := hany
                    clear hany
                    go_wp2_with fail
                    refine (intsEq_any (T m).a (T' k).a (T m).n (T m).c (T' k).n (T' k).c (TI m) (TI' k) wr (hC7.A.ty m hmlt) (hC7.U.ty k hlt) (htl m hmlt) htl').mono ?_
                    rintro e w7 ⟨rfl, hD7⟩
                    have hB7 : Below w5.heap.size w5 w7 := hBd7.trans (hD7.below _)
                    cases hq : eqI (T m).n (T' k).n (TI m) (TI' k) with
                    | true =>
                      clear hq
                      go_wp2
                      go_roundg (un - (k + 1))
                      case measure => omega
                      case rel => exact ⟨k + 1, by omega, rfl, by go_num, hB7⟩
                    | false =>
                      have hany' : anyB (fun j => eqI (T j).n (T' k).n (TI j) (TI' k)) (m + 1) = false := by
                        rw [anyB, HANY.out]
                        exact hq
                      have HANY' : Hid (anyB (fun j => eqI (T j).n (T' k).n (TI j) (TI' k)) (m + 1) = false) := hany'
                      have hDD : Drawn w6 w7 := by
                        obtain ⟨x, rfl⟩ := hD
                        obtain ⟨y, rfl⟩ := hD7
                        exact ⟨x + y, World.drewN_drewN _ _ _⟩
                      clear hany' hq HANY
                      go_wp2
                      go_roundg (sn - (m + 1))
                      case measure => omega
                      case rel => exact ⟨hDD, m + 1, by omega, rfl, rfl, by go_num, HANY'.out⟩
                  · obtain rfl : sn = m := by omega
                    have HSIG := signed_any rb ra sn rc (T' k).a (T' k).n (T' k).c T V TI B (TI' k) wr hC7.r5 hC7.R (hC7.U.ty k hlt) htl' (by omega) hV hVn
                    rw [gath_none hany] at HSIG
                    have HSG : Hid (Calls Try.prog 10 #[.pointer (some ⟨rb, 0, none⟩), .slice (T' k).a (T' k).n (T' k).c] wr fun e w' => sigPost [] wr e w') := HSIG
                    clear HSIG hany
                    go_wp2_with fail
                    refine HSG.out.mono ?_
                    rintro e w7 ⟨ga, gc, rfl, hgn, hgs, hB7'⟩
                    have hB7 : Below w5.heap.size w5 w7 := below_then hBd7 hB7'
                    obtain rfl := hgn.2 rfl
                    clear HSG hgs hB7' hgn
                    go_wp2
                    go_roundg (un - (k + 1))
                    case measure => omega
                    case rel => exact ⟨k + 1, by omega, rfl, by go_num, hB7⟩
              · go_wp2
                go_ret
                exact ⟨rfl, below_then hA4 hBd⟩
end Go.Proofs.Qxb6626885a
