/-
  insertBytes, cloneInts, bytesEq, valsEq, catVals by their contracts.
-/
import Derived.Test.Qxb6626885aSigned
namespace Go.Proofs.Qxb6626885a
open Go.RowKit

theorem insertBytes_any (ver : Int) (k1 k2 k3 k4 s k6 k7 k8 u : Sl) (T V T' V' : Nat → Sl) (TI TI' : Nat → Nat → Int) (B B' : Nat → Nat → Sl) (oa xa : Option Addr) (on oc xn xc : Nat) (X : Nat → Sl) (w : World)
    (hA : Attrs w s.a s.n T V TI B) (hU : Attrs w u.a u.n T' V' TI' B') (hs : s.n ≤ maxLen) (hu : u.n ≤ maxLen) (hxn : xn ≤ maxLen) (hX : Sees w xa xn (slV X)) (hXn : ∀ j, j < xn → (X j).n ≤ maxLen) :
    Calls Try.prog 6 #[signerV ver k1 k2 k3 k4 s k6 k7 k8 u, .slice oa on oc, .slice xa xn xc] w fun e w' => isInt e ∧ Below w.heap.size w w' := by
  have hBw : ∀ o, Below w.heap.size w (w.alloc o) := fun o => (Below.refl w.heap.size w).alloc (Nat.le_refl _) o
  have HX : Hid (∀ acc wx, Below w.heap.size w wx → Calls Try.prog 17 #[.slice xa xn xc, .int .i64 acc] wx fun e w' => isInt e ∧ wx = w') := fun acc wx hb => vals_any xa xn xc X acc wx (hX.keep hb) hxn hXn
  have HS : Hid (∀ acc wx, Below w.heap.size w wx → Calls Try.prog 14 #[.agg #[.int .i64 ver, .slice k1.a k1.n k1.c, .slice k2.a k2.n k2.c, .slice k3.a k3.n k3.c, .slice k4.a k4.n k4.c, .slice s.a s.n s.c, .slice k6.a k6.n k6.c, .slice k7.a k7.n k7.c, .slice k8.a k8.n k8.c, .slice u.a u.n u.c], .int .i64 acc] wx fun e w' => isInt e ∧ Below wx.heap.size wx w') := fun acc wx hb => by
    have := signer_any ver k1 k2 k3 k4 s k6 k7 k8 u T V T' V' TI TI' B B' acc wx (hA.keep hb) (hU.keep hb) hs hu
    unfold signerV at this
    exact this
  have HB : Hid (∀ o, Below w.heap.size w (w.alloc o)) := hBw
  unfold signerV
  clear hBw hA hU hX
  go_enter Try.func6, Try.ntmps6
  go_wp2_with fail
  refine (words_any _ _).mono ?_
  rintro e w1 ⟨⟨z1, rfl⟩, rfl⟩
  go_wp2_with fail
  refine (HX.out _ _ (HB.out _)).mono ?_
  rintro e w1 ⟨⟨z2, rfl⟩, rfl⟩
  go_wp2_with fail
  refine (HS.out _ _ (HB.out _)).mono ?_
  rintro e w2 ⟨⟨z3, rfl⟩, hB2⟩
  have hB := below_then (HB.out _) hB2
  clear hB2 HX HS HB
  go_wp2
  go_ret
  exact ⟨isInt_mk _, hB⟩

theorem Try.info3 : (Try.prog.info? 3).map (fun i => (i.zero, i.size, i.bytes)) = some (some (.int .i64 0), 1, 8) := by kernel_rfl

/-- What cloneInts hands back: the same numbers in new memory. -/
def clonePost (n : Nat) (A : Nat → Int) (w : World) (e : Ending) (w' : World) : Prop :=
  e = .returned (.slice (some ⟨w.heap.size, 0, none⟩) n n) ∧ Sees w' (some ⟨w.heap.size, 0, none⟩) n (intsV A) ∧ Below w.heap.size w w'

set_option maxHeartbeats 1000000 in
theorem clone_any (a : Option Addr) (n c : Nat) (A : Nat → Int) (w : World) (hA : Sees w a n (intsV A)) (hn : n ≤ 1048576) :
    Calls Try.prog 8 #[.slice a n c] w fun e w' => clonePost n A w e w' := by
  have hmk := run_make_row' (P := Try.prog) 23 3 (.int .i64 0) 8 Try.underlying23 Try.info3 rfl .i64 .i64 n (by omega) (by omega)
  go_enter Try.func8, Try.ntmps8
  go_wp2
  clear hmk
  go_loopg [4] n (fun g i wr => ∃ k : Nat, k ≤ n ∧ g = n - k ∧ i = .int .i64 k ∧ Below w.heap.size w wr ∧ wr.rowIs w.heap.size 3 n (fun j => if j < k then .int .i64 (A j) else .int .i64 0))
  case atStart => exact ⟨0, Nat.zero_le _, rfl, rfl, (Below.refl _ _).alloc (Nat.le_refl _) _, (World.rowIs_made w _ n 3).congr (fun j _ => by simp)⟩
  case round =>
    obtain ⟨k, hk, rfl, rfl, hB, hR⟩ := hrel
    by_cases hlt : k < n
    · obtain ⟨b, o, rfl, hc⟩ := (hA.keep hB).at hlt
      have hlz : (k : Int) < (n : Int) := by omega
      have hc1 := hR.cell hlt
      have hf1 := hR.frozen k
      go_wp2
      go_roundg (n - (k + 1))
      case measure => omega
      case rel =>
        refine ⟨k + 1, by omega, rfl, by go_num, hB.setCell (Nat.le_refl _) _, (hR.set k _).congr (fun j _ => ?_)⟩
        by_cases e : j = k
        · subst e; rw [if_pos rfl, if_pos (by omega)]
        · rw [if_neg e]
          by_cases h : j < k
          · rw [if_pos h, if_pos (by omega)]
          · rw [if_neg h, if_neg (by omega)]
    · obtain rfl : n = k := by omega
      go_wp2
      go_ret
      exact ⟨rfl, ⟨w.heap.size, 0, fun _ => rfl, fun i hi => by rw [Nat.zero_add, hR.cell hi, if_pos hi]⟩, hB⟩

set_option maxHeartbeats 1000000 in
theorem bytesEq_same (a : Option Addr) (n c : Nat) (Y : Nat → Int) (w : World) (hA : Sees w a n (fun i => .int .u8 (Y i))) (hn : n ≤ maxLen) :
    Calls Try.prog 19 #[.slice a n c, .slice a n c] w fun e w' => e = .returned (.bool true) ∧ ∃ m, w' = w.drewN m := by
  unfold maxLen at *
  go_enter Try.func19, Try.ntmps19
  go_wp2
  go_loopg [5] n (fun g i wr => Drawn w wr ∧ ∃ k : Nat, k ≤ n ∧ g = n - k ∧ i = .int .i64 k)
  case atStart => exact ⟨Drawn.refl _, 0, Nat.zero_le _, rfl, rfl⟩
  case round =>
    obtain ⟨hD, k, hk, rfl, rfl⟩ := hrel
    by_cases hlt : k < n
    · obtain ⟨b1, o1, rfl, hc1⟩ := (hA.keep (hD.below _)).at hlt
      have hlz : (k : Int) < (n : Int) := by omega
      go_wp2
      go_quiet (fail)
      go_wp2
      go_roundg (n - (k + 1))
      case measure => omega
      case rel => exact ⟨hD.more _, k + 1, by omega, rfl, by go_num⟩
    · go_wp2
      go_ret
      exact ⟨rfl, hD⟩

/-- A cell that is a slice of bytes. -/
def GoodV (w : World) (v : Value) : Prop := ∃ b : Sl, v = .slice b.a b.n b.c ∧ b.n ≤ maxLen ∧ ∃ Y : Nat → Int, Sees w b.a b.n (fun i => .int .u8 (Y i))
theorem GoodV.keep {w w' : World} {v : Value} (h : GoodV w v) (hb : Below w.heap.size w w') : GoodV w' v := by
  obtain ⟨b, h1, h2, Y, h3⟩ := h
  exact ⟨b, h1, h2, Y, h3.keep hb⟩

set_option maxHeartbeats 1000000 in
theorem valsEq_same (a b : Option Addr) (n c d : Nat) (f : Nat → Value) (w : World) (hA : Sees w a n f) (hB : Sees w b n f) (hG : ∀ i, i < n → GoodV w (f i)) (hn : n ≤ maxLen) :
    Calls Try.prog 12 #[.slice a n c, .slice b n d] w fun e w' => e = .returned (.bool true) ∧ Drawn w w' := by
  unfold maxLen at hn
  go_enter Try.func12, Try.ntmps12
  go_wp2
  go_loopg [5] n (fun g i wr => Drawn w wr ∧ ∃ k : Nat, k ≤ n ∧ g = n - k ∧ i = .int .i64 k)
  case atStart => exact ⟨Drawn.refl _, 0, Nat.zero_le _, rfl, rfl⟩
  case round =>
    obtain ⟨hD, k, hk, rfl, rfl⟩ := hrel
    by_cases hlt : k < n
    · obtain ⟨b1, o1, rfl, hc1⟩ := (hA.keep (hD.below _)).at hlt
      obtain ⟨b2, o2, rfl, hc2⟩ := (hB.keep (hD.below _)).at hlt
      have hlz : (k : Int) < (n : Int) := by omega
      obtain ⟨⟨xa, xn, xc⟩, he, hxn, Y, hY⟩ := hG k hlt
      dsimp only at he hxn hY
      rw [he] at hc1 hc2
      have HY : Hid (Sees wr xa xn (fun i => .int .u8 (Y i))) := hY.keep (hD.below _)
      clear he hY
      go_wp2
      go_quiet ((go_at_call 19; exact Calls.quiet_of (bytesEq_same xa xn xc Y _ HY.out hxn)))
      go_wp2
      go_roundg (n - (k + 1))
      case measure => omega
      case rel => exact ⟨hD.more _, k + 1, by omega, rfl, by go_num⟩
    · go_wp2
      go_ret
      exact ⟨rfl, hD⟩
end Go.Proofs.Qxb6626885a
