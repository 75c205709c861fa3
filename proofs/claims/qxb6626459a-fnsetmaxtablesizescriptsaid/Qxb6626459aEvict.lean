/-
  (HeaderField).Size, (*dynamicTable).evictTo, setMaxSize, (*Encoder).SetMaxTableSize by their contracts.
-/
import Derived.Test.Qxb6626459aFields
import Derived.Deep.RegionWith
import Derived.Outline
namespace Go.Proofs.Qxb6626459a
open Go.RowKit

theorem size_any (a b : ByteArray) (s : Bool) (w : World) (ha : a.size ≤ 1048576) (hb : b.size ≤ 1048576) :
    Calls Try.prog 19 #[.agg #[.string a, .string b, .bool s]] w fun e w' => e = .returned (.int .u32 (esz a b)) ∧ w.alloc (.cells #[.string a, .string b, .bool s] 48) = w' := by
  go_enter Try.func19, Try.ntmps19
  go_wp2
  go_ret
  exact ⟨ret_u32 (by unfold esz; omega), rfl⟩

/-- All blocks but E and F are as they were. -/
structure Frame (E F : Nat) (w w' : World) : Prop where
  os : w'.os = w.os
  tape : w'.tape = w.tape
  output : w'.output = w.output
  size : w.heap.size ≤ w'.heap.size
  block : ∀ k, k < w.heap.size → k ≠ E → k ≠ F → w'.heap[k]? = w.heap[k]?

/-- An encoder at E whose table's fields lie in block F: the oldest d of n are gone. -/
structure Enc (w : World) (E F n : Nat) (N V : Nat → ByteArray) (S : Nat → Bool) (d : Nat) (mx low : Int) (pend : Bool) : Prop where
  le : d ≤ n
  ne : E ≠ F
  fld : ∃ fa, (d < n → fa = some ⟨F, d * 3, none⟩) ∧ w.rowIs E 46 5 (ecell fa (n - d) (n - d) ((pre N V n : Int) - pre N V d) mx low pend)
  row : w.rowIs F 48 (n * 3) (fun j => if j < d * 3 then zcell j else fcell N V S j)

theorem enc_step {wr : World} {E F n : Nat} {N V : Nat → ByteArray} {S : Nat → Bool} {k : Nat} {mx low : Int} {pend : Bool} (h : Enc wr E F n N V S k mx low pend) (hlt : k < n)
    (fa : Option Addr) (hfa : k + 1 < n → fa = some ⟨F, (k + 1) * 3, none⟩) (l : Nat) (hl : l = n - (k + 1)) (z : Int) (hz : z = (pre N V n : Int) - pre N V (k + 1)) (o : Obj) :
    Enc ((((((wr.setCell ⟨E, 1, none⟩ (.int .u32 z)).setCell ⟨F, k * 3, none⟩ (.string ⟨#[]⟩)).setCell ⟨F, k * 3 + 1, none⟩ (.string ⟨#[]⟩)).setCell ⟨F, k * 3 + 2, none⟩ (.bool false)).setCell ⟨E, 0, none⟩ (.slice fa l l)).alloc o).drew
      E F n N V S (k + 1) mx low pend := by
  obtain ⟨fa0, hfa0, hR⟩ := h.fld
  have hne := h.ne
  refine ⟨hlt, hne, ⟨fa, hfa, ?_⟩, ?_⟩
  · refine (((((((hR.set 1 _).setOther (a := ⟨F, k * 3, none⟩) hne _).setOther (a := ⟨F, k * 3 + 1, none⟩) hne _).setOther (a := ⟨F, k * 3 + 2, none⟩) hne _).set 0 _).congr (fun j hj => ?_)).alloc o).drew
    subst hl hz
    unfold ecell
    have : j = 0 ∨ j = 1 ∨ j = 2 ∨ j = 3 ∨ j = 4 := by omega
    rcases this with e | e | e | e | e <;> subst e <;> rfl
  · refine (((((((h.row.setOther (a := ⟨E, 1, none⟩) hne.symm _).set (k * 3) _).set (k * 3 + 1) _).set (k * 3 + 2) _).setOther (a := ⟨E, 0, none⟩) hne.symm _).congr (fun j hj => ?_)).alloc o).drew
    show (if j = k * 3 + 2 then Value.bool false else if j = k * 3 + 1 then Value.string ⟨#[]⟩ else if j = k * 3 then Value.string ⟨#[]⟩ else if j < k * 3 then zcell j else fcell N V S j) = if j < (k + 1) * 3 then zcell j else fcell N V S j
    by_cases h0 : j = k * 3 + 2
    · rw [if_pos h0, if_pos (by omega), zcell, if_pos (by omega)]
    · rw [if_neg h0]
      by_cases h1 : j = k * 3 + 1
      · rw [if_pos h1, if_pos (show j < (k + 1) * 3 by omega), zcell, if_neg (by omega)]; rfl
      · rw [if_neg h1]
        by_cases h2 : j = k * 3
        · rw [if_pos h2, if_pos (show j < (k + 1) * 3 by omega), zcell, if_neg (by omega)]; rfl
        · rw [if_neg h2]
          by_cases h3 : j < k * 3
          · rw [if_pos h3, if_pos (show j < (k + 1) * 3 by omega)]
          · rw [if_neg h3, if_neg (show ¬ j < (k + 1) * 3 by omega)]

theorem Frame.refl (E F : Nat) (w : World) : Frame E F w w := ⟨rfl, rfl, rfl, Nat.le_refl _, fun _ _ _ _ => rfl⟩
theorem Frame.trans {E F : Nat} {a b c : World} (h : Frame E F a b) (k : Frame E F b c) : Frame E F a c :=
  ⟨k.os.trans h.os, k.tape.trans h.tape, k.output.trans h.output, Nat.le_trans h.size k.size, fun i hi h1 h2 => (k.block i (Nat.lt_of_lt_of_le hi h.size) h1 h2).trans (h.block i hi h1 h2)⟩
theorem Frame.set {E F : Nat} {a b : World} (h : Frame E F a b) {p : Addr} (hp : p.block = E ∨ p.block = F) (v : Value) : Frame E F a (b.setCell p v) :=
  ⟨h.os, h.tape, h.output, by rw [Deep.nblk_setCell]; exact h.size, fun i hi h1 h2 => (Deep.blk_setCell_other _ _ _ _ (by rcases hp with e | e <;> omega)).trans (h.block i hi h1 h2)⟩
theorem Frame.alloc {E F : Nat} {a b : World} (h : Frame E F a b) (o : Obj) : Frame E F a (b.alloc o) :=
  ⟨h.os, h.tape, h.output, by rw [Deep.nblk_alloc]; have := h.size; omega, fun i hi h1 h2 => (Deep.blk_alloc_lt _ _ _ (Nat.lt_of_lt_of_le hi h.size)).trans (h.block i hi h1 h2)⟩
theorem Frame.drew {E F : Nat} {a b : World} (h : Frame E F a b) : Frame E F a b.drew := ⟨h.os, h.tape, h.output, h.size, h.block⟩
theorem Frame.drawn {E F : Nat} {a b c : World} (h : Frame E F a b) (d : Drawn b c) : Frame E F a c := by
  obtain ⟨n, rfl⟩ := d
  exact ⟨h.os, h.tape, h.output, h.size, h.block⟩
theorem Frame.below {E F B : Nat} {a b : World} (h : Frame E F a b) (h1 : B ≤ E) (h2 : B ≤ F) (hB : B ≤ a.heap.size) : Below B a b :=
  ⟨h.os, h.tape, h.output, h.size, fun k hk => h.block k (by omega) (by omega) (by omega)⟩

theorem frame_step {E F : Nat} {w wr : World} (h : Frame E F w wr) (k : Nat) (v0 v1 v2 v3 v4 : Value) (o : Obj) :
    Frame E F w ((((((wr.setCell ⟨E, 1, none⟩ v0).setCell ⟨F, k * 3, none⟩ v1).setCell ⟨F, k * 3 + 1, none⟩ v2).setCell ⟨F, k * 3 + 2, none⟩ v3).setCell ⟨E, 0, none⟩ v4).alloc o).drew :=
  ((((((h.set (.inl rfl) _).set (.inr rfl) _).set (.inr rfl) _).set (.inr rfl) _).set (.inl rfl) _).alloc o).drew

theorem all_step {f : Nat → Int} {b : Int} {d k : Nat} (h : ∀ j, d ≤ j → j < k → b < f j) (hk : b < f k) : ∀ j, d ≤ j → j < k + 1 → b < f j := fun j h1 h2 => by
  by_cases e : j = k
  · rw [e]; exact hk
  · exact h j h1 (by omega)

set_option maxHeartbeats 2000000 in
theorem evict_any (E F n : Nat) (N V : Nat → ByteArray) (S : Nat → Bool) (d : Nat) (mx low b : Int) (pend : Bool) (w : World)
    (h : Enc w E F n N V S d mx low pend) (hn : n ≤ 65536) (hNs : Short N n) (hVs : Short V n) (hsz : pre N V n ≤ 4096) (hb0 : 0 ≤ b) (hb1 : b ≤ 4294967295) :
    Calls Try.prog 18 #[.pointer (some ⟨E, 0, none⟩), .int .u32 b] w fun e w' => e = .returned (.tuple #[]) ∧
      ∃ d', d ≤ d' ∧ Enc w' E F n N V S d' mx low pend ∧ (pre N V n : Int) - pre N V d' ≤ b ∧ (∀ j, d ≤ j → j < d' → b < (pre N V n : Int) - pre N V j) ∧ Frame E F w w' := by
  go_enter Try.func18, Try.ntmps18
  go_wp2
  go_loopg [] (n - d) (fun g wr => ∃ k : Nat, d ≤ k ∧ k ≤ n ∧ g = n - k ∧ Enc wr E F n N V S k mx low pend ∧ (∀ j, d ≤ j → j < k → b < (pre N V n : Int) - pre N V j) ∧ Frame E F w wr)
  case atStart => exact ⟨d, Nat.le_refl _, h.le, rfl, h, fun j h1 h2 => absurd h1 (by omega), ⟨rfl, rfl, rfl, Nat.le_refl _, fun _ _ _ _ => rfl⟩⟩
  case round =>
    obtain ⟨k, hdk, hkn, rfl, hE, hal, hF⟩ := hrel
    obtain ⟨fa, hfa, hR⟩ := hE.fld
    have HA : Hid (∀ j, d ≤ j → j < k → b < (pre N V n : Int) - pre N V j) := hal
    clear hal
    have hpk : pre N V k ≤ pre N V n := pre_mono hkn
    by_cases hgt : b < (pre N V n : Int) - pre N V k
    · have hlt : k < n := by
        rcases Nat.lt_or_ge k n with h | h
        · exact h
        · have : k = n := by omega
          subst this
          omega
      obtain rfl := hfa hlt
      have hne := hE.ne
      have hF0 := hE.row
      have cF0 : wr.cell? ⟨F, k * 3, none⟩ = some (.string (N k)) := by
        rw [hF0.cell (i := k * 3) (by omega), if_neg (by omega), fcell, if_pos (by omega), show k * 3 / 3 = k from by omega]
      have cF1 : wr.cell? ⟨F, k * 3 + 1, none⟩ = some (.string (V k)) := by
        rw [hF0.cell (i := k * 3 + 1) (by omega), if_neg (by omega), fcell, if_neg (by omega), if_pos (by omega), show (k * 3 + 1) / 3 = k from by omega]
      have cF2 : wr.cell? ⟨F, k * 3 + 2, none⟩ = some (.bool (S k)) := by
        rw [hF0.cell (i := k * 3 + 2) (by omega), if_neg (by omega), fcell, if_neg (by omega), if_neg (by omega), show (k * 3 + 2) / 3 = k from by omega]
      have c0 : wr.cell? ⟨E, 0, none⟩ = some (.slice (some ⟨F, k * 3, none⟩) (n - k) (n - k)) := hR.cell (i := 0) (by omega)
      have c1 : wr.cell? ⟨E, 1, none⟩ = some (.int .u32 ((pre N V n : Int) - pre N V k)) := hR.cell (i := 1) (by omega)
      have e1 := hR.lt
      have e2 := hF0.lt
      have f0 := hR.frozen 0
      have f1 := hR.frozen 1
      have ff0 := hF0.frozen (k * 3)
      have ff1 := hF0.frozen (k * 3 + 1)
      have ff2 := hF0.frozen (k * 3 + 2)
      have hnk := hNs k hlt
      have hvk := hVs k hlt
      have hez := esz_le hnk hvk
      have hlen : (0 : Int) < ((n - k : Nat) : Int) := by omega
      have hpk1 : pre N V k + esz (N k) (V k) ≤ pre N V n := by
        have : pre N V (k + 1) ≤ pre N V n := pre_mono (by omega)
        rwa [pre] at this
      have hwr : IntKind.u32.wrap ((pre N V n : Int) - pre N V k - (esz (N k) (V k) : Nat)) = (pre N V n : Int) - pre N V k - (esz (N k) (V k) : Nat) := by
        rw [IntKind.wrap_u32]; omega
      clear hfa
      go_wp2
      go_region_with (go_at_call 19; refine (size_any _ _ _ _ hnk hvk).mono ?_; rintro e w' ⟨rfl, rfl⟩)
      all_goals
        go_wp2
      all_goals
        go_roundg (n - (k + 1))
        case measure => omega
        case rel =>
          refine ⟨k + 1, by omega, by omega, rfl, enc_step hE hlt _ ?_ _ ?_ _ ?_ _, all_step (f := fun j => (pre N V n : Int) - pre N V j) HA.out hgt, frame_step hF k _ _ _ _ _ _⟩
          · intro hk1; first | omega | rw [show (k + 1) * 3 = k * 3 + 3 from by omega]
          · omega
          · rw [pre]; omega
    · have c1 : wr.cell? ⟨E, 1, none⟩ = some (.int .u32 ((pre N V n : Int) - pre N V k)) := hR.cell (i := 1) (by omega)
      go_wp2
      go_end0
      exact ⟨rfl, k, hdk, hE, by omega, HA.out, hF⟩

theorem row_set2 {w : World} {E : Nat} {fa : Option Addr} {n c : Nat} {z mx low mx' : Int} {pend : Bool} (h : w.rowIs E 46 5 (ecell fa n c z mx low pend)) : (w.setCell ⟨E, 2, none⟩ (.int .u32 mx')).rowIs E 46 5 (ecell fa n c z mx' low pend) :=
  (h.set 2 _).congr (fun j hj => by
    unfold ecell
    have : j = 0 ∨ j = 1 ∨ j = 2 ∨ j = 3 ∨ j = 4 := by omega
    rcases this with e | e | e | e | e <;> subst e <;> rfl)
theorem row_set3 {w : World} {E : Nat} {fa : Option Addr} {n c : Nat} {z mx low low' : Int} {pend : Bool} (h : w.rowIs E 46 5 (ecell fa n c z mx low pend)) : (w.setCell ⟨E, 3, none⟩ (.int .u32 low')).rowIs E 46 5 (ecell fa n c z mx low' pend) :=
  (h.set 3 _).congr (fun j hj => by
    unfold ecell
    have : j = 0 ∨ j = 1 ∨ j = 2 ∨ j = 3 ∨ j = 4 := by omega
    rcases this with e | e | e | e | e <;> subst e <;> rfl)
theorem row_set4 {w : World} {E : Nat} {fa : Option Addr} {n c : Nat} {z mx low : Int} {pend pend' : Bool} (h : w.rowIs E 46 5 (ecell fa n c z mx low pend)) : (w.setCell ⟨E, 4, none⟩ (.bool pend')).rowIs E 46 5 (ecell fa n c z mx low pend') :=
  (h.set 4 _).congr (fun j hj => by
    unfold ecell
    have : j = 0 ∨ j = 1 ∨ j = 2 ∨ j = 3 ∨ j = 4 := by omega
    rcases this with e | e | e | e | e <;> subst e <;> rfl)

theorem Enc.mx {w : World} {E F n : Nat} {N V : Nat → ByteArray} {S : Nat → Bool} {d : Nat} {mx low mx' : Int} {pend : Bool} (h : Enc w E F n N V S d mx low pend) : Enc (w.setCell ⟨E, 2, none⟩ (.int .u32 mx')) E F n N V S d mx' low pend := by
  obtain ⟨fa, h1, h2⟩ := h.fld
  exact ⟨h.le, h.ne, ⟨fa, h1, row_set2 h2⟩, h.row.setOther (a := ⟨E, 2, none⟩) h.ne.symm _⟩
theorem Enc.low {w : World} {E F n : Nat} {N V : Nat → ByteArray} {S : Nat → Bool} {d : Nat} {mx low low' : Int} {pend : Bool} (h : Enc w E F n N V S d mx low pend) : Enc (w.setCell ⟨E, 3, none⟩ (.int .u32 low')) E F n N V S d mx low' pend := by
  obtain ⟨fa, h1, h2⟩ := h.fld
  exact ⟨h.le, h.ne, ⟨fa, h1, row_set3 h2⟩, h.row.setOther (a := ⟨E, 3, none⟩) h.ne.symm _⟩
theorem Enc.pend {w : World} {E F n : Nat} {N V : Nat → ByteArray} {S : Nat → Bool} {d : Nat} {mx low : Int} {pend pend' : Bool} (h : Enc w E F n N V S d mx low pend) : Enc (w.setCell ⟨E, 4, none⟩ (.bool pend')) E F n N V S d mx low pend' := by
  obtain ⟨fa, h1, h2⟩ := h.fld
  exact ⟨h.le, h.ne, ⟨fa, h1, row_set4 h2⟩, h.row.setOther (a := ⟨E, 4, none⟩) h.ne.symm _⟩

/-- What evicting to b leaves: the least count d' from d on at which the rest fits. -/
def Evicted (E F n : Nat) (N V : Nat → ByteArray) (S : Nat → Bool) (d : Nat) (mx low b : Int) (pend : Bool) (w w' : World) : Prop :=
  ∃ d', d ≤ d' ∧ Enc w' E F n N V S d' mx low pend ∧ (pre N V n : Int) - pre N V d' ≤ b ∧ (∀ j, d ≤ j → j < d' → b < (pre N V n : Int) - pre N V j) ∧ Frame E F w w'

theorem setMax_any (E F n : Nat) (N V : Nat → ByteArray) (S : Nat → Bool) (d : Nat) (mx low b : Int) (pend : Bool) (w : World)
    (h : Enc w E F n N V S d mx low pend) (hn : n ≤ 65536) (hNs : Short N n) (hVs : Short V n) (hsz : pre N V n ≤ 4096) (hb0 : 0 ≤ b) (hb1 : b ≤ 4294967295) :
    Calls Try.prog 17 #[.pointer (some ⟨E, 0, none⟩), .int .u32 b] w fun e w' => e = .returned (.tuple #[]) ∧ Evicted E F n N V S d b low b pend w w' := by
  obtain ⟨fa, hfa, hR⟩ := h.fld
  have c2 : w.cell? ⟨E, 2, none⟩ = some (.int .u32 mx) := hR.cell (i := 2) (by omega)
  have f2 := hR.frozen 2
  have hE2 := h.mx (mx' := b)
  go_enter Try.func17, Try.ntmps17
  go_wp2_with fail
  refine (evict_any E F n N V S d b low b pend _ hE2 hn hNs hVs hsz hb0 hb1).mono ?_
  rintro e w' ⟨rfl, d', h1, h2, h3, h4, h5⟩
  go_wp2
  go_end0
  exact ⟨rfl, d', h1, h2, h3, h4, ((Frame.refl E F w).set (.inl rfl) _).trans h5⟩
end Go.Proofs.Qxb6626459a
