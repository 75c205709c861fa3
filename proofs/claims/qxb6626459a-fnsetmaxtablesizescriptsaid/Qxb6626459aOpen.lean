/-
  From the row's reading of a slice of strings, bools or integers to what the walks are told of it.
-/
import Derived.Test.Qxb6626459aBase
import Derived.Deep.Strs
import Derived.Deep.Grids
import Derived.ChangeOld
namespace Go.Proofs.Qxb6626459a
open Go.RowKit Go.ChangeShapes Go.WideShapes Go.ChangeAt

theorem addr_none {w : World} {a : Addr} {v : Value} (h : w.cell? (a.add 0) = some v) : ∃ b o, a = ⟨b, o, none⟩ := by
  obtain ⟨b, o, sp⟩ := a
  have hs : sp = none := by simpa [Addr.add] using World.cell?_spot h
  subst hs
  exact ⟨b, o, rfl⟩

theorem sees_of {w : World} {a : Addr} {n : Nat} {f : Nat → Value} (h : ∀ i, i < n → w.cell? (a.add i) = some (f i)) : Sees w (some a) n f := by
  rcases Nat.eq_zero_or_pos n with e | e
  · subst e
    exact ⟨0, 0, fun h => absurd h (by omega), fun i hi => absurd hi (by omega)⟩
  · obtain ⟨b, o, rfl⟩ := addr_none (h 0 e)
    refine ⟨b, o, fun _ => rfl, fun i hi => ?_⟩
    rw [← add_plain]
    exact h i hi

theorem sees_nil (w : World) (f : Nat → Value) : Sees w none 0 f := ⟨0, 0, fun h => absurd h (by omega), fun i hi => absurd hi (by omega)⟩

section
variable {H : Type} {enc : TypeId × Value → H} {W : World} {a : Option Addr} {n c : Nat} {d : DataW H} {p : List MemPlace}

theorem open_strs22 (h : DataW.Trod enc Try.prog W 0 (fun _ => true) true 22 (.slice a n c) d p) : ∃ N, Sees W a n (str N) ∧ n ≤ maxLen ∧ ∀ i, i < n → (N i).size ≤ maxLen := by
  obtain ⟨fuel, hf⟩ := h
  rcases Deep.open_strs Try.underlying22 Try.underlying9 (by kernel_rfl) hf with ⟨hcs, _⟩ | ⟨x, l, c', m, N, hcs, _, hl, hm, hmm, _, hcell⟩
  · simp [Value.cells] at hcs
    obtain ⟨rfl, rfl, rfl⟩ := hcs
    exact ⟨fun _ => ByteArray.empty, sees_nil _ _, Nat.zero_le _, fun i hi => absurd hi (by omega)⟩
  · simp [Value.cells] at hcs
    obtain ⟨rfl, rfl, rfl⟩ := hcs
    simp only [if_true] at hmm
    subst hmm
    exact ⟨N, sees_of (fun i hi => (hcell i (by omega)).1), by omega, fun i hi => (hcell i (by omega)).2⟩

theorem open_bools23 (h : DataW.Trod enc Try.prog W 0 (fun _ => true) true 23 (.slice a n c) d p) : ∃ S : Nat → Bool, Sees W a n (fun i => .bool (S i)) ∧ n ≤ maxLen := by
  obtain ⟨fuel, hf⟩ := h
  rcases Deep.open_bools Try.underlying23 Try.underlying4 (by kernel_rfl) hf with ⟨hcs, _⟩ | ⟨x, l, c', S, hcs, _, hl, hm, _, hcell⟩
  · simp [Value.cells] at hcs
    obtain ⟨rfl, rfl, rfl⟩ := hcs
    exact ⟨fun _ => false, sees_nil _ _, Nat.zero_le _⟩
  · simp [Value.cells] at hcs
    obtain ⟨rfl, rfl, rfl⟩ := hcs
    exact ⟨S, sees_of (fun i hi => hcell i (by omega)), by omega⟩

theorem open_ints25 (h : DataW.Trod enc Try.prog W 0 (fun _ => true) true 25 (.slice a n c) d p) : ∃ U : Nat → Int, Sees W a n (fun i => .int .u32 (U i)) ∧ n ≤ maxLen ∧ ∀ i, i < n → 0 ≤ U i ∧ U i ≤ 4294967295 := by
  obtain ⟨fuel, hf⟩ := h
  rcases open_ints Try.underlying25 Try.underlying24 (by kernel_rfl) hf with ⟨hcs, _⟩ | ⟨x, l, c', zs, hcs, _, hl, hm, hz, _, hcell, hwz⟩
  · simp [Value.cells] at hcs
    obtain ⟨rfl, rfl, rfl⟩ := hcs
    exact ⟨fun _ => 0, sees_nil _ _, Nat.zero_le _, fun i hi => absurd hi (by omega)⟩
  · simp [Value.cells] at hcs
    obtain ⟨rfl, rfl, rfl⟩ := hcs
    simp only [if_true] at hz
    refine ⟨fun i => zs.getD i 0, sees_of (fun i hi => hcell i (by omega)), by omega, fun i hi => bounds_u32 (hwz _ ?_)⟩
    show zs.getD i 0 ∈ zs
    rw [List.getD_eq_getElem?_getD, List.getElem?_eq_getElem (by omega)]
    exact List.getElem_mem _
end
end Go.Proofs.Qxb6626459a
