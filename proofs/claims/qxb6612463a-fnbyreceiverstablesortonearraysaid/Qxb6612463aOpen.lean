/-
  The argument, opened: what the reading of a []string says of its cells.
-/
import Derived.Test.Qxb6612463aLeafs
import Derived.ChangeArms
namespace Go.Proofs.Qxb6612463a
open Go.RowKit Go.ChangeShapes
set_option linter.unusedSimpArgs false
set_option linter.unusedVariables false

theorem list_of {α : Type} {p : Nat → α → Prop} : ∀ n : Nat, (∀ i, i < n → ∃ a, p i a) → ∃ l : List α, l.length = n ∧ ∀ i (h : i < l.length), p i l[i]
  | 0, _ => ⟨[], rfl, fun i h => absurd h (Nat.not_lt_zero i)⟩
  | n + 1, h => by
    obtain ⟨l, hl, hp⟩ := list_of n (fun i hi => h i (by omega))
    obtain ⟨a, ha⟩ := h n (by omega)
    refine ⟨l ++ [a], by simp [hl], fun i hi => ?_⟩
    by_cases hin : i < l.length
    · rw [List.getElem_append_left hin]
      exact hp i hin
    · have hi' : i = n := by simp at hi; omega
      subst hi'
      rw [List.getElem_append_right (by omega)]
      simpa using ha

theorem Try.cells9 : Try.prog.cellsOf 9 = 1 := by kernel_rfl

section
variable {H : Type} {enc : TypeId × Value → H} {W : World}

theorem cells_get1 {a : Addr} {cs : List Value} {v : Value} (h : W.cells? 0 a 1 = some cs) (hv : cs = [v]) : W.cell? a = some v := by
  unfold World.cells? at h
  rw [if_pos (Nat.zero_le _)] at h
  subst hv
  have := mapM_some_get h 0 0 (by simp)
  simpa [Addr.add] using this

theorem spot_none {a : Addr} {i : Nat} {v : Value} (h : W.cell? (a.add (0 * i)) = some v) : ∃ b o, a = ⟨b, o, none⟩ ∧ b < W.heap.size := by
  have e : a.add (0 * i) = a := by simp [Addr.add]
  rw [e] at h
  have hb := World.block_lt_of_cell? W _ h
  obtain ⟨b, o, sp⟩ := a
  cases sp with
  | none => exact ⟨b, o, rfl, hb⟩
  | some _ =>
    exfalso
    simp only [World.cell?] at h
    split at h
    · simp at h
    · cases h

theorem add_at1 (g o j : Nat) : (⟨g, o, none⟩ : Addr).add j = ⟨g, o + j, none⟩ := by unfold Addr.add; split <;> simp_all

theorem strs_open {fuel : Nat} {v : Value} {x : DataW H × List MemPlace} (h : DataW.trod enc Try.prog W 0 (fun _ => true) true fuel 22 [v] = some x) :
    ∃ (a : Option Addr) (l : List Str) (c : Nat), v = .slice a l.length c ∧ StrsAt W a l ∧ l.length ≤ maxLen ∧ ∀ x ∈ l, x.length ≤ maxLen := by
  rcases DataW.trod_slice Try.underlying22 h with ⟨hcs, _⟩ | ⟨a, len, cap, elems, rest, n, _, hcs, _, hb, hl, hm, hlen, hel, _, _⟩
  · cases hcs
    exact ⟨none, [], 0, rfl, fun h => absurd h (Nat.lt_irrefl 0), Nat.zero_le _, fun x hx => by simp at hx⟩
  · cases hcs
    obtain ⟨l, hll, hp⟩ := list_of (α := Str) (p := fun i s => W.cell? (a.add (i * 1)) = some (encStr s) ∧ s.length ≤ maxLen) len (fun i hi => by
      have h1 := hel i hi
      rw [Try.cells9, List.getElem?_eq_getElem (by omega)] at h1
      obtain ⟨cs, h2, h3⟩ := Option.bind_eq_some_iff.1 h1
      obtain ⟨s, h4, _, h5⟩ := DataW.trod_string Try.underlying9 h3
      refine ⟨s.data.toList, ?_, by rw [Array.length_toList]; exact h5⟩
      have e : encStr s.data.toList = .string s := by simp [encStr]
      rw [e]
      exact cells_get1 h2 h4)
    refine ⟨some a, l, cap, by rw [hll], fun hpos => ?_, by omega, fun x hx => ?_⟩
    · obtain ⟨b, o, rfl, hb'⟩ := spot_none (hp 0 hpos).1
      exact ⟨b, o, rfl, hb', fun j hj => by have := (hp j hj).1; rw [Nat.mul_one, add_at1] at this; exact this⟩
    · obtain ⟨i, hi, rfl⟩ := List.getElem_of_mem hx
      exact (hp i hi).2

end
end Go.Proofs.Qxb6612463a
