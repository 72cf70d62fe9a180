/-
  The law's own count of the shared codes: no Go in sight.
-/
import Derived.Test.Qxb6609276aParse
namespace Go.Proofs.Qxb6609276a
open Go.RowKit Go.Shelf
set_option linter.unusedSimpArgs false
set_option linter.unusedVariables false

variable {l : List UInt8}

/-- x is readable and has the code c. -/
def hit (M : Int → Option Value) (c : List UInt8) (x : It l) : Bool := (M x.1.off).isNone && decide (x.1.code l = c)

/-- Those of the first j that are readable and have the code c. -/
def hs (M : Int → Option Value) (ys : List (It l)) (c : List UInt8) (j : Nat) : List (It l) := (ys.take j).filter (hit M c)

theorem hs_hit {M : Int → Option Value} {ys : List (It l)} {c : List UInt8} {j : Nat} (hj : j < ys.length) (h : hit M c ys[j] = true) : hs M ys c (j + 1) = hs M ys c j ++ [ys[j]] := by
  unfold hs
  rw [List.take_succ_eq_append_getElem hj, List.filter_append]
  simp [h]

theorem hs_miss {M : Int → Option Value} {ys : List (It l)} {c : List UInt8} {j : Nat} (hj : j < ys.length) (h : hit M c ys[j] = false) : hs M ys c (j + 1) = hs M ys c j := by
  unfold hs
  rw [List.take_succ_eq_append_getElem hj, List.filter_append]
  simp [h]

theorem hs_all (M : Int → Option Value) (ys : List (It l)) (c : List UInt8) : hs M ys c ys.length = grp c (sel M ys) := by
  unfold hs grp sel
  rw [List.take_length, List.filter_filter]
  congr 1
  funext x
  simp [hit, Bool.and_comm]

theorem hs_split (M : Int → Option Value) (ys : List (It l)) (c : List UInt8) (j : Nat) : hs M ys c ys.length = hs M ys c j ++ (ys.drop j).filter (hit M c) := by
  unfold hs
  rw [List.take_length, ← List.filter_append, List.take_append_drop]

/-- The next hit stands at the place that the hits ahead of it count to. -/
theorem hs_at {M : Int → Option Value} {ys : List (It l)} {c : List UInt8} {j : Nat} (hj : j < ys.length) (h : hit M c ys[j] = true) : (hs M ys c ys.length)[(hs M ys c j).length]? = some ys[j] := by
  rw [hs_split M ys c (j + 1), hs_hit hj h]
  simp

theorem hs_le (M : Int → Option Value) (ys : List (It l)) (c : List UInt8) (j : Nat) : (hs M ys c j).length ≤ (hs M ys c ys.length).length := by
  rw [hs_split M ys c j]; simp

theorem hs_small (M : Int → Option Value) (ys : List (It l)) (c : List UInt8) (j : Nat) : (hs M ys c j).length ≤ j := by
  unfold hs
  have := List.length_filter_le (hit M c) (ys.take j)
  simp at this
  omega

/-- Which codes are counted when the first i records have been seen. -/
def KRel (M : Int → Option Value) (ys : List (It l)) (i : Nat) (KL : List (List UInt8)) : Prop :=
  KL.Nodup ∧ ∀ s, s ∈ KL ↔ 2 ≤ (hs M ys s ys.length).length ∧ 0 < (hs M ys s i).length

theorem KRel.start (M : Int → Option Value) (ys : List (It l)) : KRel M ys 0 [] := ⟨by simp, fun s => by simp [hs]⟩

theorem KRel.miss {M : Int → Option Value} {ys : List (It l)} {i : Nat} {KL : List (List UInt8)} (h : KRel M ys i KL) (hi : i < ys.length) (hm : (M ys[i].1.off).isNone = false) : KRel M ys (i + 1) KL :=
  ⟨h.1, fun s => by rw [h.2, hs_miss hi (by simp [hit, hm])]⟩

theorem KRel.skip {M : Int → Option Value} {ys : List (It l)} {i : Nat} {KL : List (List UInt8)} (h : KRel M ys i KL) (hi : i < ys.length) (hm : (M ys[i].1.off).isNone = true)
    (hc : 0 < (hs M ys (ys[i].1.code l) i).length ∨ (hs M ys (ys[i].1.code l) ys.length).length < 2) : KRel M ys (i + 1) KL := by
  refine ⟨h.1, fun s => ?_⟩
  by_cases e : ys[i].1.code l = s
  · subst e
    rw [h.2, hs_hit hi (by simp [hit, hm])]
    rcases hc with hc | hc
    · simp [hc]
    · omega
  · rw [h.2, hs_miss hi (by simp [hit, e])]

theorem KRel.add {M : Int → Option Value} {ys : List (It l)} {i : Nat} {KL : List (List UInt8)} (h : KRel M ys i KL) (hi : i < ys.length) (hm : (M ys[i].1.off).isNone = true)
    (hc : (hs M ys (ys[i].1.code l) i).length = 0) (h2 : 2 ≤ (hs M ys (ys[i].1.code l) ys.length).length) : KRel M ys (i + 1) (ys[i].1.code l :: KL) := by
  have hn : ys[i].1.code l ∉ KL := fun e => by have := ((h.2 _).1 e).2; omega
  refine ⟨List.nodup_cons.2 ⟨hn, h.1⟩, fun s => ?_⟩
  by_cases e : ys[i].1.code l = s
  · subst e
    rw [hs_hit hi (by simp [hit, hm])]
    simp [h2]
  · rw [hs_miss hi (by simp [hit, e]), ← h.2]
    simp [Ne.symm e]

theorem nodup_le {α : Type} [DecidableEq α] : ∀ {a b : List α}, a.Nodup → (∀ x ∈ a, x ∈ b) → a.length ≤ b.length
  | [], _, _, _ => by simp
  | x :: a, b, h, hs => by
    have hx : x ∈ b := hs x (by simp)
    have h1 := nodup_le (a := a) (b := b.erase x) (List.nodup_cons.1 h).2 (fun y hy => by
      have hne : y ≠ x := fun e => (List.nodup_cons.1 h).1 (e ▸ hy)
      exact (List.mem_erase_of_ne hne).2 (hs y (List.mem_cons_of_mem _ hy)))
    rw [List.length_erase_of_mem hx] at h1
    have := List.length_pos_of_mem hx
    simp
    omega

theorem KRel.done {M : Int → Option Value} {ys : List (It l)} {KL K : List (List UInt8)} (h : KRel M ys ys.length KL) (hK : K.Nodup) (hm : ∀ s, s ∈ K ↔ 2 ≤ (hs M ys s ys.length).length) : K.length = KL.length := by
  have e : ∀ s, s ∈ K ↔ s ∈ KL := fun s => by rw [hm, h.2]; omega
  have h1 := nodup_le hK (fun s hs => (e s).1 hs)
  have h2 := nodup_le h.1 (fun s hs => (e s).2 hs)
  omega

theorem ref_isNone {zs : List Int} {M : Int → Option Value} (h : RefM zs M) (z : Int) : (M z).isNone = !hasI zs z := by
  by_cases hz : z ∈ zs
  · obtain ⟨a, ha⟩ := (h z).1 hz
    simp [ha, hasI, hz]
  · simp [(h z).2 hz, hasI, hz]

theorem ref_forms {zs : List Int} {M : Int → Option Value} (h : RefM zs M) (z : Int) : M z = none ∨ ∃ x, M z = some (.iface 59 (.pointer (some x))) := by
  by_cases hz : z ∈ zs
  · exact .inr ((h z).1 hz)
  · exact .inl ((h z).2 hz)

theorem sel_sorted {R : List Rc} {M : Int → Option Value} {ys : List (It l)} {a z : Nat} (hR : Chain l a R z) (hy : ys.map Subtype.val = R) : (sel M ys).Pairwise fun x y => x.1.off < y.1.off := by
  have h := hR.sorted
  rw [← hy, List.pairwise_map] at h
  exact h.filter _

/-- The two flags of the inner loop. -/
theorem first_step {M : Int → Option Value} {ys : List (It l)} {c : List UInt8} {i j : Nat} (hj : j < ys.length) (hm : hit M c ys[j] = false) : hs M ys c (min (j + 1) i) = hs M ys c (min j i) := by
  by_cases h : j < i
  · rw [Nat.min_eq_left (by omega), Nat.min_eq_left (by omega), hs_miss hj hm]
  · rw [Nat.min_eq_right (by omega), Nat.min_eq_right (by omega)]

end Go.Proofs.Qxb6609276a
