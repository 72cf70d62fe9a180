/-
  The order of two records, and what the sorted row says: no Go in sight.
-/
import Derived.Test.Qxb6609276aAll
import Derived.Shelf.SlSortCmp.NoneTotal
namespace Go.Proofs.Qxb6609276a
set_option linter.unusedSimpArgs false
set_option linter.unusedVariables false

theorem cmpB_cases : ∀ (a b : List UInt8), (cmpB a b = -1 ∧ cmpB b a = 1 ∧ a ≠ b) ∨ (cmpB a b = 0 ∧ cmpB b a = 0 ∧ a = b) ∨ (cmpB a b = 1 ∧ cmpB b a = -1 ∧ a ≠ b)
  | [], [] => by simp [cmpB, Lib.compareBytes]
  | [], _ :: _ => by simp [cmpB, Lib.compareBytes]
  | _ :: _, [] => by simp [cmpB, Lib.compareBytes]
  | x :: a, y :: b => by
    have ih := cmpB_cases a b
    unfold cmpB at ih ⊢
    unfold Lib.compareBytes
    by_cases h1 : x < y
    · have h2 : ¬ y < x := fun h => UInt8.lt_irrefl _ (UInt8.lt_trans h1 h)
      have h3 : x ≠ y := fun e => by subst e; exact UInt8.lt_irrefl _ h1
      simp [h1, h2, h3]
    · by_cases h2 : y < x
      · have h3 : x ≠ y := fun e => by subst e; exact UInt8.lt_irrefl _ h2
        simp [h1, h2, h3]
      · have h3 : x = y := UInt8.le_antisymm (UInt8.not_lt.1 h2) (UInt8.not_lt.1 h1)
        subst h3
        simp only [h1, if_false]
        simpa using ih

theorem cmpB_trans : ∀ (a b c : List UInt8), cmpB a b < 0 → cmpB b c < 0 → cmpB a c < 0
  | [], [], _, h, _ => by simp [cmpB, Lib.compareBytes] at h
  | _ :: _, [], _, h, _ => by simp [cmpB, Lib.compareBytes] at h
  | _, _ :: _, [], _, h => by simp [cmpB, Lib.compareBytes] at h
  | [], _ :: _, _ :: _, _, _ => by simp [cmpB, Lib.compareBytes]
  | x :: a, y :: b, z :: c, h1, h2 => by
    have ih := cmpB_trans a b c
    unfold cmpB at h1 h2 ih ⊢
    unfold Lib.compareBytes at h1 h2 ⊢
    by_cases hxy : x < y
    · by_cases hyz : y < z
      · simp [UInt8.lt_trans hxy hyz]
      · by_cases hzy : z < y
        · simp [hyz, hzy] at h2
        · have e : y = z := UInt8.le_antisymm (UInt8.not_lt.1 hzy) (UInt8.not_lt.1 hyz)
          subst e
          simp [hxy]
    · by_cases hyx : y < x
      · simp [hxy, hyx] at h1
      · have e : x = y := UInt8.le_antisymm (UInt8.not_lt.1 hyx) (UInt8.not_lt.1 hxy)
        subst e
        by_cases hyz : x < z
        · simp [hyz]
        · by_cases hzy : z < x
          · simp [hyz, hzy] at h2
          · simp only [hxy, hyz, hzy, if_false] at h1 h2 ⊢
            exact ih h1 h2

variable {l : List UInt8}

def cfI (x y : It l) : Int := lessC l x.1 y.1

/-- What 'less' says. -/
theorem cfI_lt (x y : It l) : ltOf cfI x y = true ↔ cmpB (x.1.code l) (y.1.code l) < 0 ∨ (x.1.code l = y.1.code l ∧ x.1.off < y.1.off) := by
  unfold ltOf cfI lessC orI
  rw [decide_eq_true_iff]
  rcases cmpB_cases (x.1.code l) (y.1.code l) with ⟨h1, _, h3⟩ | ⟨h1, _, h3⟩ | ⟨h1, _, h3⟩
  · simp [h1]
  · rw [if_pos h1]
    constructor
    · intro h
      refine Or.inr ⟨h3, ?_⟩
      unfold cmpI at h
      split at h
      · omega
      · split at h <;> omega
    · rintro (h | ⟨_, h⟩)
      · omega
      · unfold cmpI
        rw [if_pos (by omega)]
        omega
  · rw [if_neg (by omega)]
    constructor
    · intro h
      exact Or.inl h
    · rintro (h | ⟨h, _⟩)
      · exact h
      · exact absurd h h3

theorem cfI_total (x y : It l) (h1 : ltOf cfI x y = false) (h2 : ltOf cfI y x = false) : x = y := by
  have n1 : ¬ _ := fun h => by rw [(cfI_lt x y).2 h] at h1; cases h1
  have n2 : ¬ _ := fun h => by rw [(cfI_lt y x).2 h] at h2; cases h2
  rcases cmpB_cases (x.1.code l) (y.1.code l) with ⟨c1, c2, c3⟩ | ⟨c1, c2, c3⟩ | ⟨c1, c2, c3⟩
  · exact absurd (Or.inl (by omega)) n1
  · have e : x.1.off = y.1.off := by
      rcases Nat.lt_trichotomy x.1.off y.1.off with h | h | h
      · exact absurd (Or.inr ⟨c3, h⟩) n1
      · exact h
      · exact absurd (Or.inr ⟨c3.symm, h⟩) n2
    exact Subtype.ext (RecAt.eq x.2 y.2 e)
  · exact absurd (Or.inl (by omega)) n2

theorem cfI_trans (x y z : It l) (h1 : ltOf cfI x y = true) (h2 : ltOf cfI y z = true) : ltOf cfI x z = true := by
  rw [cfI_lt] at h1 h2 ⊢
  rcases h1 with h1 | ⟨h1, h1'⟩
  · rcases h2 with h2 | ⟨h2, h2'⟩
    · exact Or.inl (cmpB_trans _ _ _ h1 h2)
    · exact Or.inl (by rw [← h2]; exact h1)
  · rcases h2 with h2 | ⟨h2, h2'⟩
    · exact Or.inl (by rw [h1]; exact h2)
    · exact Or.inr ⟨h1.trans h2, by omega⟩

theorem cfI_irrefl (x : It l) : ltOf cfI x x = false := by
  rcases h : ltOf cfI x x with _ | _
  · rfl
  · rw [cfI_lt] at h
    rcases h with h | ⟨_, h⟩
    · rcases cmpB_cases (x.1.code l) (x.1.code l) with ⟨_, _, c⟩ | ⟨c, _⟩ | ⟨_, _, c⟩
      · exact absurd rfl c
      · omega
      · exact absurd rfl c
    · omega

theorem cfI_swo : Sort.SWO (ltOf (cfI (l := l))) where
  irrefl := cfI_irrefl
  trans := cfI_trans
  ntrans := fun x y z h1 h2 => by
    rcases h : ltOf cfI x z with _ | _
    · rfl
    · exfalso
      rcases hxy : ltOf cfI y x with _ | _
      · have := cfI_total x y h1 hxy
        subst this
        rw [h] at h2; cases h2
      · have := cfI_trans y x z hxy h
        rw [this] at h2; cases h2

/-- The row as it stands behind the sort. -/
def srt (xs : List (It l)) : List (It l) := xs.mergeSort fun x y => !(ltOf cfI) y x

/-- Those with the code c. -/
def grp (c : List UInt8) (xs : List (It l)) : List (It l) := xs.filter fun x => decide (x.1.code l = c)

theorem grp_append (c : List UInt8) (xs ys : List (It l)) : grp c (xs ++ ys) = grp c xs ++ grp c ys := by simp [grp]
theorem grp_same {c : List UInt8} {xs : List (It l)} (h : ∀ x ∈ xs, x.1.code l = c) : grp c xs = xs := by
  unfold grp
  rw [List.filter_eq_self]
  intro x hx
  simp [h x hx]
theorem grp_none {c : List UInt8} {xs : List (It l)} (h : ∀ x ∈ xs, x.1.code l ≠ c) : grp c xs = [] := by
  unfold grp
  rw [List.filter_eq_nil_iff]
  intro x hx
  simp [h x hx]

theorem srt_perm (xs : List (It l)) : (srt xs).Perm xs := List.mergeSort_perm _ _

theorem srt_sorted (xs : List (It l)) : (srt xs).Pairwise fun x y => ltOf cfI y x = false := by
  have h := List.pairwise_mergeSort (le := fun x y : It l => !(ltOf cfI) y x) ?_ ?_ xs
  · refine List.pairwise_iff_getElem.2 ?_
    intro i j hi hj hij
    have h0 := List.pairwise_iff_getElem.1 h i j hi hj hij
    simp only [Bool.not_eq_true'] at h0
    exact h0
  · intro a b c h1 h2
    simp only [Bool.not_eq_true'] at h1 h2 ⊢
    exact cfI_swo.ntrans c b a h2 h1
  · intro a b
    cases h : ltOf cfI b a with
    | false => simp
    | true =>
      have : ltOf cfI a b = false := by
        rcases h' : ltOf cfI a b with _ | _
        · rfl
        · have := cfI_trans a b a h' h
          rw [cfI_irrefl] at this; cases this
      simp [this]

/-- Of a code, the sorted row has the records in their own order. -/
theorem grp_srt {xs : List (It l)} (hx : xs.Pairwise fun x y => x.1.off < y.1.off) (c : List UInt8) : grp c (srt xs) = grp c xs := by
  refine List.Perm.eq_of_pairwise (le := fun x y : It l => x.1.off ≤ y.1.off) ?_ ?_ ?_ ((srt_perm xs).filter _)
  · intro a b _ _ h1 h2
    exact Subtype.ext (RecAt.eq a.2 b.2 (by omega))
  · have h := (srt_sorted xs).filter (fun x => decide (x.1.code l = c))
    have hm : ∀ x ∈ grp c (srt xs), x.1.code l = c := fun x hx => by simpa using (List.mem_filter.1 hx).2
    refine (List.pairwise_iff_getElem.2 ?_)
    intro i j hi hj hij
    have h0 := List.pairwise_iff_getElem.1 h i j hi hj hij
    have e1 := hm _ (List.getElem_mem hi)
    have e2 := hm _ (List.getElem_mem hj)
    rcases Nat.lt_or_ge (grp c (srt xs))[j].1.off (grp c (srt xs))[i].1.off with hlt | hge
    · exfalso
      have := (cfI_lt (grp c (srt xs))[j] (grp c (srt xs))[i]).2 (Or.inr ⟨e2.trans e1.symm, hlt⟩)
      rw [show ltOf cfI (grp c (srt xs))[j] (grp c (srt xs))[i] = false from h0] at this
      cases this
    · exact hge
  · refine List.pairwise_iff_getElem.2 ?_
    intro i j hi hj hij
    exact Nat.le_of_lt (List.pairwise_iff_getElem.1 (hx.filter _) i j hi hj hij)

/-- Behind a run of one code no record has that code again. -/
theorem run_ends {run rest : List (It l)} {c : List UInt8} (hs : (run ++ rest).Pairwise fun x y => ltOf cfI y x = false) (hr : ∀ x ∈ run, x.1.code l = c) (hne : run ≠ [])
    (hz : ∀ z, rest.head? = some z → z.1.code l ≠ c) : ∀ y ∈ rest, y.1.code l ≠ c := by
  cases rest with
  | nil => intro y hy; cases hy
  | cons z tl =>
    have hzc := hz z rfl
    obtain ⟨r0, hr0⟩ := List.exists_mem_of_ne_nil _ hne
    have hc0 := hr r0 hr0
    have hp := List.pairwise_append.1 hs
    have hlt : cmpB c (z.1.code l) < 0 := by
      have h0 := hp.2.2 r0 hr0 z (by simp)
      have hn : ¬ _ := fun h => by rw [(cfI_lt z r0).2 h] at h0; cases h0
      rcases cmpB_cases c (z.1.code l) with ⟨h1, _, _⟩ | ⟨_, _, h3⟩ | ⟨_, h2, _⟩
      · omega
      · exact absurd h3.symm hzc
      · exact absurd (Or.inl (by rw [hc0]; omega)) hn
    intro y hy
    rcases List.mem_cons.1 hy with rfl | hy
    · exact hzc
    · have h0 := (List.pairwise_cons.1 hp.2.1).1 y hy
      have hn : ¬ _ := fun h => by rw [(cfI_lt y z).2 h] at h0; cases h0
      rcases cmpB_cases (z.1.code l) (y.1.code l) with ⟨h1, _, _⟩ | ⟨_, _, h3⟩ | ⟨_, h2, _⟩
      · intro e
        have := cmpB_trans c _ _ hlt (show cmpB (z.1.code l) (y.1.code l) < 0 by omega)
        rw [e] at this
        rcases cmpB_cases c c with ⟨_, _, q⟩ | ⟨q, _⟩ | ⟨_, _, q⟩
        · exact absurd rfl q
        · omega
        · exact absurd rfl q
      · rw [← h3]; exact hzc
      · exact absurd (Or.inl (by omega)) hn

end Go.Proofs.Qxb6609276a
