/-
  The plain laws of grouping strings by counting: no Go here.
-/
import Derived.Test.Qxb6612463aRaw
namespace Go.Proofs.Qxb6612463a
set_option linter.unusedSimpArgs false
set_option linter.unusedVariables false

abbrev Str := List UInt8

theorem tri (a b : Str) : a < b ∨ a = b ∨ b < a := by
  rcases Classical.em (a < b) with h | h
  · exact .inl h
  · rcases Classical.em (b < a) with h' | h'
    · exact .inr (.inr h')
    · exact .inr (.inl (List.le_antisymm (List.not_lt.1 h') (List.not_lt.1 h)))
theorem lt_irr (a : Str) : ¬ a < a := List.lt_irrefl a
theorem lt_tr {a b c : Str} (h : a < b) (h' : b < c) : a < c := List.lt_trans h h'
theorem lt_asym {a b : Str} (h : a < b) : ¬ b < a := fun h' => lt_irr a (lt_tr h h')
theorem lt_ne {a b : Str} (h : a < b) : a ≠ b := fun e => lt_irr a (by rw [e] at h ⊢; exact h)

/-- How many of l lie before x; how many are x. -/
def st (l : List Str) (x : Str) : Nat := l.countP (fun y => decide (y < x))
def cnt (l : List Str) (x : Str) : Nat := l.countP (fun y => decide (y = x))
/-- The place of record i. -/
def pos (l : List Str) (i : Nat) : Nat := st l (l.getD i []) + cnt (l.take i) (l.getD i [])

theorem st_cnt_le {l : List Str} {x y : Str} (h : x < y) : st l x + cnt l x ≤ st l y := by
  unfold st cnt
  induction l with
  | nil => simp
  | cons a l ih =>
    simp only [List.countP_cons, decide_eq_true_eq]
    by_cases h1 : a < x
    · have h2 : a ≠ x := lt_ne h1
      have h3 : a < y := lt_tr h1 h
      simp only [h1, h2, h3, if_true, if_false]
      omega
    · by_cases h2 : a = x
      · subst h2
        simp only [h, lt_irr, if_true, if_false]
        omega
      · simp only [h1, h2, if_false]
        split <;> omega

theorem st_cnt_len {l : List Str} {x : Str} : st l x + cnt l x ≤ l.length := by
  unfold st cnt
  induction l with
  | nil => simp
  | cons a l ih =>
    simp only [List.countP_cons, decide_eq_true_eq, List.length_cons]
    by_cases h1 : a < x
    · have h2 : a ≠ x := lt_ne h1
      simp only [h1, h2, if_true, if_false]
      omega
    · simp only [h1, if_false]
      split <;> omega

theorem cnt_take_succ {l : List Str} {i : Nat} (h : i < l.length) (x : Str) : cnt (l.take (i + 1)) x = cnt (l.take i) x + (if l[i] = x then 1 else 0) := by
  unfold cnt
  rw [List.take_succ_eq_append_getElem h, List.countP_append]
  simp [List.countP_cons]

theorem cnt_take_mono {l : List Str} {i j : Nat} (h : i ≤ j) (x : Str) : cnt (l.take i) x ≤ cnt (l.take j) x := by
  unfold cnt
  have : l.take i = (l.take j).take i := by rw [List.take_take, Nat.min_eq_left h]
  rw [this]
  exact (List.take_sublist i (l.take j)).countP_le

theorem cnt_take_le {l : List Str} {i : Nat} (x : Str) : cnt (l.take i) x ≤ cnt l x := by
  unfold cnt
  exact (List.take_sublist i l).countP_le

theorem cnt_take_lt {l : List Str} {i j : Nat} (h : i < l.length) (hij : i < j) : cnt (l.take i) l[i] < cnt (l.take j) l[i] := by
  have h1 := cnt_take_succ h l[i]
  rw [if_pos rfl] at h1
  have h2 := cnt_take_mono (l := l) (i := i + 1) (j := j) (by omega) l[i]
  omega

theorem cnt_lt {l : List Str} {i : Nat} (h : i < l.length) : cnt (l.take i) l[i] < cnt l l[i] := by
  have := cnt_take_lt h (j := l.length) (by omega)
  rwa [List.take_length] at this

theorem cnt_find_upto {l : List Str} {x : Str} {j : Nat} : ∀ m, m ≤ l.length → j < cnt (l.take m) x → ∃ i, ∃ h : i < l.length, i < m ∧ l[i] = x ∧ cnt (l.take i) x = j
  | 0, _, h => by simp [cnt] at h
  | m + 1, hm, h => by
    have h1 := cnt_take_succ (l := l) (i := m) (by omega) x
    by_cases hj : j < cnt (l.take m) x
    · obtain ⟨i, hi, h2, h3⟩ := cnt_find_upto m (by omega) hj
      exact ⟨i, hi, by omega, h3⟩
    · by_cases he : l[m] = x
      · rw [if_pos he] at h1
        exact ⟨m, by omega, by omega, he, by omega⟩
      · rw [if_neg he] at h1
        omega

theorem cnt_find {l : List Str} {x : Str} {j : Nat} (h : j < cnt l x) : ∃ i, ∃ h : i < l.length, l[i] = x ∧ cnt (l.take i) x = j := by
  obtain ⟨i, hi, _, h2⟩ := cnt_find_upto (l := l) (x := x) (j := j) l.length (Nat.le_refl _) (by rw [List.take_length]; exact h)
  exact ⟨i, hi, h2⟩

theorem getD_at {l : List Str} {i : Nat} (h : i < l.length) : l.getD i [] = l[i] := by simp [h]

theorem pos_eq {l : List Str} {i : Nat} (h : i < l.length) : pos l i = st l l[i] + cnt (l.take i) l[i] := by
  unfold pos
  rw [getD_at h]

theorem pos_lt {l : List Str} {i : Nat} (h : i < l.length) : pos l i < l.length := by
  rw [pos_eq h]
  have h1 := cnt_lt h
  have h2 := st_cnt_len (l := l) (x := l[i])
  omega

theorem pos_inj {l : List Str} {i j : Nat} (hi : i < l.length) (hj : j < l.length) (h : pos l i = pos l j) : i = j := by
  rw [pos_eq hi, pos_eq hj] at h
  have h1 := cnt_lt hi
  have h2 := cnt_lt hj
  rcases tri l[i] l[j] with hlt | he | hlt
  · have := st_cnt_le (l := l) hlt
    omega
  · rcases Nat.lt_trichotomy i j with hij | hij | hij
    · have := cnt_take_lt hi hij
      rw [he] at this h
      omega
    · exact hij
    · have := cnt_take_lt hj hij
      rw [he] at h
      omega
  · have := st_cnt_le (l := l) hlt
    omega

/-- ks: the strings of l, each once, in order. -/
def Keys (l ks : List Str) : Prop := ks.Pairwise (· < ·) ∧ ∀ x, x ∈ ks ↔ x ∈ l

/-- How many of l are among the first j keys. -/
def S (l ks : List Str) (j : Nat) : Nat := l.countP (fun y => decide (y ∈ ks.take j))

theorem S_zero (l ks : List Str) : S l ks 0 = 0 := by simp [S]

theorem Keys.lt {l ks : List Str} (h : Keys l ks) {i j : Nat} (hij : i < j) (hj : j < ks.length) : ks[i] < ks[j] :=
  List.pairwise_iff_getElem.1 h.1 i j (by omega) hj hij

theorem Keys.not_take {l ks : List Str} (h : Keys l ks) {j : Nat} (hj : j < ks.length) : ks[j] ∉ ks.take j := by
  intro hm
  obtain ⟨i, hi, e⟩ := List.getElem_of_mem hm
  rw [List.getElem_take] at e
  have hi' : i < j := by simp at hi; omega
  exact lt_ne (h.lt hi' hj) e

theorem S_succ {l ks : List Str} (h : Keys l ks) {j : Nat} (hj : j < ks.length) : S l ks (j + 1) = S l ks j + cnt l ks[j] := by
  have hn := h.not_take hj
  have hm : ∀ y, (y ∈ ks.take (j + 1)) ↔ (y ∈ ks.take j ∨ y = ks[j]) := fun y => by
    rw [List.take_succ_eq_append_getElem hj, List.mem_append, List.mem_singleton]
  unfold S cnt
  clear h
  induction l with
  | nil => simp
  | cons a l ih =>
    simp only [List.countP_cons, decide_eq_true_eq, hm] at ih ⊢
    rw [ih]
    by_cases h1 : a ∈ ks.take j
    · have h2 : a ≠ ks[j] := fun e => hn (e ▸ h1)
      simp only [h1, h2, true_or, if_true, if_false]
      omega
    · by_cases h2 : a = ks[j]
      · subst h2
        simp only [hn, or_true, if_true, if_false]
        omega
      · simp only [h1, h2, or_self, if_false]
        omega

theorem S_len {l ks : List Str} (h : Keys l ks) : S l ks ks.length = l.length := by
  unfold S
  rw [List.take_length, List.countP_eq_length]
  intro a ha
  simpa using (h.2 a).2 ha

theorem S_st {l ks : List Str} (h : Keys l ks) {j : Nat} (hj : j < ks.length) : S l ks j = st l ks[j] := by
  unfold S st
  refine List.countP_congr fun y hy => ?_
  simp only [decide_eq_true_eq]
  have hk := (h.2 y).2 hy
  obtain ⟨i, hi, rfl⟩ := List.getElem_of_mem hk
  constructor
  · intro hm
    obtain ⟨i', hi', e⟩ := List.getElem_of_mem hm
    rw [List.getElem_take] at e
    rw [← e]
    exact h.lt (by simp at hi'; omega) hj
  · intro hlt
    have hij : i < j := by
      rcases Nat.lt_trichotomy i j with g | g | g
      · exact g
      · subst g; exact absurd hlt (lt_irr _)
      · exact absurd hlt (lt_asym (h.lt g hi))
    exact List.mem_iff_getElem.2 ⟨i, by simp; omega, by rw [List.getElem_take]⟩

theorem S_le {l ks : List Str} {j : Nat} : S l ks j ≤ l.length := List.countP_le_length

theorem cnt_pos {l : List Str} {x : Str} (h : x ∈ l) : 0 < cnt l x := List.countP_pos_iff.2 ⟨x, h, by simp⟩

theorem le_S {l ks : List Str} (h : Keys l ks) : ∀ j, j ≤ ks.length → j ≤ S l ks j
  | 0, _ => Nat.zero_le _
  | j + 1, hj => by
    have h1 := le_S h j (by omega)
    have h2 := S_succ h (j := j) (by omega)
    have h3 := cnt_pos ((h.2 ks[j]).1 (List.getElem_mem (by omega)))
    omega

/-- The keys of a list, sorted and each once, are its keys. -/
theorem keys_sorted {l ss : List Str} (hn : ss.Nodup) (hm : ∀ x, x ∈ ss ↔ x ∈ l) : Keys l (ss.mergeSort (fun x y => decide (x ≤ y))) := by
  have hp : (ss.mergeSort (fun x y => decide (x ≤ y))).Pairwise (fun a b => (decide (a ≤ b)) = true) := List.pairwise_mergeSort (fun a b c h1 h2 => by simp only [decide_eq_true_eq] at *; exact List.le_trans h1 h2) (fun a b => by simp only [Bool.or_eq_true, decide_eq_true_eq]; exact List.le_total a b) ss
  have hnd : (ss.mergeSort (fun x y => decide (x ≤ y))).Nodup := (List.mergeSort_perm ss _).nodup_iff.2 hn
  refine ⟨?_, fun x => by rw [← hm]; exact (List.mergeSort_perm ss _).mem_iff⟩
  refine List.pairwise_iff_getElem.2 fun i j hi hj hij => ?_
  have h1 := List.pairwise_iff_getElem.1 hp i j hi hj hij
  have h2 := List.pairwise_iff_getElem.1 hnd i j hi hj hij
  simp only [decide_eq_true_eq] at h1
  rcases tri (ss.mergeSort (fun x y => decide (x ≤ y)))[i] (ss.mergeSort (fun x y => decide (x ≤ y)))[j] with g | g | g
  · exact g
  · exact absurd g h2
  · exact absurd h1 (List.not_le.2 g)

end Go.Proofs.Qxb6612463a
