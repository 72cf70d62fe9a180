/-
  What the map of shared codes holds, round by round.
-/
import Derived.Test.Qxb6609276aSort
namespace Go.Proofs.Qxb6609276a
open Go.RowKit Go.Shelf
set_option linter.unusedSimpArgs false
set_option linter.unusedVariables false

variable {l : List UInt8}

theorem keyS : Maps.Keyed Try.prog 9 := Maps.string_keyed Try.underlying9

def nameV (x : It l) : Value := .string (bs (x.1.name l))

/-- The map in block mb holds, of the records 'done', the groups of two and more. -/
def Groups (n₀ Y mb : Nat) (W : World) (done : List (It l)) : Prop :=
  ∃ (n : Nat) (K : List (List UInt8)) (Mk : List UInt8 → Option Value) (sz : Nat), Raw litS W Try.prog 9 mb n Mk sz ∧ n ≤ done.length ∧ K.Nodup ∧ sz = K.length ∧ (∀ s, s ∈ K ↔ 2 ≤ (grp s done).length) ∧
    (∀ s, 2 ≤ (grp s done).length → ∃ fb, n₀ ≤ fb ∧ fb ≠ Y ∧ fb ≠ mb ∧ Mk s = some (.slice (some ⟨fb, 0, none⟩) (grp s done).length (grp s done).length) ∧ W.heap[fb]? = some (.cells ((grp s done).map nameV).toArray 9 (0, 0))) ∧
    (∀ s, (grp s done).length < 2 → Mk s = none)

theorem Groups.start (n₀ Y : Nat) (w : World) : Groups (l := l) n₀ Y w.heap.size (w.alloc (.map #[] 0)) [] :=
  ⟨0, [], fun _ => none, 0, Raw.made litS w Try.prog 9, by simp, by simp, rfl, by simp [grp], by simp [grp], by simp⟩

/-- Whatever leaves all blocks but Y and mb alone leaves what the groups say. -/
theorem Groups.kept {n₀ Y mb : Nat} {W W' : World} {done : List (It l)} (h : Groups n₀ Y mb W done) (hm : W'.heap[mb]? = W.heap[mb]?) (hb : ∀ b, b < W.heap.size → b ≠ Y → b ≠ mb → (∃ arr, W.heap[b]? = some (.cells arr 9 (0, 0))) → W'.heap[b]? = W.heap[b]?) : Groups n₀ Y mb W' done := by
  obtain ⟨n, K, Mk, sz, h1, h2, h3, h4, h5, h6, h7⟩ := h
  refine ⟨n, K, Mk, sz, h1.of_block hm, h2, h3, h4, h5, fun s hs => ?_, h7⟩
  obtain ⟨fb, f1, f2, f3, f4, f5⟩ := h6 s hs
  exact ⟨fb, f1, f2, f3, f4, (hb fb (Array.getElem?_eq_some_iff.1 f5).1 f2 f3 ⟨_, f5⟩).trans f5⟩

theorem Groups.grown {n₀ Y mb : Nat} {W W' : World} {done : List (It l)} (h : Groups n₀ Y mb W done) (hg : W.grownBy W' none) : Groups n₀ Y mb W' done := by
  have hl : mb < W.heap.size := by obtain ⟨_, _, _, _, h1, _⟩ := h; exact h1.lt
  exact h.kept (hg.block mb hl (by simp)) (fun b hb _ _ _ => hg.block b hb (by simp))

/-- A run of one record: the map stays. -/
theorem Groups.one {n₀ Y mb : Nat} {W : World} {done : List (It l)} {x : It l} (h : Groups n₀ Y mb W done) (hx : ∀ y ∈ done, y.1.code l ≠ x.1.code l) : Groups n₀ Y mb W (done ++ [x]) := by
  obtain ⟨n, K, Mk, sz, h1, h2, h3, h4, h5, h6, h7⟩ := h
  have hg : ∀ s, s ≠ x.1.code l → grp s (done ++ [x]) = grp s done := fun s hs => by
    rw [grp_append, grp_none (xs := [x]) (by simpa using fun e => hs e.symm), List.append_nil]
  have hc : grp (x.1.code l) (done ++ [x]) = [x] := by
    rw [grp_append, grp_none hx, grp_same (by simp)]; rfl
  have hc0 : grp (x.1.code l) done = [] := grp_none hx
  refine ⟨n, K, Mk, sz, h1, by simp; omega, h3, h4, fun s => ?_, fun s hs => ?_, fun s hs => ?_⟩
  · by_cases e : s = x.1.code l
    · subst e
      rw [h5, hc, hc0]
      simp
    · rw [h5, hg s e]
  · by_cases e : s = x.1.code l
    · subst e
      rw [hc] at hs
      simp at hs
    · rw [hg s e] at hs ⊢
      exact h6 s hs
  · by_cases e : s = x.1.code l
    · subst e
      exact h7 _ (by rw [hc0]; simp)
    · rw [hg s e] at hs
      exact h7 s hs

/-- A run of two or more: the map takes the group. W1: the world ahead of the store, in which the new slice lies; W2: behind it. -/
theorem Groups.more {n₀ Y mb : Nat} {W1 W2 : World} {done run : List (It l)} {c : List UInt8} (h : Groups n₀ Y mb W1 done) (hx : ∀ y ∈ done, y.1.code l ≠ c) (hr : ∀ y ∈ run, y.1.code l = c) (h2 : 2 ≤ run.length)
    (fb : Nat) (f1 : n₀ ≤ fb) (f2 : fb ≠ Y) (f3 : fb ≠ mb) (f5 : W1.heap[fb]? = some (.cells (run.map nameV).toArray 9 (0, 0)))
    (hu : ∀ (n : Nat) (Mk : List UInt8 → Option Value) (sz : Nat), n ≤ done.length → Raw litS W1 Try.prog 9 mb n Mk sz → Raw litS W2 Try.prog 9 mb (n + 1) (put Mk c (.slice (some ⟨fb, 0, none⟩) run.length run.length)) (if (Mk c).isSome then sz else sz + 1))
    (hg : W1.grownBy W2 (some mb)) : Groups n₀ Y mb W2 (done ++ run) := by
  obtain ⟨n, K, Mk, sz, h1, hn, h3, h4, h5, h6, h7⟩ := h
  have hg' : ∀ s, s ≠ c → grp s (done ++ run) = grp s done := fun s hs => by
    rw [grp_append, grp_none (xs := run) (fun y hy e => hs (e.symm.trans (hr y hy))), List.append_nil]
  have hc : grp c (done ++ run) = run := by
    rw [grp_append, grp_none hx, grp_same hr]; rfl
  have hc0 : grp c done = [] := grp_none hx
  have hM : Mk c = none := h7 _ (by rw [hc0]; simp)
  have hcK : c ∉ K := by rw [h5, hc0]; simp
  have hraw := hu n Mk sz hn h1
  rw [hM] at hraw
  simp only [Option.isSome_none, Bool.false_eq_true, if_false] at hraw
  refine ⟨n + 1, c :: K, _, _, hraw, by simp; omega, List.nodup_cons.2 ⟨hcK, h3⟩, by simp [h4], fun s => ?_, fun s hs => ?_, fun s hs => ?_⟩
  · by_cases e : s = c
    · subst e
      rw [hc]
      simp [h2]
    · rw [hg' s e, ← h5]
      simp [e]
  · by_cases e : s = c
    · subst e
      rw [hc]
      exact ⟨fb, f1, f2, f3, by simp [put], (hg.block fb (Array.getElem?_eq_some_iff.1 f5).1 (by intro e; cases e; exact f3 rfl)).trans f5⟩
    · rw [hg' s e] at hs ⊢
      obtain ⟨fb', q1, q2, q3, q4, q5⟩ := h6 s hs
      exact ⟨fb', q1, q2, q3, by simp [put, e, q4], (hg.block fb' (Array.getElem?_eq_some_iff.1 q5).1 (by intro e; cases e; exact q3 rfl)).trans q5⟩
  · by_cases e : s = c
    · subst e
      rw [hc] at hs
      omega
    · rw [hg' s e] at hs
      simp [put, e, h7 s hs]

/-- What the function hands back. -/
def SharedEnd (n₀ : Nat) (xs : List (It l)) (w : World) (e : Ending) (w' : World) : Prop :=
  ∃ Y mb, e = .returned (.map (some mb)) ∧ Groups n₀ Y mb w' (srt xs) ∧ Below n₀ w w'

end Go.Proofs.Qxb6609276a
