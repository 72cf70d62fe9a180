/-
  slices.SortFunc at the records' offsets.
-/
import Derived.Test.Qxb6609276aOrder
import Derived.Test.Qxb6609276aShared
namespace Go.Proofs.Qxb6609276a
open Go.RowKit Go.Shelf Go.Sort
set_option linter.unusedSimpArgs false
set_option linter.unusedVariables false

variable {l : List UInt8}

theorem grownBy_sortWorld {α : Type} [Inhabited α] (enc : α → Value) (w : World) (blk off m : Nat) (dk : Array α) (os : Array Obj) : w.grownBy (sortWorld enc w blk off m dk os) (some blk) := by
  refine ⟨rfl, rfl, rfl, ?_, fun i hi hne => ?_⟩
  · simp [sortWorld, grow, putRow, mapBlock, Sort.ahead]
  · have hne' : blk ≠ i := fun e => hne (by rw [e])
    have hsz : i < (w.heap.modify blk (onCells (putCells enc off dk))).size := by simpa using hi
    show (w.heap.modify blk (onCells (putCells enc off dk)) ++ os)[i]? = w.heap[i]?
    rw [Array.getElem?_append_left hsz, Array.getElem?_modify]
    simp [hne']

/-- The block of the closures' memory, of a world in which they stand. -/
structure Cx (W : World) (C F B g : Nat) (a : Option Addr) (l : List UInt8) (bm : Nat) (cnt : Int) : Prop where
  kc : W.heap[C]? = some (.cells #[.func (.func 15) #[] #[.pointer (some ⟨F, 0, none⟩)]] 53 (0, 0))
  kf : W.heap[F]? = some (.cells #[.pointer (some ⟨B, 0, none⟩)] 32 (0, 0))
  kb : W.heap[B]? = some (.cells #[.slice a l.length l.length, .map (some bm), .int .i64 cnt] 45 (0, 0))
  kg : 0 < l.length → W.heap[g]? = some (.cells (l.map fun b => Value.int .u8 (b.toNat : Int)).toArray 5 (0, 0))
  ka : 0 < l.length → a = some ⟨g, 0, none⟩

theorem Cx.same {W W' : World} {C F B g : Nat} {a : Option Addr} {bm : Nat} {cnt : Int} (h : Cx W C F B g a l bm cnt) (hs : Same [C, F, B, g] W W') : Cx W' C F B g a l bm cnt :=
  ⟨(hs C (by simp)).trans h.kc, (hs F (by simp)).trans h.kf, (hs B (by simp)).trans h.kb, fun hl => (hs g (by simp)).trans (h.kg hl), h.ka⟩

theorem Cx.ctx {W : World} {C F B g : Nat} {a : Option Addr} {bm : Nat} {cnt : Int} (h : Cx W C F B g a l bm cnt) (hl : 0 < l.length) : Ctx W F B g l :=
  ⟨by rw [cell_block h.kf]; rfl, by rw [cell_block h.kb, ← h.ka hl]; rfl, bytes_block (h.kg hl)⟩
theorem Cx.cell {W : World} {C F B g : Nat} {a : Option Addr} {bm : Nat} {cnt : Int} (h : Cx W C F B g a l bm cnt) : W.cell? ⟨C, 0, none⟩ = some (.func (.func 15) #[] #[.pointer (some ⟨F, 0, none⟩)]) := by rw [cell_block h.kc]; rfl

/-- What the sort leaves. -/
def SortEnd (n₀ : Nat) (v : Value) (xs : List (It l)) (w : World) (e : Ending) (w' : World) : Prop :=
  e = .returned (.tuple #[]) ∧ ∃ A cap, v = .slice A xs.length cap ∧
    ((xs.length = 0 ∧ w' = w) ∨ (0 < xs.length ∧ ∃ blk, A = some ⟨blk, 0, none⟩ ∧ n₀ ≤ blk ∧ xs.length ≤ cap ∧ (∃ cur, w.heap[blk]? = some (.cells cur 3 (0, 0))) ∧ w.grownBy w' (some blk) ∧
      ∀ j (h : j < (srt xs).length), w'.cell? ⟨blk, j, none⟩ = some (encI (srt xs)[j])))

theorem sort_any (n₀ C F B g : Nat) (a : Option Addr) (bm : Nat) (cnt : Int) (xs : List (It l)) (v : Value) (w : World) (hn : l.length ≤ 4096) (hx : xs.length ≤ 4096)
    (hrow : w.ownsRow n₀ 3 1 v xs.length (xs.map encI)) (hC : Cx w C F B g a l bm cnt) (hlg : g < n₀) (hlB : B < n₀) :
    Calls Try.prog 17 #[v, .func (.func 18) #[] #[.pointer (some ⟨C, 0, none⟩)]] w (SortEnd n₀ v xs w) := by
  by_cases h0 : xs.length = 0
  · obtain ⟨A, cap, rfl⟩ : ∃ A cap, v = .slice A 0 cap := by
      rcases hrow.2 with ⟨rfl, _⟩ | ⟨gr, cap, _, rfl, _⟩
      · exact ⟨_, _, rfl⟩
      · rw [h0]; exact ⟨_, _, rfl⟩
    refine (Try.slices_SortFunc_none (α := Nat) A cap _ w).mono ?_
    rintro e w' ⟨rfl, rfl⟩
    exact ⟨rfl, A, cap, by rw [h0], .inl ⟨h0, rfl⟩⟩
  · rcases hrow.2 with ⟨_, hz⟩ | ⟨blk, cap, cur, rfl, hb, hcur, hnc, _, _, htake⟩
    · exact absurd hz h0
    · obtain ⟨x0, hx0⟩ : ∃ x0, x0 ∈ xs := List.exists_mem_of_ne_nil _ (fun e => h0 (by simp [e]))
      have hlpos : 0 < l.length := by have := x0.2.lt; omega
      have hdis : ∀ y ∈ [C, F, B, g], y ≠ blk := by
        intro y hy e
        subst e
        simp at hy
        rcases hy with rfl | rfl | rfl | rfl
        · have := hC.kc.symm.trans hcur; simp at this
        · have := hC.kf.symm.trans hcur; simp at this
        · omega
        · omega
      have hlt : ∀ y ∈ [C, F, B, g], y < w.heap.size := by
        intro y hy
        simp at hy
        rcases hy with rfl | rfl | rfl | rfl
        · exact (Array.getElem?_eq_some_iff.1 hC.kc).1
        · exact (Array.getElem?_eq_some_iff.1 hC.kf).1
        · exact (Array.getElem?_eq_some_iff.1 hC.kb).1
        · exact (Array.getElem?_eq_some_iff.1 (hC.kg hlpos)).1
      letI : Inhabited (It l) := ⟨x0⟩
      have hcell : ∀ j (hj : j < xs.length), w.cell? ⟨blk, j, none⟩ = some (encI xs[j]) := by
        intro j hj
        rw [cell_block hcur]
        have e : cur.toList[j]? = (xs.map encI)[j]? := by
          rw [← htake, List.getElem?_take, if_pos (by omega)]
        rw [← Array.getElem?_toList, e]
        simp [hj]
      have hH : Holds (encI (l := l)) w blk 0 xs.toArray := by
        intro j hj
        have hj' : j < xs.length := by simpa using hj
        refine ⟨?_, ?_⟩
        · rw [Nat.zero_add, hcell j hj']
          simp [hj']
        · simp [World.frozen?, hcur]
      have hcmp : CmpLays1 Try.prog 18 #[.pointer (some ⟨C, 0, none⟩)] (encI (l := l)) cfI blk 0 xs.toArray.size w := by
        intro m os dk hs x y
        have hCx := hC.same (fun z hz => (grownBy_sortWorld (encI (l := l)) w blk 0 m dk os).block z (hlt z hz) (fun e => hdis z hz (by cases e; rfl)))
        refine (less_any C F B g l x.1 y.1 _ hn x.2 y.2 (hCx.ctx hlpos) hCx.cell).mono ?_
        rintro e w' ⟨rfl, q, o, rfl⟩
        exact ⟨rfl, q, #[o], rfl⟩
      have hs := Try.slices_SortFunc_total encI (fun _ => rfl) cfI cfI_swo 18 #[.pointer (some ⟨C, 0, none⟩)] blk 0 cap xs.toArray w (enters_of Try.func18 (by kernel_rfl) rfl) hcmp hH (Array.getElem?_eq_some_iff.1 hcur).1 (by simp; omega) cfI_total
      rw [show xs.toArray.size = xs.length by simp] at hs
      refine hs.mono ?_
      rintro e w' ⟨rfl, m, os, rfl⟩
      refine ⟨rfl, _, _, rfl, .inr ⟨by omega, blk, rfl, hb, hnc, ⟨cur, hcur⟩, grownBy_sortWorld _ _ _ _ _ _ _, ?_⟩⟩
      have hlen : (srt xs).length = xs.length := (srt_perm xs).length_eq
      have hH2 := holds_sortWorld (encI (l := l)) w blk 0 m xs.toArray (srt xs).toArray os (Array.getElem?_eq_some_iff.1 hcur).1 hH (by simp [hlen])
      intro j hj
      have := (hH2 j (by simpa using hj)).1
      rw [Nat.zero_add] at this
      rw [show (sortWorld encI w blk 0 m (xs.toArray.toList.mergeSort fun x y => !ltOf cfI y x).toArray os) = sortWorld encI w blk 0 m (srt xs).toArray os by simp [srt]]
      rw [this]
      simp [hj]

end Go.Proofs.Qxb6609276a
