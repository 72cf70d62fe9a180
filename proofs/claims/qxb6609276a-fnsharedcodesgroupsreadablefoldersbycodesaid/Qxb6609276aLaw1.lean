/-
  The law's calls, each with one contract for nil, empty and full slices.
-/
import Derived.Test.Qxb6609276aLaw0
namespace Go.Proofs.Qxb6609276a
open Go.RowKit Go.Shelf
set_option linter.unusedSimpArgs false
set_option linter.unusedVariables false

/-- A slice of bytes that came in. -/
def Arg8 (W : World) (a : Option Addr) (c : Nat) (l : List UInt8) : Prop :=
  l.length ≤ c ∧ c ≤ maxLen ∧ (0 < l.length → ∃ g o, a = some ⟨g, o, none⟩ ∧ g < W.heap.size ∧ BytesAt W g o l)
/-- A slice of integers that came in. -/
def ArgI (W : World) (a : Option Addr) (c : Nat) (zs : List Int) : Prop :=
  zs.length ≤ c ∧ c ≤ maxLen ∧ (∀ z ∈ zs, (Lit.int .i64 z).wf = true) ∧ (0 < zs.length → ∃ x, a = some x ∧ x.block < W.heap.size ∧ ∀ j (h : j < zs.length), W.cell? (x.add j) = some (.int .i64 zs[j]))

theorem parse_ref (a : Option Addr) (c : Nat) (l : List UInt8) (w : World) (hn : l.length ≤ 4096) (h : Arg8 w a c l) : Calls Try.prog 5 #[.slice a l.length c] w (ParseEnd l w) := by
  obtain ⟨h1, h2, h3⟩ := h
  cases l with
  | nil => exact parse_none a c w
  | cons b t =>
    obtain ⟨g, o, rfl, hg, hb⟩ := h3 (by simp)
    exact parse_any g o c (b :: t) w hn h1 h2 hb hg

/-- What the clone of the bytes is. -/
def ClB (l : List UInt8) (w : World) (e : Ending) (w' : World) : Prop :=
  ∃ a, e = .returned (.slice a l.length l.length) ∧ (0 < l.length → a = some ⟨w.heap.size, 0, none⟩ ∧ w'.heap[w.heap.size]? = some (.cells (l.map fun z => Value.int .u8 (z.toNat : Int)).toArray 5 (0, 0))) ∧ Below w.heap.size w w'

theorem clone_ref (a : Option Addr) (c : Nat) (l : List UInt8) (w : World) (hn : l.length ≤ 4096) (h : 0 < l.length → ∃ g o, a = some ⟨g, o, none⟩ ∧ BytesAt w g o l) : Calls Try.prog 6 #[.slice a l.length c] w (ClB l w) := by
  cases a with
  | none =>
    have hl : l = [] := by
      cases l with
      | nil => rfl
      | cons b t => obtain ⟨_, _, h, _⟩ := h (by simp); cases h
    subst hl
    refine (cloneBytes_nil 0 c w).mono ?_
    rintro e w' ⟨rfl, rfl⟩
    exact ⟨none, rfl, fun h => by simp at h, Below.refl _ _⟩
  | some x =>
    refine (cloneBytes_some x c l w hn (fun j hj => ?_)).mono ?_
    · obtain ⟨g, o, e, hb⟩ := h (by omega)
      cases e
      exact hb.add j hj
    · rintro e w' ⟨rfl, hb, hB⟩
      exact ⟨_, rfl, fun _ => ⟨rfl, hb⟩, hB⟩

/-- A slice over the whole of a row of integers. -/
def RefV (rv : Value) (zs : List Int) (W : World) : Prop :=
  ∃ a c, rv = .slice a zs.length c ∧ (0 < zs.length → ∃ b, a = some ⟨b, 0, none⟩ ∧ W.heap[b]? = some (.cells (zs.map fun z => Value.int .i64 z).toArray 3 (0, 0)))

theorem RefV.kept {rv : Value} {zs : List Int} {W W' : World} (h : RefV rv zs W) (hb : ∀ b, b < W.heap.size → W'.heap[b]? = W.heap[b]?) : RefV rv zs W' := by
  obtain ⟨a, c, h1, h2⟩ := h
  refine ⟨a, c, h1, fun h => ?_⟩
  obtain ⟨b, h3, h4⟩ := h2 h
  exact ⟨b, h3, (hb b (Array.getElem?_eq_some_iff.1 h4).1).trans h4⟩

def ClI (zs : List Int) (w : World) (e : Ending) (w' : World) : Prop := ∃ rv, e = .returned rv ∧ RefV rv zs w' ∧ Below w.heap.size w w'

theorem cloneI_ref (a : Option Addr) (c : Nat) (zs : List Int) (w : World) (hn : zs.length ≤ 4096) (h : 0 < zs.length → ∃ x, a = some x ∧ ∀ j (h : j < zs.length), w.cell? (x.add j) = some (.int .i64 zs[j])) : Calls Try.prog 7 #[.slice a zs.length c] w (ClI zs w) := by
  cases a with
  | none =>
    have hl : zs = [] := by
      cases zs with
      | nil => rfl
      | cons b t => obtain ⟨_, h, _⟩ := h (by simp); cases h
    subst hl
    refine (cloneInts_nil 0 c w).mono ?_
    rintro e w' ⟨rfl, rfl⟩
    exact ⟨_, rfl, ⟨none, 0, rfl, fun h => by simp at h⟩, Below.refl _ _⟩
  | some x =>
    refine (cloneInts_some x c zs w hn (fun j hj => ?_)).mono ?_
    · obtain ⟨y, e, hb⟩ := h (by omega)
      cases e
      exact hb j hj
    · rintro e w' ⟨rfl, hb, hB⟩
      exact ⟨_, rfl, ⟨_, _, rfl, fun _ => ⟨_, rfl, hb⟩⟩, hB⟩

theorem ints_cells {W : World} {b : Nat} {zs : List Int} (h : W.heap[b]? = some (.cells (zs.map fun z => Value.int .i64 z).toArray 3 (0, 0))) (j : Nat) (hj : j < zs.length) : W.cell? ⟨b, j, none⟩ = some (.int .i64 zs[j]) := by
  rw [cell_block h]
  simp [hj]

/-- What the book is. -/
def BookEnd (pk : Value) (zs : List Int) (cnt : Int) (w : World) (e : Ending) (w' : World) : Prop := ∃ B, e = .returned (.pointer (some ⟨B, 0, none⟩)) ∧ IsBook w.heap.size w' B pk zs cnt ∧ Below w.heap.size w w'

theorem book_ref (pk rv : Value) (zs : List Int) (cnt : Int) (w : World) (hn : zs.length ≤ 4096) (hw : ∀ z ∈ zs, (Lit.int .i64 z).wf = true) (hpk : ∃ a n m, pk = .slice a n m) (h : RefV rv zs w) :
    Calls Try.prog 9 #[pk, rv, .int .i64 cnt] w (BookEnd pk zs cnt w) := by
  obtain ⟨a, c, rfl, h2⟩ := h
  cases zs with
  | nil => exact newBook_none pk a c cnt w hpk
  | cons z t =>
    obtain ⟨b, rfl, hb⟩ := h2 (by simp)
    exact newBook_some pk ⟨b, 0, none⟩ c (z :: t) cnt w hn hw hpk (fun j hj => by rw [add_at, Nat.zero_add]; exact ints_cells hb j hj)

theorem contains_ref (rv : Value) (zs : List Int) (v : Int) (w : World) (hn : zs.length ≤ 4096) (h : RefV rv zs w) :
    Calls Try.prog 10 #[rv, .int .i64 v] w fun e w' => e = .returned (.bool (hasI zs v)) ∧ w' = w := by
  obtain ⟨a, c, rfl, h2⟩ := h
  cases zs with
  | nil => exact contains_none a c v w
  | cons z t =>
    obtain ⟨b, rfl, hb⟩ := h2 (by simp)
    exact contains_some b 0 c (z :: t) v w hn (fun j hj => by rw [Nat.zero_add]; exact ints_cells hb j hj)

set_option maxHeartbeats 800000 in
theorem zzShared_any (B g bm : Nat) (a : Option Addr) (l : List UInt8) (cnt : Int) (M : Int → Option Value) (nm sz : Nat) (R : List Rc) (hn : l.length ≤ 4096) (hR : Chain l 0 R l.length) (hMv : ∀ z, M z = none ∨ ∃ x, M z = some (.iface 59 (.pointer (some x))))
    (w : World) (hF : Bk w B g bm a l cnt M nm sz) (hlg : g < w.heap.size) :
    Calls Try.prog 8 #[.pointer (some ⟨B, 0, none⟩)] w (fun e w' => SharedOf (l := l) w.heap.size M R w e w') := by
  have HMv : Hid (∀ z, M z = none ∨ ∃ x, M z = some (.iface 59 (.pointer (some x)))) := hMv
  clear hMv
  go_enter Try.func8, Try.ntmps8
  go_wp2_with (go_at_call 12; refine (shared_any B g bm a l cnt M nm sz R hn hR HMv.out _ hF hlg).mono ?_; rintro e w' ⟨ys, hy, Y, mb, rfl, hG, hB⟩)
  go_ret
  exact ⟨ys, hy, Y, mb, rfl, hG, hB⟩

/-- The book, and what it groups: both calls in one: the map 'got'. -/
def GotEnd (n₀ : Nat) (l : List UInt8) (R : List Rc) (zs : List Int) (w : World) (e : Ending) (w' : World) : Prop :=
  ∃ (M : Int → Option Value) (ys : List (It l)), RefM zs M ∧ ys.map Subtype.val = R ∧ SharedEnd n₀ (sel M ys) w e w'

theorem got_ref (B : Nat) (a : Option Addr) (l : List UInt8) (zs : List Int) (cnt : Int) (R : List Rc) (n₀ : Nat) (w : World) (hn : l.length ≤ 4096) (hR : Chain l 0 R l.length) (hB : IsBook n₀ w B (.slice a l.length l.length) zs cnt)
    (ha : 0 < l.length → ∃ g, a = some ⟨g, 0, none⟩ ∧ w.heap[g]? = some (.cells (l.map fun z => Value.int .u8 (z.toNat : Int)).toArray 5 (0, 0))) :
    Calls Try.prog 8 #[.pointer (some ⟨B, 0, none⟩)] w (GotEnd w.heap.size l R zs w) := by
  obtain ⟨bm, nm, M, sz, _, _, hstr, hraw, hM⟩ := hB
  have hlB : B < w.heap.size := (Array.getElem?_eq_some_iff.1 hstr).1
  have key : ∀ g, g < w.heap.size → (0 < l.length → a = some ⟨g, 0, none⟩ ∧ w.heap[g]? = some (.cells (l.map fun z => Value.int .u8 (z.toNat : Int)).toArray 5 (0, 0))) → Calls Try.prog 8 #[.pointer (some ⟨B, 0, none⟩)] w (GotEnd w.heap.size l R zs w) := fun g hg h => by
    refine (zzShared_any B g bm a l cnt M nm sz R hn hR (ref_forms hM) w ⟨hstr, fun hl => (h hl).2, hraw, fun hl => (h hl).1⟩ hg).mono ?_
    rintro e w' ⟨ys, hy, hS⟩
    exact ⟨M, ys, hM, hy, hS⟩
  by_cases hl : 0 < l.length
  · obtain ⟨g, h1, h2⟩ := ha hl
    exact key g (Array.getElem?_eq_some_iff.1 h2).1 (fun _ => ⟨h1, h2⟩)
  · exact key B hlB (fun h => absurd h hl)

end Go.Proofs.Qxb6609276a
