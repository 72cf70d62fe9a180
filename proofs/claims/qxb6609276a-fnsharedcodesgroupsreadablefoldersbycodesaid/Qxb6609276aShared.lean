/-
  (*bookFolders).sharedCodes.
-/
import Derived.Test.Qxb6609276aAll
import Derived.Test.Qxb6609276aShelf
import Derived.Maps.AppendAt
namespace Go.Proofs.Qxb6609276a
open Go.RowKit Go.Shelf
set_option linter.unusedSimpArgs false
set_option linter.unusedVariables false
attribute [local go_sem] Oper.semAt_some
attribute [local go_sem ↓] Go.wp_at_zero Go.wp_at_succ

/-- The folders' memory without the iterator's box. -/
structure Bk (W : World) (B g bm : Nat) (a : Option Addr) (l : List UInt8) (cnt : Int) (M : Int → Option Value) (nm sz : Nat) : Prop where
  str : W.heap[B]? = some (.cells #[.slice a l.length l.length, .map (some bm), .int .i64 cnt] 45 (0, 0))
  byt : 0 < l.length → W.heap[g]? = some (.cells (l.map fun b => Value.int .u8 (b.toNat : Int)).toArray 5 (0, 0))
  map : Raw litI W Try.prog 3 bm nm M sz
  adr : 0 < l.length → a = some ⟨g, 0, none⟩

set_option maxHeartbeats 800000 in
theorem all_any (p : Option Addr) (w : World) :
    Calls Try.prog 14 #[.pointer p] w fun e w' => e = .returned (.func (.func 23) #[] #[.pointer (some ⟨w.heap.size, 0, none⟩)]) ∧ w' = w.alloc (.cells #[.pointer p] 32) := by
  go_enter Try.func14, Try.ntmps14
  go_wp2
  go_ret
  exact ⟨rfl, rfl⟩

/-- A block of cells stays while other blocks turn. -/
theorem cells_own {β : Type} (b : Nat) (f : β → Obj) (hf : ∀ s, (f s).isCells = true) : Own (fun s W => W.heap[b]? = some (f s)) := fun s X Y row hs hg hrow => by
  refine (hg.block b (Array.getElem?_eq_some_iff.1 hs).1 (fun e' => ?_)).trans hs
  obtain ⟨o, ho, hc⟩ := hrow b e'.symm
  rw [hs] at ho
  cases ho
  rw [hf] at hc
  cases hc

/-- The records that could be read. -/
def sel {l : List UInt8} (M : Int → Option Value) (ys : List (It l)) : List (It l) := ys.filter fun x => (M x.1.off).isNone
def encI {l : List UInt8} (x : It l) : Value := .int .i64 (x.1.off : Int)

theorem sel_hit {l : List UInt8} {M : Int → Option Value} (pre : List (It l)) {x : It l} (h : M x.1.off = none) : sel M (pre ++ [x]) = sel M pre ++ [x] := by simp [sel, h]
theorem sel_miss {l : List UInt8} {M : Int → Option Value} (pre : List (It l)) {x : It l} {v : Value} (h : M x.1.off = some v) : sel M (pre ++ [x]) = sel M pre := by simp [sel, h]

theorem all_stops (n : Nat) (hn1 : 3 ≤ n) (Bn B g bm : Nat) (a : Option Addr) (l : List UInt8) (cnt : Int) (M : Int → Option Value) (nm sz : Nat) (R : List Rc) (hn : l.length ≤ 4096) (hR : Chain l 0 R l.length) (hMv : ∀ z, M z = none ∨ ∃ x, M z = some (.iface 59 (.pointer (some x))))
    (w : World) (hF : Fs w Bn B g bm a l cnt M nm sz) :
    SeqStopsK Fence.wide n Try.prog 23 #[.pointer (some ⟨Bn, 0, none⟩)] (fun x : It l => #[.int .i64 (x.1.off : Int), folder l M x.1]) (Same [Bn, B, g, bm]) (fun ys => ys.map Subtype.val = R) (fun pre => pre.map Subtype.val <+: R) R.length w :=
  fun y J Jx W hW hJ _ hY h0 => by
    refine all1_in n hn1 y Bn B g bm a l cnt M nm sz R hn hR hMv J Jx W hJ hY ?_ h0
    have sm : ∀ b, b < w.heap.size → W.heap[b]? = w.heap[b]? := fun b hb => hW.block b hb
    exact ⟨(sm _ (Array.getElem?_eq_some_iff.1 hF.box).1).trans hF.box, (sm _ (Array.getElem?_eq_some_iff.1 hF.str).1).trans hF.str, fun hl => (sm _ (Array.getElem?_eq_some_iff.1 (hF.byt hl)).1).trans (hF.byt hl), hF.map.of_block (sm _ hF.map.lt), hF.adr⟩

end Go.Proofs.Qxb6609276a
