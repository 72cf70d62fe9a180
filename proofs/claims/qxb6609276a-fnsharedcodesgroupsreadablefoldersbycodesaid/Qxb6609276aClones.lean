/-
  The two clones.
-/
import Derived.Test.Qxb6609276aLeafs
import Derived.Deep.OwnRows
import Derived.Laws.CopyOwn
import Derived.Lib.SliceRun
namespace Go.Proofs.Qxb6609276a
open Go.RowKit Go.Deep
set_option linter.unusedSimpArgs false
set_option linter.unusedVariables false

theorem Try.info5 : (Try.prog.info? 5).map (fun i => (i.zero, i.size, i.bytes)) = some (some (.int .u8 0), 1, 1) := by kernel_rfl
theorem Try.size5 : (Try.prog.info? 5).map (·.size) = some 1 := by kernel_rfl

set_option maxHeartbeats 800000 in
theorem cloneBytes_nil (n c : Nat) (w : World) :
    Calls Try.prog 6 #[.slice none n c] w fun e w' => e = .returned (.slice none 0 0) ∧ w' = w := by
  have hnil := fun (a : Option Addr) (l c : Nat) (w : World) => Lib.run_eql_slice_nil (P := Try.prog) w 22 5 a l c 0 0 Try.underlying22
  go_enter Try.func6, Try.ntmps6
  go_wp2
  go_ret
  exact ⟨rfl, rfl⟩

set_option maxHeartbeats 800000 in
theorem cloneBytes_some (x : Addr) (c : Nat) (l : List UInt8) (w : World) (hn : l.length ≤ 4096) (hc : ∀ j (h : j < l.length), w.cell? (x.add j) = some (.int .u8 (l[j].toNat : Int))) :
    Calls Try.prog 6 #[.slice (some x) l.length c] w fun e w' => e = .returned (.slice (some ⟨w.heap.size, 0, none⟩) l.length l.length) ∧
      w'.heap[w.heap.size]? = some (.cells (l.map fun z => Value.int .u8 (z.toNat : Int)).toArray 5 (0, 0)) ∧ Below w.heap.size w w' := by
  have hnil := fun (a : Option Addr) (l c : Nat) (w : World) => Lib.run_eql_slice_nil (P := Try.prog) w 22 5 a l c 0 0 Try.underlying22
  have hmk := fun w => run_make_row' (P := Try.prog) 22 5 (.int .u8 0) 1 Try.underlying22 Try.info5 rfl .i64 .i64 l.length (by omega) (by omega) w
  obtain ⟨cs, hcs⟩ : ∃ cs, cs = l.map fun z => Value.int .u8 (z.toNat : Int) := ⟨_, rfl⟩
  have hlen : cs.length = l.length := by rw [hcs]; simp
  have hsrc : ∀ j v, cs[j]? = some v → w.cell? (x.add j) = some v := by
    intro j v hv
    rw [hcs, List.getElem?_map] at hv
    obtain ⟨z, hz, rfl⟩ := Option.map_eq_some_iff.1 hv
    obtain ⟨h, rfl⟩ := List.getElem?_eq_some_iff.1 hz
    exact hc j h
  have h1 : ∀ v ∈ cs, v.oneCell' = true := by
    intro v hv
    rw [hcs] at hv
    obtain ⟨z, _, rfl⟩ := List.mem_map.1 hv
    rfl
  have hmc : (madeCells #[Value.int .u8 0] l.length).size = l.length := by simp [madeCells]
  have hrow : (w.alloc (.cells (madeCells #[Value.int .u8 0] l.length) 5)).heap[w.heap.size]? = some (.cells (madeCells #[Value.int .u8 0] l.length) 5 (0, 0)) := heap_alloc_new w _
  have hspl : (madeCells #[Value.int .u8 0] l.length).toList.take 0 ++ cs ++ (madeCells #[Value.int .u8 0] l.length).toList.drop (0 + cs.length) = cs := by
    rw [List.drop_eq_nil_of_le (by rw [hlen]; simp [hmc])]
    simp
  obtain ⟨w2, hcp, hg2, hB2⟩ : ∃ w2, (Builtin.copy_ #[22, 22] 3 #[.slice (some ⟨w.heap.size, 0, none⟩) l.length l.length, .slice (some x) l.length c]).run Try.prog (w.alloc (.cells (madeCells #[Value.int .u8 0] l.length) 5)) = .ok (goInt l.length) w2 ∧
      Hid (w2.heap[w.heap.size]? = some (.cells cs.toArray 5 (0, 0))) ∧ Below w.heap.size w w2 := by
    have h := run_copy_row (P := Try.prog) (w.alloc (.cells (madeCells #[Value.int .u8 0] l.length) 5)) 22 22 3 5 w.heap.size 0 l.length l.length x l.length c _ 5 cs Try.underlying22 Try.size5 hrow (by rw [hlen]; simp)
      (fun j v hv => cell_later ((Below.refl _ w).alloc (Nat.le_refl _) _) (hsrc j v hv)) (by rw [hlen, hmc]; omega) h1
    rw [hspl, hlen] at h
    exact ⟨_, h, setRow_heap _ _ _ _ _ _ hrow, below_setRow ((Below.refl _ w).alloc (Nat.le_refl _) _) (Nat.le_refl _) _⟩
  have HC : Hid (cs = l.map fun z => Value.int .u8 (z.toNat : Int)) := hcs
  clear hcs hc hlen hmc hrow hspl hsrc h1
  go_enter Try.func6, Try.ntmps6
  go_wp2
  go_ret
  refine ⟨rfl, ?_, hB2⟩
  rw [hg2.out, HC.out]

theorem Try.info3 : (Try.prog.info? 3).map (fun i => (i.zero, i.size, i.bytes)) = some (some (.int .i64 0), 1, 8) := by kernel_rfl
theorem Try.size3 : (Try.prog.info? 3).map (·.size) = some 1 := by kernel_rfl

set_option maxHeartbeats 800000 in
theorem cloneInts_nil (n c : Nat) (w : World) :
    Calls Try.prog 7 #[.slice none n c] w fun e w' => e = .returned (.slice none 0 0) ∧ w' = w := by
  have hnil := fun (a : Option Addr) (l c : Nat) (w : World) => Lib.run_eql_slice_nil (P := Try.prog) w 23 3 a l c 0 0 Try.underlying23
  go_enter Try.func7, Try.ntmps7
  go_wp2
  go_ret
  exact ⟨rfl, rfl⟩

set_option maxHeartbeats 800000 in
theorem cloneInts_some (x : Addr) (c : Nat) (l : List Int) (w : World) (hn : l.length ≤ 4096) (hc : ∀ j (h : j < l.length), w.cell? (x.add j) = some (.int .i64 l[j])) :
    Calls Try.prog 7 #[.slice (some x) l.length c] w fun e w' => e = .returned (.slice (some ⟨w.heap.size, 0, none⟩) l.length l.length) ∧
      w'.heap[w.heap.size]? = some (.cells (l.map fun z => Value.int .i64 z).toArray 3 (0, 0)) ∧ Below w.heap.size w w' := by
  have hnil := fun (a : Option Addr) (l c : Nat) (w : World) => Lib.run_eql_slice_nil (P := Try.prog) w 23 3 a l c 0 0 Try.underlying23
  have hmk := fun w => run_make_row' (P := Try.prog) 23 3 (.int .i64 0) 8 Try.underlying23 Try.info3 rfl .i64 .i64 l.length (by omega) (by omega) w
  obtain ⟨cs, hcs⟩ : ∃ cs, cs = l.map fun z => Value.int .i64 z := ⟨_, rfl⟩
  have hlen : cs.length = l.length := by rw [hcs]; simp
  have hsrc : ∀ j v, cs[j]? = some v → w.cell? (x.add j) = some v := by
    intro j v hv
    rw [hcs, List.getElem?_map] at hv
    obtain ⟨z, hz, rfl⟩ := Option.map_eq_some_iff.1 hv
    obtain ⟨h, rfl⟩ := List.getElem?_eq_some_iff.1 hz
    exact hc j h
  have h1 : ∀ v ∈ cs, v.oneCell' = true := by
    intro v hv
    rw [hcs] at hv
    obtain ⟨z, _, rfl⟩ := List.mem_map.1 hv
    rfl
  have hmc : (madeCells #[Value.int .i64 0] l.length).size = l.length := by simp [madeCells]
  have hrow : (w.alloc (.cells (madeCells #[Value.int .i64 0] l.length) 3)).heap[w.heap.size]? = some (.cells (madeCells #[Value.int .i64 0] l.length) 3 (0, 0)) := heap_alloc_new w _
  have hspl : (madeCells #[Value.int .i64 0] l.length).toList.take 0 ++ cs ++ (madeCells #[Value.int .i64 0] l.length).toList.drop (0 + cs.length) = cs := by
    rw [List.drop_eq_nil_of_le (by rw [hlen]; simp [hmc])]
    simp
  obtain ⟨w2, hcp, hg2, hB2⟩ : ∃ w2, (Builtin.copy_ #[23, 23] 3 #[.slice (some ⟨w.heap.size, 0, none⟩) l.length l.length, .slice (some x) l.length c]).run Try.prog (w.alloc (.cells (madeCells #[Value.int .i64 0] l.length) 3)) = .ok (goInt l.length) w2 ∧
      Hid (w2.heap[w.heap.size]? = some (.cells cs.toArray 3 (0, 0))) ∧ Below w.heap.size w w2 := by
    have h := run_copy_row (P := Try.prog) (w.alloc (.cells (madeCells #[Value.int .i64 0] l.length) 3)) 23 23 3 3 w.heap.size 0 l.length l.length x l.length c _ 3 cs Try.underlying23 Try.size3 hrow (by rw [hlen]; simp)
      (fun j v hv => cell_later ((Below.refl _ w).alloc (Nat.le_refl _) _) (hsrc j v hv)) (by rw [hlen, hmc]; omega) h1
    rw [hspl, hlen] at h
    exact ⟨_, h, setRow_heap _ _ _ _ _ _ hrow, below_setRow ((Below.refl _ w).alloc (Nat.le_refl _) _) (Nat.le_refl _) _⟩
  have HC : Hid (cs = l.map fun z => Value.int .i64 z) := hcs
  clear hcs hc hlen hmc hrow hspl hsrc h1
  go_enter Try.func7, Try.ntmps7
  go_wp2
  go_ret
  refine ⟨rfl, ?_, hB2⟩
  rw [hg2.out, HC.out]

end Go.Proofs.Qxb6609276a
