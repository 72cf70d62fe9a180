/-
  errors.New, ZZNewBookFolders.
-/
import Derived.Test.Qxb6609276aClones
import Derived.Test.Qxb6609276aRaw
import Derived.Lib.SmallJoins
namespace Go.Proofs.Qxb6609276a
open Go.RowKit Go.Deep
set_option linter.unusedSimpArgs false
set_option linter.unusedVariables false

set_option maxHeartbeats 800000 in
theorem errorsNew_any (s : ByteArray) (w : World) :
    Calls Try.prog 13 #[.string s] w fun e w' => e = .returned (.iface 59 (.pointer (some ⟨w.heap.size, 0, none⟩))) ∧ w' = w.alloc (.cells #[.string s] 61) := by
  go_enter Try.func13, Try.ntmps13
  go_wp2
  go_ret
  exact ⟨rfl, rfl⟩

theorem keyI : Maps.Keyed Try.prog 3 := Maps.int_keyed Try.underlying3

/-- What the map of refusals holds, the offsets zs having been refused. -/
def RefM (zs : List Int) (M : Int → Option Value) : Prop := ∀ z, (z ∈ zs → ∃ a, M z = some (.iface 59 (.pointer (some a)))) ∧ (z ∉ zs → M z = none)

theorem RefM.snoc {zs : List Int} {M : Int → Option Value} (h : RefM zs M) (z : Int) (a : Addr) : RefM (zs ++ [z]) (put M z (.iface 59 (.pointer (some a)))) := by
  intro y
  by_cases e : y = z
  · subst e
    exact ⟨fun _ => ⟨a, by simp [put]⟩, fun hn => absurd (by simp) hn⟩
  · refine ⟨fun hy => ?_, fun hy => ?_⟩
    · have : y ∈ zs := by simpa [e] using hy
      simpa [put, e] using (h y).1 this
    · have : y ∉ zs := fun h' => hy (by simp [h'])
      simpa [put, e] using (h y).2 this

/-- What ZZNewBookFolders leaves: the struct in a new block, the map of refusals in another. -/
def IsBook (n₀ : Nat) (w : World) (B : Nat) (pk : Value) (zs : List Int) (cnt : Int) : Prop :=
  ∃ bm n M sz, n₀ ≤ bm ∧ n₀ ≤ B ∧ w.heap[B]? = some (.cells #[pk, .map (some bm), .int .i64 cnt] 45 (0, 0)) ∧ Raw litI w Try.prog 3 bm n M sz ∧ RefM zs M

set_option maxHeartbeats 1600000 in
theorem newBook_some (pk : Value) (x : Addr) (c : Nat) (zs : List Int) (cnt : Int) (w : World) (hn : zs.length ≤ 4096) (hw : ∀ z ∈ zs, (Lit.int .i64 z).wf = true)
    (hpk : ∃ a n m, pk = .slice a n m)
    (hc : ∀ j (h : j < zs.length), w.cell? (x.add j) = some (.int .i64 zs[j])) :
    Calls Try.prog 9 #[pk, .slice (some x) zs.length c, .int .i64 cnt] w fun e w' => ∃ B, e = .returned (.pointer (some ⟨B, 0, none⟩)) ∧ IsBook w.heap.size w' B pk zs cnt ∧ Below w.heap.size w w' := by
  obtain ⟨pa, pn, pm, rfl⟩ := hpk
  have hmm := @run_makeMap Try.prog
  go_enter Try.func9, Try.ntmps9
  go_wp2
  go_loopw [13] (fun i wr => ∃ (k : Nat) (M : Int → Option Value) (sz : Nat), k ≤ zs.length ∧ i = .int .i64 k ∧ Raw litI wr Try.prog 3 w.heap.size k M sz ∧ RefM (zs.take k) M ∧ Below w.heap.size w wr)
    (fun i _ => zs.length - (intOf i).toNat)
  case atStart => exact ⟨0, _, 0, Nat.zero_le _, rfl, Raw.made litI w Try.prog 3, fun z => ⟨fun h => by simp at h, fun _ => rfl⟩, (Below.refl _ _).alloc (Nat.le_refl _) _⟩
  case round =>
    obtain ⟨k, M, sz, hk, rfl, hraw, hM, hB⟩ := hrel
    by_cases hlt : k < zs.length
    · have hcell := cell_later hB (hc k hlt)
      obtain ⟨w1, hrun, hraw1, hg1⟩ := (hraw.kept (World.grownBy_alloc wr (.cells #[.string ⟨#[116, 101, 114, 109, 115, 32, 114, 101, 102, 117, 115, 101, 100]⟩] 61) none) (by simp)).update litI_inj keyI Try.underlying40 (by unfold maxLen; omega)
        (key := .int .i64 zs[k]) (.iface 59 (.pointer (some ⟨wr.heap.size, 0, none⟩))) (x := zs[k]) (Maps.keyOf_int_mk Try.underlying3 (hw _ (List.getElem_mem hlt)))
      have hB1 : Below w.heap.size w w1 := (hB.alloc hB.size _).grown hg1 (Nat.le_trans hB.size (by simp)) (fun j hj => by cases hj; exact Nat.le_refl _)
      have HM : Hid (RefM (zs.take (k + 1)) (put M zs[k] (.iface 59 (.pointer (some ⟨wr.heap.size, 0, none⟩))))) := by
        show RefM _ _
        rw [List.take_succ_eq_append_getElem hlt]
        exact hM.snoc _ _
      have HR : Hid (∃ sz', Raw litI w1 Try.prog 3 w.heap.size (k + 1) (put M zs[k] (.iface 59 (.pointer (some ⟨wr.heap.size, 0, none⟩)))) sz') := ⟨_, hraw1⟩
      clear hraw hraw1 hM hg1 hw hc
      go_wp2_with (go_at_call 13; refine (errorsNew_any _ _).mono ?_; rintro e w' ⟨rfl, rfl⟩)
      obtain ⟨sz', hR⟩ := HR.out
      go_roundw
      case rel => exact ⟨k + 1, _, sz', by omega, by go_num, hR, HM.out, hB1⟩
      case measure => simp [intOf]; omega
    · have hkk : k = zs.length := by omega
      subst hkk
      rw [List.take_length] at hM
      go_wp2
      go_ret
      refine ⟨wr.heap.size, rfl, ⟨w.heap.size, zs.length, M, sz, Nat.le_refl _, hB.size, heap_alloc_new wr _, hraw.kept (World.grownBy_alloc wr _ none) (by simp), hM⟩, hB.alloc hB.size _⟩

set_option maxHeartbeats 1600000 in
/-- The same at a slice of no element, a nil one too. -/
theorem newBook_none (pk : Value) (a : Option Addr) (c : Nat) (cnt : Int) (w : World) (hpk : ∃ a n m, pk = .slice a n m) :
    Calls Try.prog 9 #[pk, .slice a 0 c, .int .i64 cnt] w fun e w' => ∃ B, e = .returned (.pointer (some ⟨B, 0, none⟩)) ∧ IsBook w.heap.size w' B pk [] cnt ∧ Below w.heap.size w w' := by
  obtain ⟨pa, pn, pm, rfl⟩ := hpk
  have hmm := @run_makeMap Try.prog
  go_enter Try.func9, Try.ntmps9
  go_wp2
  refine wp_loop_rounds 1 ?_
  rw [rounds_succ]
  go_wp2
  go_ret
  exact ⟨w.heap.size + 1, rfl, ⟨w.heap.size, 0, fun _ => none, 0, Nat.le_refl _, Nat.le_succ _, by rw [show w.heap.size + 1 = (w.alloc (.map #[] 0)).heap.size by simp]; exact heap_alloc_new _ _, (Raw.made litI w Try.prog 3).kept (World.grownBy_alloc _ _ none) (by simp), fun z => ⟨fun h => by simp at h, fun _ => rfl⟩⟩, ((Below.refl _ _).alloc (Nat.le_refl _) _).alloc (by simp) _⟩

end Go.Proofs.Qxb6609276a
