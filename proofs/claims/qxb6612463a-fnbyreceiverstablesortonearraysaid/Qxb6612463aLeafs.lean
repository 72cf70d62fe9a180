/-
  The small functions of the law's own package: zzBytes_.., stringBytes, cloneStrings; the closure.
-/
import Derived.Test.Qxb6612463aRows
import Derived.Test.Qxb6612463aIter
import Derived.Test.Qxb6612463aPlain
import Derived.WalkKit
import Derived.WalkSpells
import Derived.Deep.OwnRows
import Derived.Lib.SliceRun
namespace Go.Proofs.Qxb6612463a
open Go.RowKit Go.Deep
set_option linter.unusedSimpArgs false
set_option linter.unusedVariables false

/-- The strings l lie from a on. -/
def StrsAt (w : World) (a : Option Addr) (l : List Str) : Prop := 0 < l.length → ∃ g o, a = some ⟨g, o, none⟩ ∧ g < w.heap.size ∧ ∀ j (h : j < l.length), w.cell? ⟨g, o + j, none⟩ = some (encStr l[j])

theorem StrsAt.below {w w' : World} {n : Nat} {a : Option Addr} {l : List Str} (h : StrsAt w a l) (hb : Below n w w') (hn : w.heap.size ≤ n) : StrsAt w' a l := fun h0 => by
  obtain ⟨g, o, h1, h2, h3⟩ := h h0
  exact ⟨g, o, h1, by have := hb.size; omega, fun j hj => (hb.cell (p := ⟨g, o + j, none⟩) (by show g < n; omega)).trans (h3 j hj)⟩

def ZzEnd (l : List Str) (w : World) (e : Ending) (w' : World) : Prop := ∃ b, e = .returned (.bool b) ∧ w' = w ∧ (b = true → ∀ x ∈ l, x.length ≤ 1048576)
def SmTo (l : List Str) (j : Nat) : Prop := ∀ i (h : i < l.length), i < j → l[i].length ≤ 1048576

theorem SmTo.next {l : List Str} {j : Nat} (h : SmTo l j) (hj : j < l.length) (hx : l[j].length ≤ 1048576) : SmTo l (j + 1) := fun i hi hij => by
  by_cases e : i = j
  · subst e; exact hx
  · exact h i hi (by omega)
theorem SmTo.done {l : List Str} {j : Nat} (h : SmTo l j) (hj : l.length ≤ j) : ∀ x ∈ l, x.length ≤ 1048576 := fun x hx => by
  obtain ⟨i, hi, rfl⟩ := List.getElem_of_mem hx
  exact h i hi (by omega)

theorem encStr_eq (x : Str) : encStr x = .string ⟨x.toArray⟩ := rfl
theorem size_mk (x : Str) : (⟨x.toArray⟩ : ByteArray).size = x.length := rfl
theorem int_eq {a b : Int} (h : a = b) : Value.int .i64 a = .int .i64 b := by rw [h]
theorem meas {n j : Nat} (h : j < n) : n - (intOf (.int .i64 ((j : Int) + 1))).toNat < n - (intOf (.int .i64 (j : Int))).toNat := by
  simp only [intOf]
  omega

set_option maxHeartbeats 1600000 in
theorem zzBytes_any5 (a : Option Addr) (l : List Str) (c : Nat) (w : World) (hn : l.length ≤ maxLen) (hs : ∀ x ∈ l, x.length ≤ maxLen) (hc : StrsAt w a l) :
    Calls Try.prog 5 #[.slice a l.length c] w (ZzEnd l w) := by
  unfold maxLen at hn hs
  have HS : Hid (∀ x ∈ l, x.length ≤ 9223372036854775807) := hs
  have HC : Hid (StrsAt w a l) := hc
  clear hs hc
  go_enter Try.func5, Try.ntmps5
  by_cases h1 : l.length ≤ 1048576
  case neg =>
    go_wp2
    go_ret
    exact ⟨_, rfl, rfl, fun h => by cases h⟩
  go_wp2
  go_loopw [3, 4] (fun vn vi wq => ∃ (k j : Nat), vn = .int .i64 k ∧ vi = .int .i64 j ∧ k ≤ 1048576 ∧ j ≤ l.length ∧ SmTo l j ∧ wq = w) (fun _ vi _ => l.length - (intOf vi).toNat)
  case atStart => exact ⟨l.length, 0, rfl, rfl, h1, by omega, fun i h h' => by omega, rfl⟩
  case round =>
    obtain ⟨k, j, rfl, rfl, hk, hj, hsm, hwq⟩ := hrel
    subst hwq
    have HSM : Hid (SmTo l j) := hsm
    clear hsm
    by_cases hlt : j < l.length
    · obtain ⟨g, o, rfl, hg, hcell⟩ := HC.out (by omega)
      have hd := hcell j hlt
      have hx := HS.out _ (List.getElem_mem hlt)
      obtain ⟨x, hxe⟩ : ∃ x, x = l[j] := ⟨_, rfl⟩
      rw [← hxe, encStr_eq] at hd
      rw [← hxe] at hx
      clear hcell
      have hsz := size_mk x
      obtain ⟨s, hse⟩ : ∃ s, s = (⟨x.toArray⟩ : ByteArray) := ⟨_, rfl⟩
      rw [← hse] at hd hsz
      clear hse
      have hx2 : s.size ≤ 9223372036854775807 := by omega
      have HX : Hid (s.size = x.length) := hsz
      have HE : Hid (x = l[j]) := hxe
      clear hsz hx hxe
      by_cases h2 : s.size ≤ 1048576
      case neg =>
        go_wp2
        go_ret
        exact ⟨_, rfl, rfl, fun h => by cases h⟩
      by_cases h3 : k + s.size ≤ 1048576
      case neg =>
        go_wp2
        go_ret
        exact ⟨_, rfl, rfl, fun h => by cases h⟩
      go_wp2
      exact ⟨⟨k + s.size, j + 1, by simp, rfl, h3, by omega, HSM.out.next hlt (by rw [← HE.out, ← HX.out]; exact h2), trivial⟩, meas hlt⟩
    · go_wp2
      go_ret
      exact ⟨_, rfl, rfl, fun _ x hx => HSM.out.done (by omega) x hx⟩

set_option maxHeartbeats 1600000 in
theorem zzBytes_any9 (a : Option Addr) (l : List Str) (c : Nat) (w : World) (hn : l.length ≤ maxLen) (hs : ∀ x ∈ l, x.length ≤ maxLen) (hc : StrsAt w a l) :
    Calls Try.prog 9 #[.slice a l.length c] w (ZzEnd l w) := by
  unfold maxLen at hn hs
  have HS : Hid (∀ x ∈ l, x.length ≤ 9223372036854775807) := hs
  have HC : Hid (StrsAt w a l) := hc
  clear hs hc
  go_enter Try.func9, Try.ntmps9
  by_cases h1 : l.length ≤ 1048576
  case neg =>
    go_wp2
    go_ret
    exact ⟨_, rfl, rfl, fun h => by cases h⟩
  go_wp2
  go_loopw [3, 4] (fun vn vi wq => ∃ (k j : Nat), vn = .int .i64 k ∧ vi = .int .i64 j ∧ k ≤ 1048576 ∧ j ≤ l.length ∧ SmTo l j ∧ wq = w) (fun _ vi _ => l.length - (intOf vi).toNat)
  case atStart => exact ⟨l.length, 0, rfl, rfl, h1, by omega, fun i h h' => by omega, rfl⟩
  case round =>
    obtain ⟨k, j, rfl, rfl, hk, hj, hsm, hwq⟩ := hrel
    subst hwq
    have HSM : Hid (SmTo l j) := hsm
    clear hsm
    by_cases hlt : j < l.length
    · obtain ⟨g, o, rfl, hg, hcell⟩ := HC.out (by omega)
      have hd := hcell j hlt
      have hx := HS.out _ (List.getElem_mem hlt)
      obtain ⟨x, hxe⟩ : ∃ x, x = l[j] := ⟨_, rfl⟩
      rw [← hxe, encStr_eq] at hd
      rw [← hxe] at hx
      clear hcell
      have hsz := size_mk x
      obtain ⟨s, hse⟩ : ∃ s, s = (⟨x.toArray⟩ : ByteArray) := ⟨_, rfl⟩
      rw [← hse] at hd hsz
      clear hse
      have hx2 : s.size ≤ 9223372036854775807 := by omega
      have HX : Hid (s.size = x.length) := hsz
      have HE : Hid (x = l[j]) := hxe
      clear hsz hx hxe
      by_cases h2 : s.size ≤ 1048576
      case neg =>
        go_wp2
        go_ret
        exact ⟨_, rfl, rfl, fun h => by cases h⟩
      by_cases h3 : k + s.size ≤ 1048576
      case neg =>
        go_wp2
        go_ret
        exact ⟨_, rfl, rfl, fun h => by cases h⟩
      go_wp2
      exact ⟨⟨k + s.size, j + 1, by simp, rfl, h3, by omega, HSM.out.next hlt (by rw [← HE.out, ← HX.out]; exact h2), trivial⟩, meas hlt⟩
    · go_wp2
      go_ret
      exact ⟨_, rfl, rfl, fun _ x hx => HSM.out.done (by omega) x hx⟩

def SbEnd (w : World) (e : Ending) (w' : World) : Prop := ∃ z : Int, e = .returned (.int .i64 z) ∧ w' = w

set_option maxHeartbeats 1600000 in
theorem stringBytes_any (a : Option Addr) (l : List Str) (c : Nat) (w : World) (hn : l.length ≤ 65536) (hs : ∀ x ∈ l, x.length ≤ 1048576) (hc : StrsAt w a l) :
    Calls Try.prog 6 #[.slice a l.length c] w (SbEnd w) := by
  have HS : Hid (∀ x ∈ l, x.length ≤ 1048576) := hs
  have HC : Hid (StrsAt w a l) := hc
  clear hs hc
  go_enter Try.func6, Try.ntmps6
  go_wp2
  go_loopw [3, 4] (fun vn vi wq => ∃ (k j : Nat), vn = .int .i64 k ∧ vi = .int .i64 j ∧ k ≤ 1048576 ∧ j ≤ l.length ∧ wq = w) (fun _ vi _ => l.length - (intOf vi).toNat)
  case atStart => exact ⟨16 * l.length, 0, by simp, rfl, by omega, by omega, rfl⟩
  case round =>
    obtain ⟨k, j, rfl, rfl, hk, hj, hwq⟩ := hrel
    subst hwq
    by_cases hlt : j < l.length
    · obtain ⟨g, o, rfl, hg, hcell⟩ := HC.out (by omega)
      have hd := hcell j hlt
      have hx := HS.out _ (List.getElem_mem hlt)
      obtain ⟨x, hxe⟩ : ∃ x, x = l[j] := ⟨_, rfl⟩
      rw [← hxe, encStr_eq] at hd
      rw [← hxe, ← size_mk x] at hx
      obtain ⟨s, hse⟩ : ∃ s, s = (⟨x.toArray⟩ : ByteArray) := ⟨_, rfl⟩
      rw [← hse] at hd hx
      clear hxe hcell hse
      by_cases h3 : k + s.size ≤ 1048576
      case neg =>
        go_wp2
        go_ret
        exact ⟨_, rfl, rfl⟩
      go_wp2
      exact ⟨⟨k + s.size, j + 1, by simp, rfl, h3, by omega, trivial⟩, meas hlt⟩
    · go_wp2
      go_ret
      exact ⟨_, rfl, rfl⟩

theorem Try.info9 : (Try.prog.info? 9).map (fun i => (i.zero, i.size, i.bytes)) = some (some (.string ⟨#[]⟩), 1, 16) := by kernel_rfl
theorem Try.info3 : (Try.prog.info? 3).map (fun i => (i.zero, i.size, i.bytes)) = some (some (.int .i64 0), 1, 8) := by kernel_rfl

theorem grown_set {V W : World} {b : Nat} (h : V.grownBy W (some b)) (o : Nat) (v : Value) : V.grownBy (W.setCell ⟨b, o, none⟩ v) (some b) :=
  ⟨h.os, h.tape, h.output, by rw [Deep.nblk_setCell]; exact h.size, fun k hk hne => (Deep.blk_setCell_other _ _ _ _ (fun e => hne (by rw [e]))).trans (h.block k hk hne)⟩

/-- The first k strings of l lie in the row AB. -/
def Fill (V : World) (AB : Nat) (l : List Str) (k : Nat) (W : World) : Prop :=
  V.grownBy W (some AB) ∧ ∃ f, W.rowIs AB 9 l.length f ∧ ∀ j (h : j < l.length), j < k → f j = encStr l[j]

theorem Fill.next {V W : World} {AB k : Nat} {l : List Str} (h : Fill V AB l k W) (hk : k < l.length) : Fill V AB l (k + 1) (W.setCell ⟨AB, k, none⟩ (encStr l[k])) := by
  obtain ⟨h1, f, h2, h3⟩ := h
  refine ⟨grown_set h1 _ _, _, h2.set k _, fun j hj hjk => ?_⟩
  by_cases e : j = k
  · subst e; simp
  · simp [e]
    exact h3 j hj (by omega)

theorem Fill.up {V W : World} {AB k : Nat} {l : List Str} {s : ByteArray} (h : Fill V AB l k W) (hk : k < l.length) (hs : .string s = encStr l[k]) :
    (∃ j' : Nat, Value.int IntKind.i64 ((k : Int) + 1) = Value.int IntKind.i64 j' ∧ j' ≤ l.length ∧ Fill V AB l j' (W.setCell ⟨AB, k, none⟩ (.string s))) ∧
      l.length - (intOf (Value.int IntKind.i64 ((k : Int) + 1))).toNat < l.length - (intOf (Value.int IntKind.i64 (k : Int))).toNat := by
  rw [hs]
  exact ⟨⟨k + 1, rfl, by omega, h.next hk⟩, meas hk⟩

theorem Fill.at {V W : World} {AB : Nat} {l : List Str} (h : Fill V AB l l.length W) : StrsAt W (some ⟨AB, 0, none⟩) l := fun _ => by
  obtain ⟨_, f, h2, h3⟩ := h
  exact ⟨AB, 0, rfl, h2.lt, fun j hj => by rw [Nat.zero_add, h2.cell hj, h3 j hj hj]⟩

theorem box_ex (w : World) (o : Obj) : ∃ V, w.alloc o = V ∧ V.heap[w.heap.size]? = some o ∧ Below w.heap.size w V ∧ w.heap.size < V.heap.size :=
  ⟨_, rfl, Deep.blk_alloc_new w o, (Below.refl _ _).alloc (Nat.le_refl _) _, by simp⟩

def ClEnd (l : List Str) (w : World) (e : Ending) (w' : World) : Prop := ∃ a c, e = .returned (.slice a l.length c) ∧ StrsAt w' a l ∧ Below w.heap.size w w'

set_option maxHeartbeats 1600000 in
theorem cloneStrings_any (a : Option Addr) (l : List Str) (c : Nat) (w : World) (hn : l.length ≤ 65536) (hc : StrsAt w a l) :
    Calls Try.prog 7 #[.slice a l.length c] w (ClEnd l w) := by
  have hnil := fun (a : Option Addr) (l c : Nat) (w : World) => Lib.run_eql_slice_nil (P := Try.prog) w 22 9 a l c 0 0 Try.underlying22
  have HC : Hid (StrsAt w a l) := hc
  clear hc
  cases a with
  | none =>
    have hl : l.length = 0 := by
      rcases Nat.eq_zero_or_pos l.length with h | h
      · exact h
      · obtain ⟨g, o, e, _⟩ := HC.out h; cases e
    have HL : Hid (l.length = 0) := hl
    rw [hl]
    clear hl
    go_enter Try.func7, Try.ntmps7
    go_wp2
    go_ret
    exact ⟨none, 0, by rw [HL.out]; rfl, fun h => by have := HL.out; omega, Below.refl _ _⟩
  | some x =>
    have hmk := fun w => run_make_row' (P := Try.prog) 22 9 (.string ⟨#[]⟩) 16 Try.underlying22 Try.info9 rfl .i64 .i64 l.length (by omega) (by omega) w
    have hf0 := World.rowIs_made w (.string ⟨#[]⟩) l.length 9
    have HFB : Hid (∀ V, w.alloc (.cells (madeCells #[Value.string ⟨#[]⟩] l.length) 9) = V → Fill V w.heap.size l 0 V) := fun V hV => by
      subst hV
      exact ⟨World.grownBy.refl _ _, _, hf0, fun j _ h => by omega⟩
    clear hf0
    go_enter Try.func7, Try.ntmps7
    go_wp2
    obtain ⟨V, hV, _, hBV, hVs⟩ := box_ex w (.cells (madeCells #[Value.string ⟨#[]⟩] l.length) 9)
    have hfill := HFB.out V hV
    rw [hV]
    clear hV hmk HFB
    have HVL : Hid (Below w.heap.size w V) := hBV
    obtain ⟨AB, hAB⟩ : ∃ AB, AB = w.heap.size := ⟨_, rfl⟩
    have HAB : Hid (AB = w.heap.size) := hAB
    rw [← hAB] at hfill ⊢
    clear hAB
    go_loopw [4] (fun vj wq => ∃ j : Nat, vj = .int .i64 j ∧ j ≤ l.length ∧ Fill V AB l j wq) (fun vj _ => l.length - (intOf vj).toNat)
    case atStart => exact ⟨0, rfl, by omega, hfill⟩
    case round =>
      obtain ⟨j, rfl, hj, hfi⟩ := hrel
      have hab := HAB.out
      by_cases hlt : j < l.length
      · obtain ⟨g, o, hx, hg, hcell⟩ := HC.out (by omega)
        cases hx
        have hd : wr.cell? ⟨g, o + j, none⟩ = some (encStr l[j]) := hfi.1.cell ((hBV.cell (p := ⟨g, o + j, none⟩) hg).trans (hcell j hlt)) (by simp; omega)
        obtain ⟨s, hs⟩ : ∃ s, Value.string s = encStr l[j] := ⟨_, rfl⟩
        rw [← hs] at hd
        have HS : Hid (Value.string s = encStr l[j]) := hs
        obtain ⟨f, hrow, _⟩ := hfi.2
        have r0 := hrow.cell hlt
        have z0 := hrow.frozen j
        have HFI : Hid (Fill V AB l j wr) := hfi
        clear hs hfi hrow hcell hab hfill
        go_wp2
        all_goals exact HFI.out.up hlt HS.out
      · obtain rfl : j = l.length := by omega
        have HFIN : Hid (ClEnd l w (.returned (.slice (some ⟨AB, 0, none⟩) l.length l.length)) wr) := ⟨_, _, rfl, hfi.at, hBV.grown hfi.1 (by omega) (by intro k hk; cases hk; omega)⟩
        clear hfi hfill hab
        go_wp2
        go_ret
        exact HFIN.out

/-- The closure: record i's receiver. -/
def ReadEnd (v : Value) (w : World) (e : Ending) (w' : World) : Prop := e = .returned v ∧ w' = w

set_option maxHeartbeats 800000 in
theorem closure_any (B : Nat) (a : Option Addr) (l : List Str) (c i : Nat) (w : World) (hB : w.cell? ⟨B, 0, none⟩ = some (.slice a l.length c)) (hc : StrsAt w a l) (hn : l.length ≤ 65536) (hi : i < l.length) :
    Calls Try.prog 12 #[.int .i64 i, .pointer (some ⟨B, 0, none⟩)] w (ReadEnd (encStr l[i]) w) := by
  obtain ⟨g, o, rfl, hg, hcell⟩ := hc (by omega)
  have hd := hcell i hi
  have hii : (i : Int) < (l.length : Int) := by omega
  clear hcell hc
  obtain ⟨s, hs⟩ : ∃ s, Value.string s = encStr l[i] := ⟨_, rfl⟩
  rw [← hs] at hd ⊢
  clear hs
  go_enter Try.func12, Try.ntmps12
  go_wp2
  go_ret
  exact ⟨rfl, rfl⟩

end Go.Proofs.Qxb6612463a
