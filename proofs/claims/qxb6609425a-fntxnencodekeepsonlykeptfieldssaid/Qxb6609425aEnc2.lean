/-
  The encoder's methods.
-/
import Derived.Test.Qxb6609425aEnc1
import Derived.BigRegion
namespace Go.Proofs.Qxb6609425a
open Go.RowKit
set_option linter.unusedSimpArgs false
set_option linter.unusedVariables false
attribute [local go_sem] Oper.semAt_some
attribute [local go_sem ↓] Go.wp_at_zero Go.wp_at_succ

theorem Buf.slice {n₀ : Nat} {W : World} {v : Value} {xs : List Value} (h : Buf n₀ W v xs) : ∃ a c, v = .slice a xs.length c := by
  rcases h.2 with ⟨rfl, h0⟩ | ⟨g, cap, cur, rfl, _⟩
  · exact ⟨none, 0, by rw [h0]⟩
  · exact ⟨_, cap, rfl⟩

/-- All stays but the encoder's cell and its rows. -/
structure KeepE (n₀ E : Nat) (W W' : World) : Prop where
  os : W'.os = W.os
  tape : W'.tape = W.tape
  output : W'.output = W.output
  size : W.heap.size ≤ W'.heap.size
  block : ∀ b, b < W.heap.size → b ≠ E → (n₀ ≤ b → ∀ arr, W.heap[b]? ≠ some (.cells arr 5 (0, 0))) → W'.heap[b]? = W.heap[b]?

theorem KeepE.refl (n₀ E : Nat) (W : World) : KeepE n₀ E W W := ⟨rfl, rfl, rfl, Nat.le_refl _, fun _ _ _ _ => rfl⟩
theorem KeepE.trans {n₀ E : Nat} {A B C : World} (h : KeepE n₀ E A B) (k : KeepE n₀ E B C) : KeepE n₀ E A C :=
  ⟨k.os.trans h.os, k.tape.trans h.tape, k.output.trans h.output, Nat.le_trans h.size k.size, fun b hb he hn => by
    have e := h.block b hb he hn
    rw [k.block b (Nat.lt_of_lt_of_le hb h.size) he (fun h0 arr => by rw [e]; exact hn h0 arr), e]⟩
theorem Keep.toE {n₀ E : Nat} {W W' : World} (h : Keep n₀ W W') : KeepE n₀ E W W' := ⟨h.os, h.tape, h.output, h.size, fun b hb _ hn => h.block b hb hn⟩
theorem KeepE.alloc {n₀ E : Nat} {A B : World} (h : KeepE n₀ E A B) (o : Obj) : KeepE n₀ E A (B.alloc o) := h.trans (Keep.alloc n₀ B o).toE
theorem KeepE.drew {n₀ E : Nat} {A B : World} (h : KeepE n₀ E A B) : KeepE n₀ E A B.drew := ⟨h.os, h.tape, h.output, h.size, h.block⟩
theorem KeepE.set {n₀ E : Nat} {A B : World} (h : KeepE n₀ E A B) (v : Value) : KeepE n₀ E A (B.setCell ⟨E, 0, none⟩ v) :=
  h.trans ⟨rfl, rfl, rfl, by rw [Deep.nblk_setCell]; exact Nat.le_refl _, fun b _ hb _ => Deep.blk_setCell_other _ _ _ _ hb⟩
theorem KeepE.below {n₀ E : Nat} {A B : World} (h : KeepE n₀ E A B) (hn : n₀ ≤ A.heap.size) (hE : n₀ ≤ E) : Below n₀ A B :=
  ⟨h.os, h.tape, h.output, h.size, fun b hb => h.block b (by omega) (by omega) (fun h0 => by omega)⟩

def EncEnd (n₀ E : Nat) (xs ys : List Value) (w : World) (e : Ending) (w' : World) : Prop := e = .returned (.tuple #[]) ∧ Enc n₀ E w' (xs ++ ys) ∧ KeepE n₀ E w w'

theorem heap_cell {W : World} {b : Nat} {arr : Array Value} {t : TypeId} (h : W.heap[b]? = some (.cells arr t (0, 0))) (j : Nat) : W.cell? ⟨b, j, none⟩ = arr[j]? := by simp [World.cell?, h]
theorem heap_frozen {W : World} {b : Nat} {arr : Array Value} {t : TypeId} (h : W.heap[b]? = some (.cells arr t (0, 0))) (j : Nat) : W.frozen? ⟨b, j, none⟩ = false := by simp [World.frozen?, h]

theorem Enc.put {n₀ E : Nat} {W : World} {v v' : Value} {xs : List Value} (h0 : n₀ ≤ E) (hE : W.heap[E]? = some (.cells #[v] 56 (0, 0))) (hb : Buf n₀ W v' xs) : Enc n₀ E (W.setCell ⟨E, 0, none⟩ v') xs := by
  refine ⟨h0, v', ?_, ?_⟩
  · simp [World.setCell, Array.getElem?_modify, hE]
  · refine World.ownsRow.kept hb (row := some E) ⟨rfl, rfl, rfl, by rw [Deep.nblk_setCell]; exact Nat.le_refl _, fun b _ hb => Deep.blk_setCell_other _ _ _ _ (fun e => hb (by rw [e]))⟩ ?_
    rcases hb.2 with ⟨rfl, _⟩ | ⟨g, cap, cur, rfl, _, hc, _⟩
    · exact .inl rfl
    · right
      intro e
      have : g = E := by simpa [Value.ownBlock] using e
      subst this
      rw [hE] at hc
      cases hc

theorem Keep.enc {n₀ E : Nat} {W W' : World} {v : Value} (h : Keep n₀ W W') (hE : W.heap[E]? = some (.cells #[v] 56 (0, 0))) : W'.heap[E]? = some (.cells #[v] 56 (0, 0)) :=
  (h.block E (Array.getElem?_eq_some_iff.1 hE).1 (fun _ arr e => by rw [hE] at e; cases e)).trans hE

theorem u32_bound (x : Int) : 0 ≤ IntKind.u32.wrap x ∧ IntKind.u32.wrap x < 4294967296 := by
  simp [IntKind.wrap, IntKind.bits, IntKind.signed]; omega
theorem u64_bound (x : Int) : 0 ≤ IntKind.u64.wrap x ∧ IntKind.u64.wrap x < 18446744073709551616 := by
  simp [IntKind.wrap, IntKind.bits, IntKind.signed]; omega
def i32b (x : Int) : List Value := be32 (IntKind.u32.wrap x)
def i64b (x : Int) : List Value := be64 (IntKind.u64.wrap x)
theorem i32b_length (x : Int) : (i32b x).length = 4 := rfl
theorem i64b_length (x : Int) : (i64b x).length = 8 := rfl

set_option maxRecDepth 100000 in
set_option maxHeartbeats 800000 in
theorem int_any (n₀ E : Nat) (xs : List Value) (x : Int) (w : World) (hb : Enc n₀ E w xs) (hn : n₀ ≤ w.heap.size) (hl : xs.length ≤ 536870912) :
    Calls Try.prog 19 #[.pointer (some ⟨E, 0, none⟩), .int .i32 x] w (EncEnd n₀ E xs (i32b x) w) := by
  obtain ⟨hE0, v, hE, hbuf⟩ := hb
  obtain ⟨a, c, rfl⟩ := hbuf.slice
  have HB : Hid (Buf n₀ w (.slice a xs.length c) xs) := hbuf
  have HE : Hid (w.heap[E]? = some (.cells #[.slice a xs.length c] 56 (0, 0))) := hE
  have cE := heap_cell hE 0
  have fE := heap_frozen hE 0
  simp only [List.getElem?_toArray, List.getElem?_cons_zero] at cE
  clear hbuf hE
  go_enter Try.func19, Try.ntmps19
  go_wp2_with fail
  go_region_with (go_at_call 25; refine (appendU32_any n₀ _ xs _ _ ?_ ?_ ?_ ?_).mono ?_; (exact u32_bound x); (exact HB.out); (exact hn); (omega); rintro e w1 ⟨v', rfl, hb1, hk1⟩; have HB1 : Hid (Buf n₀ w1 v' (xs ++ i32b x)) := hb1; obtain ⟨a1, c1, rfl⟩ := hb1.slice; have hE1 := hk1.enc HE.out; have HE1 : Hid (w1.heap[E]? = some (.cells #[.slice a xs.length c] 56 (0, 0))) := hE1; have cE1 := heap_cell hE1 0; have fE1 := heap_frozen hE1 0; simp only [List.getElem?_toArray, List.getElem?_cons_zero] at cE1; clear hE1 hb1)
  all_goals
    go_end0
    exact ⟨rfl, Enc.put hE0 HE1.out (by simpa only [List.length_append] using HB1.out), (KeepE.trans (B := w.drew) (KeepE.refl _ _ _).drew hk1.toE).set _⟩

set_option maxRecDepth 100000 in
set_option maxHeartbeats 800000 in
theorem long_any (n₀ E : Nat) (xs : List Value) (x : Int) (w : World) (hb : Enc n₀ E w xs) (hn : n₀ ≤ w.heap.size) (hl : xs.length ≤ 536870912) :
    Calls Try.prog 17 #[.pointer (some ⟨E, 0, none⟩), .int .i64 x] w (EncEnd n₀ E xs (i64b x) w) := by
  obtain ⟨hE0, v, hE, hbuf⟩ := hb
  obtain ⟨a, c, rfl⟩ := hbuf.slice
  have HB : Hid (Buf n₀ w (.slice a xs.length c) xs) := hbuf
  have HE : Hid (w.heap[E]? = some (.cells #[.slice a xs.length c] 56 (0, 0))) := hE
  have cE := heap_cell hE 0
  have fE := heap_frozen hE 0
  simp only [List.getElem?_toArray, List.getElem?_cons_zero] at cE
  clear hbuf hE
  go_enter Try.func17, Try.ntmps17
  go_wp2_with fail
  go_region_with (go_at_call 21; refine (appendU64_any n₀ _ xs _ _ ?_ ?_ ?_ ?_).mono ?_; (exact u64_bound x); (exact HB.out); (exact hn); (omega); rintro e w1 ⟨v', rfl, hb1, hk1⟩; have HB1 : Hid (Buf n₀ w1 v' (xs ++ i64b x)) := hb1; obtain ⟨a1, c1, rfl⟩ := hb1.slice; have hE1 := hk1.enc HE.out; have HE1 : Hid (w1.heap[E]? = some (.cells #[.slice a xs.length c] 56 (0, 0))) := hE1; have cE1 := heap_cell hE1 0; have fE1 := heap_frozen hE1 0; simp only [List.getElem?_toArray, List.getElem?_cons_zero] at cE1; clear hE1 hb1)
  all_goals
    go_end0
    exact ⟨rfl, Enc.put hE0 HE1.out (by simpa only [List.length_append] using HB1.out), (KeepE.trans (B := w.drew) (KeepE.refl _ _ _).drew hk1.toE).set _⟩

set_option maxHeartbeats 800000 in
theorem zxid_any (n₀ E : Nat) (xs : List Value) (x : Int) (w : World) (hb : Enc n₀ E w xs) (hn : n₀ ≤ w.heap.size) (hl : xs.length ≤ 536870912) :
    Calls Try.prog 16 #[.pointer (some ⟨E, 0, none⟩), .int .u64 x] w (EncEnd n₀ E xs (i64b (wrap64 x)) w) := by
  have HB : Hid (Enc n₀ E w xs) := hb
  clear hb
  go_enter Try.func16, Try.ntmps16
  go_wp2_with fail
  refine (long_any n₀ E xs _ w HB.out hn hl).mono ?_
  rintro e w1 ⟨rfl, hb1, hk1⟩
  go_wp2_with fail
  go_end0
  exact ⟨rfl, hb1, hk1⟩

/-- A string as the encoder writes it. -/
def strb (s : ByteArray) : List Value := be32 s.size ++ strB s
theorem strb_length (s : ByteArray) : (strb s).length = 4 + s.size := by simp [strb, be32_length, strB_length]

set_option maxHeartbeats 800000 in
theorem string_any (n₀ E : Nat) (xs : List Value) (s : ByteArray) (w : World) (hs : s.size ≤ 1048576) (hb : Enc n₀ E w xs) (hn : n₀ ≤ w.heap.size) (hl : xs.length ≤ 536870912) :
    Calls Try.prog 22 #[.pointer (some ⟨E, 0, none⟩), .string s] w (EncEnd n₀ E xs (strb s) w) := by
  obtain ⟨hE0, v, hE, hbuf⟩ := hb
  obtain ⟨a, c, rfl⟩ := hbuf.slice
  have HB : Hid (Buf n₀ w (.slice a xs.length c) xs) := hbuf
  have HE : Hid (w.heap[E]? = some (.cells #[.slice a xs.length c] 56 (0, 0))) := hE
  have cE := heap_cell hE 0
  simp only [List.getElem?_toArray, List.getElem?_cons_zero] at cE
  clear hbuf hE
  go_enter Try.func22, Try.ntmps22
  go_wp2_with fail
  refine (appendString_any n₀ _ xs s _ hs HB.out hn hl).mono ?_
  rintro e w1 ⟨v', rfl, hb1, hk1⟩
  have HB1 : Hid (Buf n₀ w1 v' (xs ++ strb s)) := hb1
  obtain ⟨a1, c1, rfl⟩ := hb1.slice
  have hE1 := hk1.enc HE.out
  have HE1 : Hid (w1.heap[E]? = some (.cells #[.slice a xs.length c] 56 (0, 0))) := hE1
  have cE1 := heap_cell hE1 0
  have fE1 := heap_frozen hE1 0
  simp only [List.getElem?_toArray, List.getElem?_cons_zero] at cE1
  clear hE1 hb1
  obtain ⟨N, hN⟩ : ∃ N, N = (xs ++ (be32 (s.size : Int) ++ strB s)).length := ⟨_, rfl⟩
  have HN : Hid (N = (xs ++ strb s).length) := hN
  rw [← hN]
  clear hN
  go_wp2_with fail
  go_end0
  exact ⟨rfl, Enc.put hE0 HE1.out (by rw [HN.out]; exact HB1.out), hk1.toE.set _⟩

theorem buf_snoc {n₀ : Nat} {W : World} {v : Value} {xs : List Value} {x : Value} (h : W.ownsRow n₀ 5 1 v (xs.length + 1) (xs ++ [x])) : Buf n₀ W v (xs ++ [x]) := by
  unfold Buf
  rw [List.length_append, List.length_singleton]
  exact h

def boolb (b : Bool) : List Value := [.int .u8 (if b then 1 else 0)]

set_option maxHeartbeats 800000 in
theorem bool_any (n₀ E : Nat) (xs : List Value) (b : Bool) (w : World) (hb : Enc n₀ E w xs) (hn : n₀ ≤ w.heap.size) (hl : xs.length ≤ 536870912) :
    Calls Try.prog 20 #[.pointer (some ⟨E, 0, none⟩), .bool b] w (EncEnd n₀ E xs (boolb b) w) := by
  obtain ⟨i0, hi, hz0, hz1, hz2⟩ := info_parts Try.info5
  obtain ⟨hE0, v, hE, hbuf⟩ := hb
  obtain ⟨a, c, rfl⟩ := hbuf.slice
  have HB : Hid (w.ownsRow n₀ 5 1 (.slice a xs.length c) xs.length xs) := hbuf
  have HE : Hid (w.heap[E]? = some (.cells #[.slice a xs.length c] 56 (0, 0))) := hE
  have cE := heap_cell hE 0
  simp only [List.getElem?_toArray, List.getElem?_cons_zero] at cE
  have hlE : E < w.heap.size := (Array.getElem?_eq_some_iff.1 hE).1
  have HK : Hid (∀ o, Keep n₀ w (w.alloc o)) := fun o => Keep.alloc n₀ w o
  clear hbuf hE
  cases b with
  | false =>
    go_enter Try.func20, Try.ntmps20
    go_wp2_with (at_builtin; go_must (refine wpList_append_own _ rfl _ _ 23 rfl n₀ 5 i0 (.int .u8 0) 1 1 Try.underlying23 hi hz0 hz1 hz2 rfl (by decide) _ _ _ rfl (HB.out.alloc _) ⟨w.heap.size, 0, none⟩ 1 1 [.int .u8 0] rfl rfl (cell_one_new _ _ _) (by simp [Value.oneCell']) (by unfold maxLen; omega) (by omega) (by simp; omega) ?_; intro v' w1 hown' hgrow _; have hk1 := (HK.out _).trans (Keep.grown (HB.out.alloc _) hgrow); have HB1 : Hid (Buf n₀ w1 v' (xs ++ boolb false)) := (buf_snoc hown'); obtain ⟨a1, c1, rfl⟩ := HB1.out.slice; have hE1 := hk1.enc HE.out; have HE1 : Hid (w1.heap[E]? = some (.cells #[.slice a xs.length c] 56 (0, 0))) := hE1; have cE1 := heap_cell hE1 0; have fE1 := heap_frozen hE1 0; simp only [List.getElem?_toArray, List.getElem?_cons_zero] at cE1; clear hE1 hown'))
    go_end0
    exact ⟨rfl, Enc.put hE0 HE1.out (by simpa only [List.length_append] using HB1.out), hk1.toE.set _⟩
  | true =>
    go_enter Try.func20, Try.ntmps20
    go_wp2_with (at_builtin; go_must (refine wpList_append_own _ rfl _ _ 23 rfl n₀ 5 i0 (.int .u8 0) 1 1 Try.underlying23 hi hz0 hz1 hz2 rfl (by decide) _ _ _ rfl (HB.out.alloc _) ⟨w.heap.size, 0, none⟩ 1 1 [.int .u8 1] rfl rfl (cell_one_new _ _ _) (by simp [Value.oneCell']) (by unfold maxLen; omega) (by omega) (by simp; omega) ?_; intro v' w1 hown' hgrow _; have hk1 := (HK.out _).trans (Keep.grown (HB.out.alloc _) hgrow); have HB1 : Hid (Buf n₀ w1 v' (xs ++ boolb true)) := (buf_snoc hown'); obtain ⟨a1, c1, rfl⟩ := HB1.out.slice; have hE1 := hk1.enc HE.out; have HE1 : Hid (w1.heap[E]? = some (.cells #[.slice a xs.length c] 56 (0, 0))) := hE1; have cE1 := heap_cell hE1 0; have fE1 := heap_frozen hE1 0; simp only [List.getElem?_toArray, List.getElem?_cons_zero] at cE1; clear hE1 hown'))
    go_end0
    exact ⟨rfl, Enc.put hE0 HE1.out (by simpa only [List.length_append] using HB1.out), hk1.toE.set _⟩

end Go.Proofs.Qxb6609425a
