/-
  The encoder's leaf functions.
-/
import Derived.Test.Qxb6609425aRows
import Derived.WalkKit
import Derived.ProofKit
import Derived.Below
import Derived.OwnWalk
import Derived.Lib.AppendStr
import Derived.Deep.OwnRows
import Derived.Deep.DeepMust
import Derived.Deep.RegionHeld3
import Derived.Deep.DrawnRows
import Derived.Maps.AppendAt
import Derived.BigQuiet
namespace Go.Proofs.Qxb6609425a
open Go.RowKit
set_option linter.unusedSimpArgs false
set_option linter.unusedVariables false


theorem Try.info5 : (Try.prog.info? 5).map (fun i => (i.zero, i.size, i.bytes)) = some (some (.int .u8 0), 1, 1) := by kernel_rfl

theorem info_parts {P : Program} {t : TypeId} {z : Value} {s b : Nat} (h : (P.info? t).map (fun i => (i.zero, i.size, i.bytes)) = some (some z, s, b)) : ∃ i, P.info? t = some i ∧ i.zero = some z ∧ i.size = s ∧ i.bytes = b := by
  obtain ⟨i, hi, he⟩ := Option.map_eq_some_iff.1 h
  simp only [Prod.mk.injEq] at he
  exact ⟨i, hi, he.1, he.2.1, he.2.2⟩

/-- The call's own buffer: v, holding xs. -/
def Buf (n₀ : Nat) (W : World) (v : Value) (xs : List Value) : Prop := W.ownsRow n₀ 5 1 v xs.length xs

/-- What the world keeps while the buffer grows: all but the buffer's own rows. -/
structure Keep (n₀ : Nat) (W W' : World) : Prop where
  os : W'.os = W.os
  tape : W'.tape = W.tape
  output : W'.output = W.output
  size : W.heap.size ≤ W'.heap.size
  block : ∀ b, b < W.heap.size → (n₀ ≤ b → ∀ arr, W.heap[b]? ≠ some (.cells arr 5 (0, 0))) → W'.heap[b]? = W.heap[b]?

theorem Keep.refl (n₀ : Nat) (W : World) : Keep n₀ W W := ⟨rfl, rfl, rfl, Nat.le_refl _, fun _ _ _ => rfl⟩
theorem Keep.trans {n₀ : Nat} {A B C : World} (h : Keep n₀ A B) (k : Keep n₀ B C) : Keep n₀ A C :=
  ⟨k.os.trans h.os, k.tape.trans h.tape, k.output.trans h.output, Nat.le_trans h.size k.size, fun b hb hn => by
    have e := h.block b hb hn
    rw [k.block b (Nat.lt_of_lt_of_le hb h.size) (fun h0 arr => by rw [e]; exact hn h0 arr), e]⟩
theorem Keep.alloc (n₀ : Nat) (W : World) (o : Obj) : Keep n₀ W (W.alloc o) := ⟨rfl, rfl, rfl, by simp, fun b hb _ => (World.grownBy_alloc W o none).block b hb (by simp)⟩
theorem Keep.grown {n₀ : Nat} {W W' : World} {v : Value} {n : Nat} {xs : List Value} (h : W.ownsRow n₀ 5 1 v n xs) (hg : W.grownBy W' v.ownBlock) : Keep n₀ W W' := by
  refine ⟨hg.os, hg.tape, hg.output, hg.size, fun b hb hn => hg.block b hb (fun e => ?_)⟩
  rcases h.2 with ⟨rfl, _⟩ | ⟨g, cap, cur, rfl, hb', hc, _⟩
  · cases e
  · cases e
    exact hn hb' _ hc
theorem Keep.drew {n₀ : Nat} {A B : World} (h : Keep n₀ A B) : Keep n₀ A B.drew := ⟨h.os, h.tape, h.output, h.size, h.block⟩
theorem Keep.below {n₀ : Nat} {A B : World} (h : Keep n₀ A B) : Below n₀ A B ∨ A.heap.size < n₀ := by
  by_cases hs : n₀ ≤ A.heap.size
  · exact .inl ⟨h.os, h.tape, h.output, h.size, fun b hb => h.block b (by omega) (fun h0 => by omega)⟩
  · exact .inr (by omega)

/-- The bytes of a word, as encoding/binary lays them. -/
def be32 (x : Int) : List Value := [.int .u8 (x / 16777216), .int .u8 (x / 65536 % 256), .int .u8 (x / 256 % 256), .int .u8 (x % 256)]
def be64 (x : Int) : List Value := [.int .u8 (x / 72057594037927936), .int .u8 (x / 281474976710656 % 256), .int .u8 (x / 1099511627776 % 256), .int .u8 (x / 4294967296 % 256), .int .u8 (x / 16777216 % 256), .int .u8 (x / 65536 % 256), .int .u8 (x / 256 % 256), .int .u8 (x % 256)]
theorem be32_length (v : Int) : (be32 v).length = 4 := rfl
theorem be64_length (v : Int) : (be64 v).length = 8 := rfl
theorem be32_one (x : Int) : ∀ u ∈ be32 x, u.oneCell' = true := by simp [be32, Value.oneCell']
theorem be64_one (x : Int) : ∀ u ∈ be64 x, u.oneCell' = true := by simp [be64, Value.oneCell']

def ApEnd (n₀ : Nat) (xs ys : List Value) (w : World) (e : Ending) (w' : World) : Prop := ∃ v', e = .returned v' ∧ Buf n₀ w' v' (xs ++ ys) ∧ Keep n₀ w w'

theorem add_at (g o j : Nat) : (⟨g, o, none⟩ : Addr).add j = ⟨g, o + j, none⟩ := by unfold Addr.add; split <;> simp_all

theorem cells_new (w : World) (l : List Value) (t : TypeId) : ∀ j u, l[j]? = some u → (w.alloc (.cells l.toArray t)).cell? ((⟨w.heap.size, 0, none⟩ : Addr).add j) = some u := by
  intro j u h
  rw [add_at, Nat.zero_add]
  have := Deep.blk_alloc_new w (.cells l.toArray t)
  show (match (w.alloc (.cells l.toArray t)).heap[w.heap.size]? with | some (.cells c _ _) => if (none : Option Nat).isSome then none else c[j]? | _ => none) = some u
  rw [this]
  simpa using h

set_option maxHeartbeats 800000 in
theorem appendU32_any (n₀ : Nat) (v : Value) (xs : List Value) (x : Int) (w : World) (hx : 0 ≤ x ∧ x < 4294967296) (hb : Buf n₀ w v xs) (hn : n₀ ≤ w.heap.size) (hl : xs.length ≤ 1073741824) :
    Calls Try.prog 25 #[.agg #[], v, .int .u32 x] w (ApEnd n₀ xs (be32 x) w) := by
  obtain ⟨i0, hi, hz0, hz1, hz2⟩ := info_parts Try.info5
  have HB : Hid (w.ownsRow n₀ 5 1 v xs.length xs) := hb
  clear hb
  go_enter Try.func25, Try.ntmps25
  go_wp2_with (at_builtin; go_must (refine wpList_append_own _ rfl _ _ 23 rfl n₀ 5 i0 (.int .u8 0) 1 1 Try.underlying23 hi hz0 hz1 hz2 rfl (by decide) _ _ _ rfl ((HB.out.alloc _).alloc _) ⟨w.heap.size + 1, 0, none⟩ 4 4 (be32 x) rfl rfl (fun j u hj => by have := cells_new (w.alloc (.cells #[] 64)) (be32 x) 5 j u hj; rw [World.size_alloc] at this; exact this) (be32_one x) (by unfold maxLen; omega) (by omega) (by simp; omega) ?_; intro v' w1 hown' hgrow _))
  go_ret
  refine ⟨v', rfl, ?_, ((Keep.alloc n₀ w _).trans (Keep.alloc n₀ _ _)).trans (Keep.grown ((HB.out.alloc _).alloc _) hgrow)⟩
  unfold Buf
  rw [List.length_append, be32_length]
  exact hown'

set_option maxHeartbeats 800000 in
theorem appendU64_any (n₀ : Nat) (v : Value) (xs : List Value) (x : Int) (w : World) (hx : 0 ≤ x ∧ x < 18446744073709551616) (hb : Buf n₀ w v xs) (hn : n₀ ≤ w.heap.size) (hl : xs.length ≤ 1073741824) :
    Calls Try.prog 21 #[.agg #[], v, .int .u64 x] w (ApEnd n₀ xs (be64 x) w) := by
  obtain ⟨i0, hi, hz0, hz1, hz2⟩ := info_parts Try.info5
  have HB : Hid (w.ownsRow n₀ 5 1 v xs.length xs) := hb
  clear hb
  go_enter Try.func21, Try.ntmps21
  go_wp2_with (at_builtin; go_must (refine wpList_append_own _ rfl _ _ 23 rfl n₀ 5 i0 (.int .u8 0) 1 1 Try.underlying23 hi hz0 hz1 hz2 rfl (by decide) _ _ _ rfl ((HB.out.alloc _).alloc _) ⟨w.heap.size + 1, 0, none⟩ 8 8 (be64 x) rfl rfl (fun j u hj => by have := cells_new (w.alloc (.cells #[] 64)) (be64 x) 5 j u hj; rw [World.size_alloc] at this; exact this) (be64_one x) (by unfold maxLen; omega) (by omega) (by simp; omega) ?_; intro v' w1 hown' hgrow _))
  go_ret
  refine ⟨v', rfl, ?_, ((Keep.alloc n₀ w _).trans (Keep.alloc n₀ _ _)).trans (Keep.grown ((HB.out.alloc _).alloc _) hgrow)⟩
  unfold Buf
  rw [List.length_append, be64_length]
  exact hown'

def strB (s : ByteArray) : List Value := Lib.strCells s
theorem strB_length (s : ByteArray) : (strB s).length = s.size := by simp [strB, Lib.strCells]

set_option maxHeartbeats 800000 in
theorem appendString_any (n₀ : Nat) (v : Value) (xs : List Value) (s : ByteArray) (w : World) (hs : s.size ≤ 1048576) (hb : Buf n₀ w v xs) (hn : n₀ ≤ w.heap.size) (hl : xs.length ≤ 536870912) :
    Calls Try.prog 26 #[v, .string s] w (ApEnd n₀ xs (be32 s.size ++ strB s) w) := by
  obtain ⟨i0, hi, hz0, hz1, hz2⟩ := info_parts Try.info5
  have HB : Hid (Buf n₀ w v xs) := hb
  clear hb
  go_enter Try.func26, Try.ntmps26
  go_wp2_with fail
  refine (appendU32_any n₀ v xs s.size _ (by omega) HB.out hn (by omega)).mono ?_
  rintro e w1 ⟨v1, rfl, hb1, hk1⟩
  have HB1 : Hid (w1.ownsRow n₀ 5 1 v1 (xs.length + 4) (xs ++ be32 s.size)) := by have := hb1; unfold Buf at this; rw [List.length_append, be32_length] at this; exact this
  have hs1 := hk1.size
  clear hb1
  go_wp2_with (at_builtin; go_must (refine Lib.wpList_append_own_string _ rfl _ _ 23 9 rfl n₀ 5 i0 Try.underlying23 Try.underlying9 hi hz0 hz1 hz2 _ _ _ rfl HB1.out s rfl (by unfold maxLen; omega) (by omega) (by omega) ?_; intro v' w2 hown' hgrow _))
  go_ret
  refine ⟨v', rfl, ?_, hk1.trans (Keep.grown HB1.out hgrow)⟩
  unfold Buf
  rw [← List.append_assoc, List.length_append, List.length_append, be32_length, strB_length]
  exact hown'

/-- The encoder: one cell, the buffer. -/
def Enc (n₀ E : Nat) (W : World) (xs : List Value) : Prop := n₀ ≤ E ∧ ∃ v, W.heap[E]? = some (.cells #[v] 56 (0, 0)) ∧ Buf n₀ W v xs

end Go.Proofs.Qxb6609425a
