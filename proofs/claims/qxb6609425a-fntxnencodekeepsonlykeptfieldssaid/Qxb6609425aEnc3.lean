/-
  The encoder's buffers and vectors.
-/
import Derived.Test.Qxb6609425aEnc2
import Derived.Deep.MidRow
import Derived.Lib.SliceRun
namespace Go.Proofs.Qxb6609425a
open Go.RowKit
set_option linter.unusedSimpArgs false
set_option linter.unusedVariables false

/-- A slice of bytes (nil, or l) that lies below n₀. -/
def ByteV (n₀ : Nat) (W : World) (v : Value) : Option (List Value) → Prop
  | none => v = .slice none 0 0
  | some l => ∃ x c, v = .slice (some x) l.length c ∧ (∀ u ∈ l, u.oneCell' = true) ∧ ∀ j u, l[j]? = some u → x.block < n₀ ∧ W.cell? (x.add j) = some u

theorem add_block (x : Addr) (j : Nat) : (x.add j).block = x.block := by unfold Addr.add; split <;> rfl

theorem ByteV.below {n₀ : Nat} {W W' : World} {v : Value} {o : Option (List Value)} (h : ByteV n₀ W v o) (hb : Below n₀ W W') : ByteV n₀ W' v o := by
  cases o with
  | none => exact h
  | some l =>
    obtain ⟨x, c, h1, h2, h3⟩ := h
    refine ⟨x, c, h1, h2, fun j u hu => ?_⟩
    obtain ⟨h4, h5⟩ := h3 j u hu
    exact ⟨h4, (hb.cell (by rw [add_block]; exact h4)).trans h5⟩

theorem Enc.alloc {n₀ E : Nat} {W : World} {xs : List Value} (h : Enc n₀ E W xs) (o : Obj) : Enc n₀ E (W.alloc o) xs := by
  obtain ⟨h0, v, h1, h2⟩ := h
  exact ⟨h0, v, ((World.grownBy_alloc W o none).block E (Array.getElem?_eq_some_iff.1 h1).1 (by simp)).trans h1, World.ownsRow.alloc h2 o⟩
theorem Enc.lt {n₀ E : Nat} {W : World} {xs : List Value} (h : Enc n₀ E W xs) : E < W.heap.size := by
  obtain ⟨h0, v, h1, h2⟩ := h
  exact (Array.getElem?_eq_some_iff.1 h1).1
theorem KeepE.blk {n₀ E b : Nat} {A B : World} {arr : Array Value} {t : TypeId} (h : KeepE n₀ E A B) (hb : A.heap[b]? = some (.cells arr t (0, 0))) (ht : t ≠ 5) (hE : b ≠ E) : B.heap[b]? = some (.cells arr t (0, 0)) :=
  (h.block b (Array.getElem?_eq_some_iff.1 hb).1 hE (fun _ arr' e => by rw [hb] at e; cases e; exact ht rfl)).trans hb

/-- A buffer ac the encoder writes it. -/
def bufb : Option (List Value) → List Value
  | none => i32b (-1)
  | some l => i32b l.length ++ l

def lenO : Option (List Value) → Nat
  | none => 0
  | some l => l.length
theorem bufb_length (o : Option (List Value)) : (bufb o).length = 4 + lenO o := by cases o <;> simp [bufb, i32b_length, lenO]

set_option maxHeartbeats 800000 in
theorem buffer_none (n₀ E : Nat) (xs : List Value) (w : World) (hb : Enc n₀ E w xs) (hn : n₀ ≤ w.heap.size) (hl : xs.length ≤ 536870912) :
    Calls Try.prog 23 #[.pointer (some ⟨E, 0, none⟩), .slice none 0 0] w (EncEnd n₀ E xs (i32b (-1)) w) := by
  have hnil := fun (a : Option Addr) (l c : Nat) (w : World) => Lib.run_eql_slice_nil (P := Try.prog) w 23 5 a l c 0 0 Try.underlying23
  have HB : Hid (Enc n₀ E w xs) := hb
  clear hb
  go_enter Try.func23, Try.ntmps23
  go_wp2_with fail
  refine (int_any n₀ E xs _ w HB.out hn hl).mono ?_
  rintro e w1 ⟨rfl, hb1, hk1⟩
  go_wp2_with fail
  go_end0
  exact ⟨rfl, hb1, hk1⟩

set_option maxHeartbeats 800000 in
theorem buffer_some (n₀ E : Nat) (xs l : List Value) (x : Addr) (c : Nat) (w : World) (h1 : ∀ u ∈ l, u.oneCell' = true) (h2 : ∀ j u, l[j]? = some u → x.block < n₀ ∧ w.cell? (x.add j) = some u) (hs : l.length ≤ 1048576) (hb : Enc n₀ E w xs) (hn : n₀ ≤ w.heap.size) (hl : xs.length ≤ 536870912) :
    Calls Try.prog 23 #[.pointer (some ⟨E, 0, none⟩), .slice (some x) l.length c] w (EncEnd n₀ E xs (i32b l.length ++ l) w) := by
  have hnil := fun (a : Option Addr) (l c : Nat) (w : World) => Lib.run_eql_slice_nil (P := Try.prog) w 23 5 a l c 0 0 Try.underlying23
  obtain ⟨i0, hi, hz0, hz1, hz2⟩ := info_parts Try.info5
  have HB : Hid (Enc n₀ E w xs) := hb
  have H1 : Hid (∀ u ∈ l, u.oneCell' = true) := h1
  have H2 : Hid (∀ j u, l[j]? = some u → x.block < n₀ ∧ w.cell? (x.add j) = some u) := h2
  have hE0 := hb.1
  clear hb h1 h2
  go_enter Try.func23, Try.ntmps23
  go_wp2_with fail
  refine (int_any n₀ E xs _ w HB.out hn hl).mono ?_
  rintro e w1 ⟨rfl, ⟨_, v, hE, hbuf⟩, hk1⟩
  obtain ⟨a, c', rfl⟩ := hbuf.slice
  have HB1 : Hid (w1.ownsRow n₀ 5 1 (.slice a (xs ++ i32b (l.length : Int)).length c') (xs.length + 4) (xs ++ i32b (l.length : Int))) := by have := hbuf; unfold Buf at this; rw [List.length_append, i32b_length] at this ⊢; exact this
  have HE : Hid (w1.heap[E]? = some (.cells #[.slice a (xs ++ i32b (l.length : Int)).length c'] 56 (0, 0))) := hE
  have cE := heap_cell hE 0
  simp only [List.getElem?_toArray, List.getElem?_cons_zero] at cE
  obtain ⟨N, hN⟩ : ∃ N, N = (xs ++ i32b (l.length : Int)).length := ⟨_, rfl⟩
  rw [← hN] at cE HE HB1
  have hs1 := hk1.size
  have HB2 : Hid (∀ j u, l[j]? = some u → w1.cell? (x.add j) = some u) := fun j u hu => by
    obtain ⟨h4, h5⟩ := H2.out j u hu
    exact ((hk1.below hn hE0).cell (by rw [add_block]; exact h4)).trans h5
  clear hbuf hE hN
  go_wp2_with (at_builtin; go_must (refine wpList_append_own _ rfl _ _ 23 rfl n₀ 5 i0 (.int .u8 0) 1 1 Try.underlying23 hi hz0 hz1 hz2 rfl (by decide) _ _ _ rfl HB1.out x l.length c l rfl (by omega) HB2.out H1.out (by unfold maxLen; omega) (by omega) (by omega) ?_; intro v' w2 hown' hgrow _; have hk2 := Keep.grown HB1.out hgrow; have HB3 : Hid (Buf n₀ w2 v' (xs ++ i32b (l.length : Int) ++ l)) := (by show Buf _ _ _ _; unfold Buf; rw [List.length_append, List.length_append, i32b_length]; exact hown'); obtain ⟨a1, c1, rfl⟩ := HB3.out.slice; have hE1 := hk2.enc HE.out; have HE1 : Hid (w2.heap[E]? = some (.cells #[.slice a N c'] 56 (0, 0))) := hE1; have cE1 := heap_cell hE1 0; have fE1 := heap_frozen hE1 0; simp only [List.getElem?_toArray, List.getElem?_cons_zero] at cE1; clear hE1 hown'; obtain ⟨N2, hN2⟩ : ∃ N2, N2 = (xs ++ i32b (l.length : Int) ++ l).length := ⟨_, rfl⟩; have HN2 : Hid (N2 = (xs ++ i32b (l.length : Int) ++ l).length) := hN2; rw [← hN2]; clear hN2))
  go_end0
  refine ⟨rfl, ?_, (hk1.trans hk2.toE).set _⟩
  rw [← List.append_assoc, HN2.out]
  exact Enc.put hE0 HE1.out HB3.out

theorem buffer_any (n₀ E : Nat) (xs : List Value) (v : Value) (o : Option (List Value)) (w : World) (hv : ByteV n₀ w v o) (hs : lenO o ≤ 1048576) (hb : Enc n₀ E w xs) (hn : n₀ ≤ w.heap.size) (hl : xs.length ≤ 536870912) :
    Calls Try.prog 23 #[.pointer (some ⟨E, 0, none⟩), v] w (EncEnd n₀ E xs (bufb o) w) := by
  cases o with
  | none => subst hv; exact buffer_none n₀ E xs w hb hn hl
  | some l =>
    obtain ⟨x, c, rfl, h2, h3⟩ := hv
    exact buffer_some n₀ E xs l x c w h2 h3 hs hb hn hl

/-- An entry of an access list. -/
structure Acl where
  p : Int
  s : ByteArray
  i : ByteArray

def aclCells (a : Acl) : List Value := [.int .i32 a.p, .string a.s, .string a.i]

/-- A slice of access entries that lies below n₀. -/
def AclV (n₀ : Nat) (W : World) (v : Value) (ac : List Acl) : Prop :=
  ∃ a c, v = .slice a ac.length c ∧ (0 < ac.length → ∃ g o, a = some ⟨g, o, none⟩ ∧ g < n₀ ∧ ∀ j (h : j < ac.length), W.rangeAt g (o + j * 3) (aclCells ac[j]))

theorem AclV.below {n₀ : Nat} {W W' : World} {v : Value} {ac : List Acl} (h : AclV n₀ W v ac) (hb : Below n₀ W W') : AclV n₀ W' v ac := by
  obtain ⟨a, c, h1, h2⟩ := h
  refine ⟨a, c, h1, fun h => ?_⟩
  obtain ⟨g, o, h3, h4, h5⟩ := h2 h
  exact ⟨g, o, h3, h4, fun j hj k u hu => (hb.cell (p := ⟨g, o + j * 3 + k, none⟩) h4).trans (h5 j hj k u hu)⟩

def aclb (a : Acl) : List Value := i32b a.p ++ strb a.s ++ strb a.i
def aclsb (ac : List Acl) : List Value := i32b ac.length ++ ac.flatMap aclb

def AclSm (ac : List Acl) : Prop := ac.length ≤ 1048576 ∧ ∀ a ∈ ac, a.s.size ≤ 1048576 ∧ a.i.size ≤ 1048576

theorem aclb_take {ac : List Acl} {j : Nat} (h : j < ac.length) : (ac.take (j + 1)).flatMap aclb = (ac.take j).flatMap aclb ++ aclb ac[j] := by
  rw [List.take_succ_eq_append_getElem h, List.flatMap_append]
  simp

theorem aclb_le (ac : List Acl) (j : Nat) : ((ac.take j).flatMap aclb).length ≤ (ac.flatMap aclb).length := by
  conv => rhs; rw [← List.take_append_drop j ac, List.flatMap_append, List.length_append]
  omega

set_option maxRecDepth 100000 in
set_option maxHeartbeats 1600000 in
theorem acls_any (n₀ E : Nat) (xs : List Value) (v : Value) (ac : List Acl) (w : World) (hv : AclV n₀ w v ac) (hs : AclSm ac) (hb : Enc n₀ E w xs) (hn : n₀ ≤ w.heap.size) (hl : xs.length + (aclsb ac).length ≤ 268435456) :
    Calls Try.prog 24 #[.pointer (some ⟨E, 0, none⟩), v] w (EncEnd n₀ E xs (aclsb ac) w) := by
  obtain ⟨a, c, rfl, hcells⟩ := hv
  have hE0 := hb.1
  have hsl := hs.1
  have HS : Hid (AclSm ac) := hs
  have HB : Hid (Enc n₀ E w xs) := hb
  have HC : Hid (0 < ac.length → ∃ g o, a = some ⟨g, o, none⟩ ∧ g < n₀ ∧ ∀ j (h : j < ac.length), w.rangeAt g (o + j * 3) (aclCells ac[j])) := hcells
  have HL : Hid (xs.length + (aclsb ac).length ≤ 268435456) := hl
  clear hb hcells hs hl
  go_enter Try.func24, Try.ntmps24
  go_wp2_with fail
  refine (int_any n₀ E xs _ w HB.out hn (by have := HL.out; omega)).mono ?_
  rintro e w1 ⟨rfl, hb1, hk1⟩
  go_wp2_with fail
  go_loopw [13] (fun vj wq => ∃ j : Nat, vj = .int .i64 j ∧ j ≤ ac.length ∧ Enc n₀ E wq (xs ++ (i32b ac.length ++ (ac.take j).flatMap aclb)) ∧ KeepE n₀ E w wq) (fun vj _ => ac.length - (intOf vj).toNat)
  case atStart => exact ⟨0, rfl, by omega, by simpa using hb1, hk1⟩
  case round =>
    obtain ⟨j, rfl, hj, hbj, hkj⟩ := hrel
    by_cases hlt : j < ac.length
    · have hji : (j : Int) < (ac.length : Int) := by omega
      obtain ⟨g, o, rfl, hg, hrng⟩ := HC.out (by omega)
      have hbel := hkj.below hn hE0
      have hr := hrng j hlt
      have c0 := (hbel.cell (p := ⟨g, o + j * 3 + 0, none⟩) hg).trans (hr 0 _ rfl)
      have c1 := (hbel.cell (p := ⟨g, o + j * 3 + 1, none⟩) hg).trans (hr 1 _ rfl)
      have c2 := (hbel.cell (p := ⟨g, o + j * 3 + 2, none⟩) hg).trans (hr 2 _ rfl)
      simp only [Nat.add_zero] at c0
      have HBJ : Hid (Enc n₀ E wr (xs ++ (i32b ac.length ++ (ac.take j).flatMap aclb))) := hbj
      have HKJ : Hid (KeepE n₀ E w wr) := hkj
      clear hr hrng hbel hbj hkj
      have hle := aclb_le ac (j + 1)
      rw [aclb_take hlt, List.length_append] at hle
      have hlen : xs.length + (4 + ((ac.take j).flatMap aclb).length) + (aclb ac[j]).length ≤ 268435456 := by
        have := HL.out
        simp only [aclsb, List.length_append, i32b_length] at this
        omega
      have hal : (aclb ac[j]).length = 4 + (4 + ac[j].s.size) + (4 + ac[j].i.size) := by simp [aclb, i32b_length, strb_length]; omega
      obtain ⟨hss, hsi⟩ := HS.out.2 ac[j] (List.getElem_mem hlt)
      have hn1 : n₀ ≤ wr.heap.size := by have := HKJ.out.size; omega
      have hEl := Enc.lt HBJ.out
      obtain ⟨al, hal2⟩ : ∃ al, al = ac[j] := ⟨_, rfl⟩
      have HA2 : Hid (al = ac[j]) := hal2
      rw [← hal2] at c0 c1 c2 hss hsi hal hlen
      clear hal2 hle
      obtain ⟨ys, hys⟩ : ∃ ys, ys = xs ++ (i32b ac.length ++ (ac.take j).flatMap aclb) := ⟨_, rfl⟩
      have HYS : Hid (ys = xs ++ (i32b ac.length ++ (ac.take j).flatMap aclb)) := hys
      have hyl : ys.length = xs.length + (4 + ((ac.take j).flatMap aclb).length) := by rw [hys]; simp [i32b_length]
      rw [← hys] at HBJ
      clear hys
      go_wp2_with fail
      refine (int_any n₀ E ys _ _ (Enc.alloc HBJ.out _) (by simp; omega) (by omega)).mono ?_
      rintro e w2 ⟨rfl, hb2, hk2⟩
      have hX2 := hk2.blk (b := wr.heap.size) (Deep.blk_alloc_new wr _) (by decide) (by omega)
      have hs2 := hk2.size
      simp only [World.size_alloc] at hs2
      have x1 := heap_cell hX2 1
      have x2 := heap_cell hX2 2
      simp only [List.getElem?_toArray, List.getElem?_cons_succ, List.getElem?_cons_zero] at x1 x2
      have HX2 : Hid (w2.heap[wr.heap.size]? = some (.cells #[.int .i32 al.p, .string al.s, .string al.i] 53 (0, 0))) := hX2
      clear hX2
      go_wp2_with fail
      refine (string_any n₀ E _ _ _ hss hb2 (by omega) (by simp [i32b_length]; omega)).mono ?_
      rintro e w3 ⟨rfl, hb3, hk3⟩
      have hX3 := hk3.blk HX2.out (by decide) (by omega)
      have hs3 := hk3.size
      have y2 := heap_cell hX3 2
      simp only [List.getElem?_toArray, List.getElem?_cons_succ, List.getElem?_cons_zero] at y2
      clear hX3
      go_wp2_with fail
      refine (string_any n₀ E _ _ _ hsi hb3 (by omega) (by simp [i32b_length, strb_length]; omega)).mono ?_
      rintro e w4 ⟨rfl, hb4, hk4⟩
      have HB4 : Hid (Enc n₀ E w4 (ys ++ i32b al.p ++ strb al.s ++ strb al.i)) := hb4
      have HK4 : Hid (KeepE n₀ E w w4) := ((HKJ.out.alloc _).trans hk2).trans (hk3.trans hk4)
      clear hb2 hb3 hb4 hk2 hk3 hk4
      go_wp2_with fail
      refine ⟨⟨j + 1, rfl, by omega, ?_, HK4.out⟩, ?_⟩
      · have := HB4.out
        rw [HYS.out, HA2.out] at this
        rw [aclb_take hlt, aclb]
        simpa [List.append_assoc] using this
      · have hwr : (j : Int) + 1 = ((j + 1 : Nat) : Int) := rfl
        rw [hwr]
        simp only [intOf, Int.toNat_natCast]
        omega
    · obtain rfl : j = ac.length := by omega
      go_wp2_with fail
      go_end0
      exact ⟨rfl, by simpa [aclsb] using hbj, hkj⟩

end Go.Proofs.Qxb6609425a
