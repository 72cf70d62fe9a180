/-
  fieldsSize; the plain tree of a TxnIn.
-/
import Derived.Test.Qxb6609425aEnc6
namespace Go.Proofs.Qxb6609425a
open Go.RowKit
set_option linter.unusedSimpArgs false
set_option linter.unusedVariables false

theorem fieldsb_length (f : Fd) : (fieldsb f).length = 36 + f.path.size + lenO f.data + lenO f.pw + (f.acl.flatMap aclb).length := by
  simp only [fieldsb, aclsb, List.length_append, i32b_length, i64b_length, strb_length, bufb_length]
  omega

theorem meas {K i : Nat} (h : i < K) : K - (intOf (Value.int .i64 ((i : Int) + 1))).toNat < K - (intOf (Value.int .i64 (i : Int))).toNat := by
  have hwr : (i : Int) + 1 = ((i + 1 : Nat) : Int) := rfl
  rw [hwr]
  simp only [intOf, Int.toNat_natCast]
  omega

theorem box_ex (w : World) (o : Obj) : ∃ V, w.alloc o = V ∧ V.heap[w.heap.size]? = some o ∧ Below w.heap.size w V ∧ w.heap.size < V.heap.size :=
  ⟨_, rfl, Deep.blk_alloc_new w o, (Below.refl _ _).alloc (Nat.le_refl _) _, by simp⟩

theorem int_eq {a b : Int} (h : a = b) : Value.int .i64 a = Value.int .i64 b := by rw [h]

theorem aclb_length (a : Acl) : (aclb a).length = 12 + a.s.size + a.i.size := by simp only [aclb, List.length_append, i32b_length, strb_length]; omega

theorem below_drewN {B : Nat} {a W : World} (h : Below B a W) (q : Nat) : Below B a (W.drewN q) := ⟨h.os, h.tape, h.output, h.size, h.block⟩

def SizeEnd (n : Nat) (w : World) (e : Ending) (w' : World) : Prop := e = .returned (.int .i64 (n : Int)) ∧ Below w.heap.size w w'

set_option maxRecDepth 100000 in
set_option maxHeartbeats 1600000 in
theorem fieldsSize_any (n₀ : Nat) (cs : List Value) (f : Fd) (w : World) (hf : Fl n₀ w cs f) (hs : Sm f) (hn : n₀ ≤ w.heap.size) (hl : (fieldsb f).length ≤ 268435456) :
    Calls Try.prog 8 #[.agg cs.toArray] w (SizeEnd (fieldsb f).length w) := by
  obtain ⟨vd, va, vp, vo, vk, ak, rfl, hvd, hva, hvp, ⟨ao, no, co, rfl⟩, ⟨ak', nk, ck, rfl⟩⟩ := hf
  obtain ⟨hs1, hs2, hs3, hs4⟩ := hs
  have hsl := hs4.1
  have HS4 : Hid (AclSm f.acl) := hs4
  obtain ⟨ad, cd, rfl⟩ := hvd.slice
  obtain ⟨aa, ca, rfl, hcells⟩ := hva
  have HC : Hid (0 < f.acl.length → ∃ g o, aa = some ⟨g, o, none⟩ ∧ g < n₀ ∧ ∀ j (h : j < f.acl.length), w.rangeAt g (o + j * 3) (aclCells f.acl[j])) := hcells
  obtain ⟨ap, cp, rfl⟩ := hvp.slice
  rw [fieldsb_length] at hl ⊢
  clear hvd hvp hs4 hcells
  simp only [cells14]
  go_enter Try.func8, Try.ntmps8
  go_wp2_with fail
  obtain ⟨V, hV, hX, hBV, hVs⟩ := box_ex w (.cells #[.int .u64 f.zx, .int .i64 f.tm, .int .i32 f.op, .string f.path, .slice ad (lenO f.data) cd, .slice aa f.acl.length ca, .int .i32 f.ver, .int .i64 f.ses, .int .i32 f.tmo, .slice ap (lenO f.pw) cp, .slice ao no co, .bool f.seq, .slice ak' nk ck, .int .i64 ak] 28)
  rw [hV]
  have cx : V.cell? ⟨w.heap.size, 5, none⟩ = some (.slice aa f.acl.length ca) := heap_cell hX 5
  clear hV hX
  go_loopw [3, 4] (fun vn vj wq => ∃ j q : Nat, vj = .int .i64 j ∧ vn = .int .i64 ((36 + f.path.size + lenO f.data + lenO f.pw + ((f.acl.take j).flatMap aclb).length : Nat) : Int) ∧ j ≤ f.acl.length ∧ wq = V.drewN q) (fun _ vj _ => f.acl.length - (intOf vj).toNat)
  case atStart => exact ⟨0, 0, rfl, int_eq (by simp), by omega, rfl⟩
  case round =>
    obtain ⟨j, q, rfl, rfl, hj, rfl⟩ := hrel
    have hle := aclb_le f.acl j
    by_cases hlt : j < f.acl.length
    · have hji : (j : Int) < (f.acl.length : Int) := by omega
      obtain ⟨g, o, rfl, hg, hrng⟩ := HC.out (by omega)
      have hr := hrng j hlt
      have d1 : V.cell? ⟨g, o + j * 3 + 1, none⟩ = some (.string f.acl[j].s) := (hBV.cell (p := ⟨g, o + j * 3 + 1, none⟩) (by show g < _; omega)).trans (hr 1 _ rfl)
      have d2 : V.cell? ⟨g, o + j * 3 + 2, none⟩ = some (.string f.acl[j].i) := (hBV.cell (p := ⟨g, o + j * 3 + 2, none⟩) (by show g < _; omega)).trans (hr 2 _ rfl)
      obtain ⟨hss, hsi⟩ := HS4.out.2 f.acl[j] (List.getElem_mem hlt)
      have hle2 := aclb_le f.acl (j + 1)
      rw [aclb_take hlt, List.length_append, aclb_length] at hle2
      have HT : Hid (((f.acl.take (j + 1)).flatMap aclb).length = ((f.acl.take j).flatMap aclb).length + (12 + f.acl[j].s.size + f.acl[j].i.size)) := by show _ = _; rw [aclb_take hlt, List.length_append, aclb_length]
      obtain ⟨al, hal⟩ : ∃ al, al = f.acl[j] := ⟨_, rfl⟩
      rw [← hal] at d1 d2 hss hsi hle2 HT
      clear hr hrng hal
      generalize ((f.acl.take j).flatMap aclb).length = S at *
      go_wp2_with fail
      go_quiet (fail)
      go_wp2_with fail
      refine ⟨⟨j + 1, _, rfl, int_eq ?_, by omega, rfl⟩, meas hlt⟩
      rw [HT.out]
      omega
    · obtain rfl : j = f.acl.length := by omega
      rw [List.take_length]
      go_wp2_with fail
      go_ret
      exact ⟨rfl, below_drewN hBV _⟩

end Go.Proofs.Qxb6609425a
