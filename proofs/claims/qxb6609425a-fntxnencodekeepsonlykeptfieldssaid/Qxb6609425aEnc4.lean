/-
  (Txn).encodeFields, (Txn).encode, encodeTxn.
-/
import Derived.Test.Qxb6609425aEnc3
namespace Go.Proofs.Qxb6609425a
open Go.RowKit
set_option linter.unusedSimpArgs false
set_option linter.unusedVariables false

/-- The plain fields of a change. -/
structure Fd where
  zx : Int
  tm : Int
  op : Int
  path : ByteArray
  data : Option (List Value)
  acl : List Acl
  ver : Int
  ses : Int
  tmo : Int
  pw : Option (List Value)
  seq : Bool

theorem ByteV.slice {n₀ : Nat} {W : World} {v : Value} {o : Option (List Value)} (h : ByteV n₀ W v o) : ∃ a c, v = .slice a (lenO o) c := by
  cases o with
  | none => exact ⟨_, _, h⟩
  | some l => obtain ⟨x, c, h1, _⟩ := h; exact ⟨_, _, h1⟩
theorem AclV.slice {n₀ : Nat} {W : World} {v : Value} {ac : List Acl} (h : AclV n₀ W v ac) : ∃ a c, v = .slice a ac.length c := by
  obtain ⟨a, c, h1, _⟩ := h; exact ⟨_, _, h1⟩

/-- The fourteen cells of a change. -/
def cells14 (f : Fd) (vd va vp vo vk : Value) (ak : Int) : List Value :=
  [.int .u64 f.zx, .int .i64 f.tm, .int .i32 f.op, .string f.path, vd, va, .int .i32 f.ver, .int .i64 f.ses, .int .i32 f.tmo, vp, vo, .bool f.seq, vk, .int .i64 ak]

def IsSl (v : Value) : Prop := ∃ a n c, v = .slice a n c

/-- The cells cs stand for the fields f, what they lead to lying below n₀. -/
def Fl (n₀ : Nat) (W : World) (cs : List Value) (f : Fd) : Prop :=
  ∃ vd va vp vo vk ak, cs = cells14 f vd va vp vo vk ak ∧ ByteV n₀ W vd f.data ∧ AclV n₀ W va f.acl ∧ ByteV n₀ W vp f.pw ∧ IsSl vo ∧ IsSl vk

theorem Fl.below {n₀ : Nat} {W W' : World} {cs : List Value} {f : Fd} (h : Fl n₀ W cs f) (hb : Below n₀ W W') : Fl n₀ W' cs f := by
  obtain ⟨vd, va, vp, vo, vk, ak, h1, h2, h3, h4, h5⟩ := h
  exact ⟨vd, va, vp, vo, vk, ak, h1, h2.below hb, h3.below hb, h4.below hb, h5⟩

/-- None of it is long. -/
def Sm (f : Fd) : Prop := f.path.size ≤ 1048576 ∧ lenO f.data ≤ 1048576 ∧ lenO f.pw ≤ 1048576 ∧ AclSm f.acl

def fieldsb (f : Fd) : List Value := i32b f.op ++ (strb f.path ++ (bufb f.data ++ (aclsb f.acl ++ (i32b f.ver ++ (i64b f.ses ++ (i32b f.tmo ++ bufb f.pw))))))

set_option maxRecDepth 100000 in
set_option maxHeartbeats 1600000 in
theorem fields_any (n₀ E : Nat) (xs : List Value) (cs : List Value) (f : Fd) (w : World) (hf : Fl n₀ w cs f) (hs : Sm f) (hb : Enc n₀ E w xs) (hn : n₀ ≤ w.heap.size) (hl : xs.length + (fieldsb f).length ≤ 268435456) :
    Calls Try.prog 18 #[.agg cs.toArray, .pointer (some ⟨E, 0, none⟩)] w (EncEnd n₀ E xs (fieldsb f) w) := by
  obtain ⟨vd, va, vp, vo, vk, ak, rfl, hvd, hva, hvp, ⟨ao, no, co, rfl⟩, ⟨ak', nk, ck, rfl⟩⟩ := hf
  obtain ⟨hs1, hs2, hs3, hs4⟩ := hs
  have hE0 := hb.1
  have HEl : Hid (E < w.heap.size) := Enc.lt hb
  have HB : Hid (Enc n₀ E w xs) := hb
  have HD : Hid (ByteV n₀ w vd f.data) := hvd
  have HA : Hid (AclV n₀ w va f.acl) := hva
  have HP : Hid (ByteV n₀ w vp f.pw) := hvp
  have H4 : Hid (AclSm f.acl) := hs4
  obtain ⟨ad, cd, rfl⟩ := hvd.slice
  obtain ⟨aa, ca, rfl⟩ := hva.slice
  obtain ⟨ap, cp, rfl⟩ := hvp.slice
  have hlen : xs.length + (4 + ((4 + f.path.size) + ((4 + lenO f.data) + ((aclsb f.acl).length + (4 + (8 + (4 + (4 + lenO f.pw)))))))) ≤ 268435456 := by
    simpa [fieldsb, i32b_length, i64b_length, strb_length, bufb_length] using hl
  clear hb hvd hva hvp hs4 hl
  simp only [cells14]
  go_enter Try.func18, Try.ntmps18
  go_wp2_with fail
  have hX0 := Deep.blk_alloc_new w (.cells #[.int .u64 f.zx, .int .i64 f.tm, .int .i32 f.op, .string f.path, .slice ad (lenO f.data) cd, .slice aa f.acl.length ca, .int .i32 f.ver, .int .i64 f.ses, .int .i32 f.tmo, .slice ap (lenO f.pw) cp, .slice ao no co, .bool f.seq, .slice ak' nk ck, .int .i64 ak] 37)
  have hlE := HEl.out
  refine (int_any n₀ E _ _ _ (Enc.alloc HB.out _) (by simp; omega) (by omega)).mono ?_
  rintro e w1 ⟨rfl, hb1, hk1⟩
  have hX1 := hk1.blk hX0 (by decide) (by omega)
  have hK1 : KeepE n₀ E w w1 := ((KeepE.refl n₀ E w).alloc _).trans hk1
  have hz1 := hK1.size
  have cx1 : w1.cell? ⟨w.heap.size, 3, none⟩ = some (.string f.path) := heap_cell hX1 3
  go_wp2_with fail
  refine (string_any n₀ E _ _ _ hs1 hb1 (by omega) (by simp only [List.length_append, i32b_length, i64b_length, strb_length, bufb_length]; omega)).mono ?_
  rintro e w2 ⟨rfl, hb2, hk2⟩
  have hX2 := hk2.blk hX1 (by decide) (by omega)
  have hK2 := hK1.trans hk2
  have hz2 := hK2.size
  have cx2 : w2.cell? ⟨w.heap.size, 4, none⟩ = some (.slice ad (lenO f.data) cd) := heap_cell hX2 4
  go_wp2_with fail
  refine (buffer_any n₀ E _ _ f.data _ (ByteV.below HD.out (hK2.below hn hE0)) hs2 hb2 (by omega) (by simp only [List.length_append, i32b_length, i64b_length, strb_length, bufb_length]; omega)).mono ?_
  rintro e w3 ⟨rfl, hb3, hk3⟩
  have hX3 := hk3.blk hX2 (by decide) (by omega)
  have hK3 := hK2.trans hk3
  have hz3 := hK3.size
  have cx3 : w3.cell? ⟨w.heap.size, 5, none⟩ = some (.slice aa f.acl.length ca) := heap_cell hX3 5
  go_wp2_with fail
  refine (acls_any n₀ E _ _ f.acl _ (AclV.below HA.out (hK3.below hn hE0)) H4.out hb3 (by omega) (by simp only [List.length_append, i32b_length, i64b_length, strb_length, bufb_length]; omega)).mono ?_
  rintro e w4 ⟨rfl, hb4, hk4⟩
  have hX4 := hk4.blk hX3 (by decide) (by omega)
  have hK4 := hK3.trans hk4
  have hz4 := hK4.size
  have cx4 : w4.cell? ⟨w.heap.size, 6, none⟩ = some (.int .i32 f.ver) := heap_cell hX4 6
  go_wp2_with fail
  refine (int_any n₀ E _ _ _ hb4 (by omega) (by simp only [List.length_append, i32b_length, i64b_length, strb_length, bufb_length]; omega)).mono ?_
  rintro e w5 ⟨rfl, hb5, hk5⟩
  have hX5 := hk5.blk hX4 (by decide) (by omega)
  have hK5 := hK4.trans hk5
  have hz5 := hK5.size
  have cx5 : w5.cell? ⟨w.heap.size, 7, none⟩ = some (.int .i64 f.ses) := heap_cell hX5 7
  go_wp2_with fail
  refine (long_any n₀ E _ _ _ hb5 (by omega) (by simp only [List.length_append, i32b_length, i64b_length, strb_length, bufb_length]; omega)).mono ?_
  rintro e w6 ⟨rfl, hb6, hk6⟩
  have hX6 := hk6.blk hX5 (by decide) (by omega)
  have hK6 := hK5.trans hk6
  have hz6 := hK6.size
  have cx6 : w6.cell? ⟨w.heap.size, 8, none⟩ = some (.int .i32 f.tmo) := heap_cell hX6 8
  go_wp2_with fail
  refine (int_any n₀ E _ _ _ hb6 (by omega) (by simp only [List.length_append, i32b_length, i64b_length, strb_length, bufb_length]; omega)).mono ?_
  rintro e w7 ⟨rfl, hb7, hk7⟩
  have hX7 := hk7.blk hX6 (by decide) (by omega)
  have hK7 := hK6.trans hk7
  have hz7 := hK7.size
  have cx7 : w7.cell? ⟨w.heap.size, 9, none⟩ = some (.slice ap (lenO f.pw) cp) := heap_cell hX7 9
  go_wp2_with fail
  refine (buffer_any n₀ E _ _ f.pw _ (ByteV.below HP.out (hK7.below hn hE0)) hs3 hb7 (by omega) (by simp only [List.length_append, i32b_length, i64b_length, strb_length, bufb_length]; omega)).mono ?_
  rintro e w8 ⟨rfl, hb8, hk8⟩
  have hX8 := hk8.blk hX7 (by decide) (by omega)
  have hK8 := hK7.trans hk8
  have hz8 := hK8.size
  go_wp2_with fail
  go_end0
  exact ⟨rfl, by simpa only [fieldsb, List.append_assoc] using hb8, hK8⟩

end Go.Proofs.Qxb6609425a
