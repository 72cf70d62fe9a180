/-
  (Txn).encode, encodeTxn.
-/
import Derived.Test.Qxb6609425aEnc4
namespace Go.Proofs.Qxb6609425a
open Go.RowKit
set_option linter.unusedSimpArgs false
set_option linter.unusedVariables false

/-- A slice of changes that lies below n₀. -/
def OpsV (n₀ : Nat) (W : World) (v : Value) (fs : List Fd) : Prop :=
  ∃ a c, v = .slice a fs.length c ∧ (0 < fs.length → ∃ g o, a = some ⟨g, o, none⟩ ∧ g < n₀ ∧ ∀ j (h : j < fs.length), ∃ cs, Fl n₀ W cs fs[j] ∧ W.rangeAt g (o + j * 14) cs)

theorem OpsV.below {n₀ : Nat} {W W' : World} {v : Value} {fs : List Fd} (h : OpsV n₀ W v fs) (hb : Below n₀ W W') : OpsV n₀ W' v fs := by
  obtain ⟨a, c, h1, h2⟩ := h
  refine ⟨a, c, h1, fun h => ?_⟩
  obtain ⟨g, o, h3, h4, h5⟩ := h2 h
  refine ⟨g, o, h3, h4, fun j hj => ?_⟩
  obtain ⟨cs, h6, h7⟩ := h5 j hj
  exact ⟨cs, h6.below hb, fun k u hu => (hb.cell (p := ⟨g, o + j * 14 + k, none⟩) h4).trans (h7 k u hu)⟩

/-- The cells cs stand for a change with the fields f and, one level down, the ops fs. -/
def Tp (n₀ : Nat) (W : World) (cs : List Value) (f : Fd) (fs : List Fd) : Prop :=
  ∃ vd va vp vo vk ak, cs = cells14 f vd va vp vo vk ak ∧ ByteV n₀ W vd f.data ∧ AclV n₀ W va f.acl ∧ ByteV n₀ W vp f.pw ∧ OpsV n₀ W vo fs ∧ IsSl vk

theorem Tp.fl {n₀ : Nat} {W : World} {cs : List Value} {f : Fd} {fs : List Fd} (h : Tp n₀ W cs f fs) : Fl n₀ W cs f := by
  obtain ⟨vd, va, vp, vo, vk, ak, h1, h2, h3, h4, ⟨a, c, h5, _⟩, h6⟩ := h
  exact ⟨vd, va, vp, vo, vk, ak, h1, h2, h3, h4, ⟨_, _, _, h5⟩, h6⟩
theorem Tp.below {n₀ : Nat} {W W' : World} {cs : List Value} {f : Fd} {fs : List Fd} (h : Tp n₀ W cs f fs) (hb : Below n₀ W W') : Tp n₀ W' cs f fs := by
  obtain ⟨vd, va, vp, vo, vk, ak, h1, h2, h3, h4, h5, h6⟩ := h
  exact ⟨vd, va, vp, vo, vk, ak, h1, h2.below hb, h3.below hb, h4.below hb, h5.below hb, h6⟩

def opb (req : Bool) (g : Fd) : List Value := fieldsb g ++ (if req then boolb g.seq else [])
def opsb (req : Bool) (f : Fd) (fs : List Fd) : List Value := if f.op = 14 then i32b fs.length ++ fs.flatMap (opb req) else []
/-- What encode writes. -/
def encb (req : Bool) (f : Fd) (fs : List Fd) : List Value := i64b (wrap64 f.zx) ++ (i64b f.tm ++ (fieldsb f ++ opsb req f fs))

theorem opb_take {req : Bool} {fs : List Fd} {j : Nat} (h : j < fs.length) : (fs.take (j + 1)).flatMap (opb req) = (fs.take j).flatMap (opb req) ++ opb req fs[j] := by
  rw [List.take_succ_eq_append_getElem h, List.flatMap_append]
  simp

theorem opb_le (req : Bool) (fs : List Fd) (j : Nat) : ((fs.take j).flatMap (opb req)).length ≤ (fs.flatMap (opb req)).length := by
  conv => rhs; rw [← List.take_append_drop j fs, List.flatMap_append, List.length_append]
  omega

set_option maxRecDepth 100000 in
set_option maxHeartbeats 3200000 in
theorem encode_any (n₀ E : Nat) (xs : List Value) (cs : List Value) (f : Fd) (fs : List Fd) (req : Bool) (w : World) (hf : Tp n₀ w cs f fs) (hs : Sm f) (hss : f.op = 14 → fs.length ≤ 1048576 ∧ ∀ g ∈ fs, Sm g) (hb : Enc n₀ E w xs) (hn : n₀ ≤ w.heap.size) (hl : xs.length + (encb req f fs).length ≤ 268435456) :
    Calls Try.prog 15 #[.agg cs.toArray, .pointer (some ⟨E, 0, none⟩), .bool req] w (EncEnd n₀ E xs (encb req f fs) w) := by
  have HFL : Hid (Fl n₀ w cs f) := hf.fl
  obtain ⟨vd, va, vp, vo, vk, ak, rfl, hvd, hva, hvp, hvo, ⟨ak', nk, ck, rfl⟩⟩ := hf
  have hE0 := hb.1
  have HEl : Hid (E < w.heap.size) := Enc.lt hb
  have HB : Hid (Enc n₀ E w xs) := hb
  have HO : Hid (OpsV n₀ w vo fs) := hvo
  have HS : Hid (Sm f) := hs
  have HSS : Hid (f.op = 14 → fs.length ≤ 1048576 ∧ ∀ g ∈ fs, Sm g) := hss
  obtain ⟨ad, cd, rfl⟩ := hvd.slice
  obtain ⟨aa, ca, rfl⟩ := hva.slice
  obtain ⟨ap, cp, rfl⟩ := hvp.slice
  obtain ⟨ao, co, rfl, hops⟩ := hvo
  have HOP : Hid (0 < fs.length → ∃ g o, ao = some ⟨g, o, none⟩ ∧ g < n₀ ∧ ∀ j (h : j < fs.length), ∃ cs, Fl n₀ w cs fs[j] ∧ w.rangeAt g (o + j * 14) cs) := hops
  have hlen : xs.length + (8 + (8 + ((fieldsb f).length + (opsb req f fs).length))) ≤ 268435456 := by
    simpa [encb, i64b_length] using hl
  have hfl : (fieldsb f).length ≤ (fieldsb f).length := Nat.le_refl _
  clear hb hvd hva hvp hl hs hss hops
  simp only [cells14] at HFL ⊢
  by_cases hop : f.op = 14
  · have hopb : (f.op == 14) = true := by simp [hop]
    have HOP14 : Hid (f.op = 14) := hop
    clear hop
    have hfsl := (HSS.out HOP14.out).1
    have HSG : Hid (∀ g ∈ fs, Sm g) := (HSS.out HOP14.out).2
    have hopl : (opsb req f fs).length = 4 + (fs.flatMap (opb req)).length := by rw [opsb, if_pos HOP14.out, List.length_append, i32b_length]
    go_enter Try.func15, Try.ntmps15
    go_wp2_with fail
    have hX0 := Deep.blk_alloc_new w (.cells #[.int .u64 f.zx, .int .i64 f.tm, .int .i32 f.op, .string f.path, .slice ad (lenO f.data) cd, .slice aa f.acl.length ca, .int .i32 f.ver, .int .i64 f.ses, .int .i32 f.tmo, .slice ap (lenO f.pw) cp, .slice ao fs.length co, .bool f.seq, .slice ak' nk ck, .int .i64 ak] 37)
    have hlE := HEl.out
    refine (zxid_any n₀ E _ _ _ (Enc.alloc HB.out _) (by simp; omega) (by omega)).mono ?_
    rintro e w1 ⟨rfl, hb1, hk1⟩
    have hX1 := hk1.blk hX0 (by decide) (by omega)
    have hK1 : KeepE n₀ E w w1 := ((KeepE.refl n₀ E w).alloc _).trans hk1
    have hz1 := hK1.size
    have cx1 : w1.cell? ⟨w.heap.size, 1, none⟩ = some (.int .i64 f.tm) := heap_cell hX1 1
    go_wp2_with fail
    refine (long_any n₀ E _ _ _ hb1 (by omega) (by simp only [List.length_append, i64b_length]; omega)).mono ?_
    rintro e w2 ⟨rfl, hb2, hk2⟩
    have hX2 := hk2.blk hX1 (by decide) (by omega)
    have hK2 := hK1.trans hk2
    have hz2 := hK2.size
    have cy0 : w2.cell? ⟨w.heap.size, 0, none⟩ = some (.int .u64 f.zx) := heap_cell hX2 0
    have cy1 : w2.cell? ⟨w.heap.size, 1, none⟩ = some (.int .i64 f.tm) := heap_cell hX2 1
    have cy2 : w2.cell? ⟨w.heap.size, 2, none⟩ = some (.int .i32 f.op) := heap_cell hX2 2
    have cy3 : w2.cell? ⟨w.heap.size, 3, none⟩ = some (.string f.path) := heap_cell hX2 3
    have cy4 : w2.cell? ⟨w.heap.size, 4, none⟩ = some (.slice ad (lenO f.data) cd) := heap_cell hX2 4
    have cy5 : w2.cell? ⟨w.heap.size, 5, none⟩ = some (.slice aa f.acl.length ca) := heap_cell hX2 5
    have cy6 : w2.cell? ⟨w.heap.size, 6, none⟩ = some (.int .i32 f.ver) := heap_cell hX2 6
    have cy7 : w2.cell? ⟨w.heap.size, 7, none⟩ = some (.int .i64 f.ses) := heap_cell hX2 7
    have cy8 : w2.cell? ⟨w.heap.size, 8, none⟩ = some (.int .i32 f.tmo) := heap_cell hX2 8
    have cy9 : w2.cell? ⟨w.heap.size, 9, none⟩ = some (.slice ap (lenO f.pw) cp) := heap_cell hX2 9
    have cy10 : w2.cell? ⟨w.heap.size, 10, none⟩ = some (.slice ao fs.length co) := heap_cell hX2 10
    have cy11 : w2.cell? ⟨w.heap.size, 11, none⟩ = some (.bool f.seq) := heap_cell hX2 11
    have cy12 : w2.cell? ⟨w.heap.size, 12, none⟩ = some (.slice ak' nk ck) := heap_cell hX2 12
    have cy13 : w2.cell? ⟨w.heap.size, 13, none⟩ = some (.int .i64 ak) := heap_cell hX2 13
    go_wp2_with fail
    refine (fields_any n₀ E _ _ f _ (Fl.below HFL.out (hK2.below hn hE0)) HS.out hb2 (by omega) (by simp only [List.length_append, i64b_length]; omega)).mono ?_
    rintro e w3 ⟨rfl, hb3, hk3⟩
    have hX3 := hk3.blk hX2 (by decide) (by omega)
    have hK3 := hK2.trans hk3
    have hz3 := hK3.size
    have cx3 : w3.cell? ⟨w.heap.size, 2, none⟩ = some (.int .i32 f.op) := heap_cell hX3 2
    have co3 : w3.cell? ⟨w.heap.size, 10, none⟩ = some (.slice ao fs.length co) := heap_cell hX3 10
    go_wp2_with fail
    refine (int_any n₀ E _ _ _ hb3 (by omega) (by simp only [List.length_append, i64b_length]; omega)).mono ?_
    rintro e w4 ⟨rfl, hb4, hk4⟩
    have hX4 := hk4.blk hX3 (by decide) (by omega)
    have hK4 := hK3.trans hk4
    have hz4 := hK4.size
    have cx4 : w4.cell? ⟨w.heap.size, 10, none⟩ = some (.slice ao fs.length co) := heap_cell hX4 10
    go_wp2_with fail
    obtain ⟨zs, hzs⟩ : ∃ zs, zs = xs ++ i64b (wrap64 f.zx) ++ i64b f.tm ++ fieldsb f ++ i32b (fs.length : Int) := ⟨_, rfl⟩
    have HZS : Hid (zs = xs ++ i64b (wrap64 f.zx) ++ i64b f.tm ++ fieldsb f ++ i32b (fs.length : Int)) := hzs
    have hzl : zs.length = xs.length + (8 + (8 + ((fieldsb f).length + 4))) := by rw [hzs]; simp only [List.length_append, i32b_length, i64b_length]; omega
    rw [← hzs] at hb4
    have HEN : Hid (encb req f fs = i64b (wrap64 f.zx) ++ (i64b f.tm ++ (fieldsb f ++ (i32b (fs.length : Int) ++ fs.flatMap (opb req))))) := by show _ = _; rw [encb, opsb, if_pos HOP14.out]
    clear hzs hb1 hb2 hb3 hk1 hk2 hk3 hk4 hX0 hX1 hX2 hX3 hX4
    go_loopw [31] (fun vj wq => ∃ j : Nat, vj = .int .i64 j ∧ j ≤ fs.length ∧ Enc n₀ E wq (zs ++ (fs.take j).flatMap (opb req)) ∧ KeepE n₀ E w wq) (fun vj _ => fs.length - (intOf vj).toNat)
    case atStart => exact ⟨0, rfl, by omega, by simpa using hb4, hK4⟩
    case round =>
      obtain ⟨j, rfl, hj, hbj, hkj⟩ := hrel
      by_cases hlt : j < fs.length
      · have hji : (j : Int) < (fs.length : Int) := by omega
        obtain ⟨g, o, rfl, hg, hrng⟩ := HOP.out (by omega)
        have hbel := hkj.below hn hE0
        obtain ⟨cs1, hfl1, hr⟩ := hrng j hlt
        have HFJ : Hid (Fl n₀ wr cs1 fs[j]) := hfl1.below hbel
        obtain ⟨vd1, va1, vp1, vo1, vk1, ak1, rfl, hvd1, hva1, hvp1, ⟨ao1, no1, co1, rfl⟩, ⟨ak1', nk1, ck1, rfl⟩⟩ := hfl1
        obtain ⟨ad1, cd1, rfl⟩ := hvd1.slice
        obtain ⟨aa1, ca1, rfl⟩ := hva1.slice
        obtain ⟨ap1, cp1, rfl⟩ := hvp1.slice
        have hle := opb_le req fs (j + 1)
        rw [opb_take hlt, List.length_append] at hle
        have HSJ : Hid (Sm fs[j]) := HSG.out fs[j] (List.getElem_mem hlt)
        obtain ⟨fj, hfj⟩ : ∃ fj, fj = fs[j] := ⟨_, rfl⟩
        rw [← hfj] at hr HFJ HSJ hle
        have HFE : Hid (fj = fs[j]) := hfj
        simp only [cells14] at hr HFJ
        have d0 : wr.cell? ⟨g, o + j * 14, none⟩ = some (.int .u64 fj.zx) := (hbel.cell (p := ⟨g, o + j * 14 + 0, none⟩) hg).trans (hr 0 _ rfl)
        have d1 : wr.cell? ⟨g, o + j * 14 + 1, none⟩ = some (.int .i64 fj.tm) := (hbel.cell (p := ⟨g, o + j * 14 + 1, none⟩) hg).trans (hr 1 _ rfl)
        have d2 : wr.cell? ⟨g, o + j * 14 + 2, none⟩ = some (.int .i32 fj.op) := (hbel.cell (p := ⟨g, o + j * 14 + 2, none⟩) hg).trans (hr 2 _ rfl)
        have d3 : wr.cell? ⟨g, o + j * 14 + 3, none⟩ = some (.string fj.path) := (hbel.cell (p := ⟨g, o + j * 14 + 3, none⟩) hg).trans (hr 3 _ rfl)
        have d4 : wr.cell? ⟨g, o + j * 14 + 4, none⟩ = some (.slice ad1 (lenO fj.data) cd1) := (hbel.cell (p := ⟨g, o + j * 14 + 4, none⟩) hg).trans (hr 4 _ rfl)
        have d5 : wr.cell? ⟨g, o + j * 14 + 5, none⟩ = some (.slice aa1 fj.acl.length ca1) := (hbel.cell (p := ⟨g, o + j * 14 + 5, none⟩) hg).trans (hr 5 _ rfl)
        have d6 : wr.cell? ⟨g, o + j * 14 + 6, none⟩ = some (.int .i32 fj.ver) := (hbel.cell (p := ⟨g, o + j * 14 + 6, none⟩) hg).trans (hr 6 _ rfl)
        have d7 : wr.cell? ⟨g, o + j * 14 + 7, none⟩ = some (.int .i64 fj.ses) := (hbel.cell (p := ⟨g, o + j * 14 + 7, none⟩) hg).trans (hr 7 _ rfl)
        have d8 : wr.cell? ⟨g, o + j * 14 + 8, none⟩ = some (.int .i32 fj.tmo) := (hbel.cell (p := ⟨g, o + j * 14 + 8, none⟩) hg).trans (hr 8 _ rfl)
        have d9 : wr.cell? ⟨g, o + j * 14 + 9, none⟩ = some (.slice ap1 (lenO fj.pw) cp1) := (hbel.cell (p := ⟨g, o + j * 14 + 9, none⟩) hg).trans (hr 9 _ rfl)
        have d10 : wr.cell? ⟨g, o + j * 14 + 10, none⟩ = some (.slice ao1 no1 co1) := (hbel.cell (p := ⟨g, o + j * 14 + 10, none⟩) hg).trans (hr 10 _ rfl)
        have d11 : wr.cell? ⟨g, o + j * 14 + 11, none⟩ = some (.bool fj.seq) := (hbel.cell (p := ⟨g, o + j * 14 + 11, none⟩) hg).trans (hr 11 _ rfl)
        have d12 : wr.cell? ⟨g, o + j * 14 + 12, none⟩ = some (.slice ak1' nk1 ck1) := (hbel.cell (p := ⟨g, o + j * 14 + 12, none⟩) hg).trans (hr 12 _ rfl)
        have d13 : wr.cell? ⟨g, o + j * 14 + 13, none⟩ = some (.int .i64 ak1) := (hbel.cell (p := ⟨g, o + j * 14 + 13, none⟩) hg).trans (hr 13 _ rfl)
        have HBJ : Hid (Enc n₀ E wr (zs ++ (fs.take j).flatMap (opb req))) := hbj
        have HKJ : Hid (KeepE n₀ E w wr) := hkj
        have hEl := Enc.lt HBJ.out
        have hn1 : n₀ ≤ wr.heap.size := by have := HKJ.out.size; omega
        clear hr hrng hbel hbj hkj hvd1 hva1 hvp1 hfj
        have hX5' := Deep.blk_alloc_new wr (.cells #[.int .u64 fj.zx, .int .i64 fj.tm, .int .i32 fj.op, .string fj.path, .slice ad1 (lenO fj.data) cd1, .slice aa1 fj.acl.length ca1, .int .i32 fj.ver, .int .i64 fj.ses, .int .i32 fj.tmo, .slice ap1 (lenO fj.pw) cp1, .slice ao1 no1 co1, .bool fj.seq, .slice ak1' nk1 ck1, .int .i64 ak1] 37)
        have hol : (opb req fj).length = (fieldsb fj).length + (if req then boolb fj.seq else []).length := by rw [opb, List.length_append]
        go_wp2_with fail
        refine (fields_any n₀ E _ _ fj _ (Fl.below HFJ.out ((Below.refl _ _).alloc hn1 _)) HSJ.out (Enc.alloc HBJ.out _) (by simp; omega) (by rw [List.length_append]; omega)).mono ?_
        rintro e w5 ⟨rfl, hb5, hk5⟩
        have hX5 := hk5.blk hX5' (by decide) (by omega)
        have hK5 : KeepE n₀ E w w5 := (HKJ.out.alloc _).trans hk5
        have hz5 := hK5.size
        have cx5 : w5.cell? ⟨wr.heap.size, 11, none⟩ = some (.bool fj.seq) := heap_cell hX5 11
        clear hX5 hX5'
        cases req with
        | false =>
          have hb6 := hb5
          obtain ⟨w6, hw6⟩ : ∃ w6, w6 = w5 := ⟨_, rfl⟩
          have hK6 := hK5
          rw [← hw6] at hb6 hK6 ⊢
          clear hw6
          have HB6 : Hid (Enc n₀ E w6 (zs ++ (fs.take j).flatMap (opb false) ++ opb false fj)) := by show Enc _ _ _ _; simpa only [opb, if_true, if_false, Bool.false_eq_true, List.append_nil, List.append_assoc] using hb6
          have HK6 : Hid (KeepE n₀ E w w6) := hK6
          clear hb5 hb6 hk5
          go_wp2_with fail
          refine ⟨⟨j + 1, rfl, by omega, ?_, HK6.out⟩, ?_⟩
          · have := HB6.out
            rw [HFE.out] at this
            rw [opb_take hlt]
            simpa only [List.append_assoc] using this
          · have hwr : (j : Int) + 1 = ((j + 1 : Nat) : Int) := rfl
            rw [hwr]
            simp only [intOf, Int.toNat_natCast]
            omega
        | true =>
          go_wp2_with fail
          refine (bool_any n₀ E _ _ _ hb5 (by omega) (by simp only [List.length_append]; omega)).mono ?_
          rintro e w6 ⟨rfl, hb6, hk6⟩
          have hK6 := hK5.trans hk6
          clear hk6
          have HB6 : Hid (Enc n₀ E w6 (zs ++ (fs.take j).flatMap (opb true) ++ opb true fj)) := by show Enc _ _ _ _; simpa only [opb, if_true, if_false, Bool.false_eq_true, List.append_nil, List.append_assoc] using hb6
          have HK6 : Hid (KeepE n₀ E w w6) := hK6
          clear hb5 hb6 hk5
          go_wp2_with fail
          refine ⟨⟨j + 1, rfl, by omega, ?_, HK6.out⟩, ?_⟩
          · have := HB6.out
            rw [HFE.out] at this
            rw [opb_take hlt]
            simpa only [List.append_assoc] using this
          · have hwr : (j : Int) + 1 = ((j + 1 : Nat) : Int) := rfl
            rw [hwr]
            simp only [intOf, Int.toNat_natCast]
            omega
      · obtain rfl : j = fs.length := by omega
        go_wp2_with fail
        go_end0
        refine ⟨rfl, ?_, hkj⟩
        rw [HEN.out]
        have := hbj
        rw [List.take_length, HZS.out] at this
        simpa only [List.append_assoc] using this
  · have hopb : (f.op == 14) = false := by simp [hop]
    have HOP14 : Hid (opsb req f fs = []) := by show _ = _; simp [opsb, hop]
    clear hop
    go_enter Try.func15, Try.ntmps15
    go_wp2_with fail
    have hX0 := Deep.blk_alloc_new w (.cells #[.int .u64 f.zx, .int .i64 f.tm, .int .i32 f.op, .string f.path, .slice ad (lenO f.data) cd, .slice aa f.acl.length ca, .int .i32 f.ver, .int .i64 f.ses, .int .i32 f.tmo, .slice ap (lenO f.pw) cp, .slice ao fs.length co, .bool f.seq, .slice ak' nk ck, .int .i64 ak] 37)
    have hlE := HEl.out
    refine (zxid_any n₀ E _ _ _ (Enc.alloc HB.out _) (by simp; omega) (by omega)).mono ?_
    rintro e w1 ⟨rfl, hb1, hk1⟩
    have hX1 := hk1.blk hX0 (by decide) (by omega)
    have hK1 : KeepE n₀ E w w1 := ((KeepE.refl n₀ E w).alloc _).trans hk1
    have hz1 := hK1.size
    have cx1 : w1.cell? ⟨w.heap.size, 1, none⟩ = some (.int .i64 f.tm) := heap_cell hX1 1
    go_wp2_with fail
    refine (long_any n₀ E _ _ _ hb1 (by omega) (by simp only [List.length_append, i64b_length]; omega)).mono ?_
    rintro e w2 ⟨rfl, hb2, hk2⟩
    have hX2 := hk2.blk hX1 (by decide) (by omega)
    have hK2 := hK1.trans hk2
    have hz2 := hK2.size
    have cy0 : w2.cell? ⟨w.heap.size, 0, none⟩ = some (.int .u64 f.zx) := heap_cell hX2 0
    have cy1 : w2.cell? ⟨w.heap.size, 1, none⟩ = some (.int .i64 f.tm) := heap_cell hX2 1
    have cy2 : w2.cell? ⟨w.heap.size, 2, none⟩ = some (.int .i32 f.op) := heap_cell hX2 2
    have cy3 : w2.cell? ⟨w.heap.size, 3, none⟩ = some (.string f.path) := heap_cell hX2 3
    have cy4 : w2.cell? ⟨w.heap.size, 4, none⟩ = some (.slice ad (lenO f.data) cd) := heap_cell hX2 4
    have cy5 : w2.cell? ⟨w.heap.size, 5, none⟩ = some (.slice aa f.acl.length ca) := heap_cell hX2 5
    have cy6 : w2.cell? ⟨w.heap.size, 6, none⟩ = some (.int .i32 f.ver) := heap_cell hX2 6
    have cy7 : w2.cell? ⟨w.heap.size, 7, none⟩ = some (.int .i64 f.ses) := heap_cell hX2 7
    have cy8 : w2.cell? ⟨w.heap.size, 8, none⟩ = some (.int .i32 f.tmo) := heap_cell hX2 8
    have cy9 : w2.cell? ⟨w.heap.size, 9, none⟩ = some (.slice ap (lenO f.pw) cp) := heap_cell hX2 9
    have cy10 : w2.cell? ⟨w.heap.size, 10, none⟩ = some (.slice ao fs.length co) := heap_cell hX2 10
    have cy11 : w2.cell? ⟨w.heap.size, 11, none⟩ = some (.bool f.seq) := heap_cell hX2 11
    have cy12 : w2.cell? ⟨w.heap.size, 12, none⟩ = some (.slice ak' nk ck) := heap_cell hX2 12
    have cy13 : w2.cell? ⟨w.heap.size, 13, none⟩ = some (.int .i64 ak) := heap_cell hX2 13
    go_wp2_with fail
    refine (fields_any n₀ E _ _ f _ (Fl.below HFL.out (hK2.below hn hE0)) HS.out hb2 (by omega) (by simp only [List.length_append, i64b_length]; omega)).mono ?_
    rintro e w3 ⟨rfl, hb3, hk3⟩
    have hX3 := hk3.blk hX2 (by decide) (by omega)
    have hK3 := hK2.trans hk3
    have hz3 := hK3.size
    have cx3 : w3.cell? ⟨w.heap.size, 2, none⟩ = some (.int .i32 f.op) := heap_cell hX3 2
    have co3 : w3.cell? ⟨w.heap.size, 10, none⟩ = some (.slice ao fs.length co) := heap_cell hX3 10
    go_wp2_with fail
    go_end0
    refine ⟨rfl, ?_, hK3⟩
    rw [encb, HOP14.out, List.append_nil]
    simpa only [List.append_assoc] using hb3

end Go.Proofs.Qxb6609425a
