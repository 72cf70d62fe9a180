/-
  stripped at a multi.
-/
import Derived.Test.Qxb6609425aStrip
import Derived.Deep.Cut
namespace Go.Proofs.Qxb6609425a
open Go.RowKit
set_option linter.unusedSimpArgs false
set_option linter.unusedVariables false

theorem hidC {p : Prop} (h : p) : Hid p := h

set_option maxRecDepth 100000 in
set_option maxHeartbeats 16000000 in
theorem strip_multiC (d n₀ : Nat) (cs : List Value) (f : Fd) (fs : List Fd) (t : Nat) (w : World) (h : In (d + 1) n₀ w cs f fs t) (htb : t ≤ 1048576) (hn : n₀ ≤ w.heap.size) (hop : f.op = 14) (hac : ¬ f.acl.length = 0) : Calls Try.prog 7 #[.agg cs.toArray] w (StripEnd f fs w) := by
  obtain ⟨vd, va, vp, vk, ak, ks, ao, co, ts, rfl, hvd, hva, hvp, hvk, hlim, htl, ht, hops⟩ := h
  obtain ⟨ad, cd, rfl⟩ := hvd.slice
  have HVA : Hid (AclV n₀ w va f.acl) := hva
  obtain ⟨aa, ca, rfl, hcells⟩ := hva
  obtain ⟨ap, cp, rfl⟩ := hvp.slice
  obtain ⟨ak', ck, rfl, hask⟩ := hvk
  have hnil25 := fun (a : Option Addr) (l c : Nat) (w : World) => run_neq_nil' w 25 28 a l c 0 0 Try.underlying25
  have HO : Hid (0 < fs.length → ∃ g o, ao = some ⟨g, o, none⟩ ∧ g < n₀ ∧ ∀ j (h : j < fs.length) (h' : j < ts.length), ∃ cs gs, In d n₀ w cs fs[j] gs ts[j] ∧ w.rangeAt g (o + j * 14) cs) := hops
  have HVD : Hid (ByteV n₀ w (.slice ad (lenO f.data) cd) f.data) := hvd
  have HVP : Hid (ByteV n₀ w (.slice ap (lenO f.pw) cp) f.pw) := hvp
  have HT : Hid (t = own0 f ks.length fs.length + aclS f.acl f.acl.length + askS ks ks.length + numS ts ts.length) := ht
  have HL : Hid (Lim f ks fs.length) := hlim
  clear hvd hvp hcells hask hops ht hlim
  simp only [cells14] at *
  go_enter Try.func7, Try.ntmps7
  have HVN : Hid (f.acl.length = 0 → AclV n₀ w (.slice none 0 0) f.acl) := fun h => ⟨none, 0, by rw [h], fun h' => by omega⟩
  have HSM : Hid (∀ no', no' ≤ fs.length → own0 f 0 no' + aclS f.acl f.acl.length + numS (fs.map wt) no' ≤ 1048576) := fun no' h => by
    have h1 := numS_map_le (ts := ts) htl (fun j hj hj' => by
      obtain ⟨g, o, _, _, h⟩ := HO.out (by omega)
      obtain ⟨cs, gs, h, _⟩ := h j hj hj'
      exact h.ge) no' h
    have h2 := numS_le ts no'
    have h3 := HT.out
    have h4 : own0 f 0 no' ≤ own0 f ks.length fs.length := by unfold own0; omega
    omega
  have hopb : (f.op == 14) = true := by simp [hop]
  have HOP : Hid (f.op = 14) := hop
  clear hop
  have hacb : ((f.acl.length : Int) == 0) = false := beq_eq_false_iff_ne.2 (by omega)
  clear hac
  cases ao with
  | none =>
    have HF0 : Hid (fs.length = 0) := by
      show _ = _
      rcases Nat.eq_zero_or_pos fs.length with h | h
      · exact h
      · obtain ⟨g, o, h, _⟩ := HO.out h; cases h
    go_wp2_with fail
    try simp only [Exit.inBlock, Exit.then]
    have h3 := three w (.cells #[.int .u64 f.zx, .int .i64 f.tm, .int .i32 f.op, .string f.path, .slice ad (lenO f.data) cd, .slice aa f.acl.length ca, .int .i32 f.ver, .int .i64 f.ses, .int .i32 f.tmo, .slice ap (lenO f.pw) cp, .slice none fs.length co, .bool f.seq, .slice ak' ks.length ck, .int .i64 ak] 28) (.cells (cells14 f.bare (.slice ad (lenO f.data) cd) (.slice aa f.acl.length ca) (.slice ap (lenO f.pw) cp) (.slice none fs.length co) (.slice none 0 0) 0).toArray 28) (.cells (cells14 f.bare (.slice ad (lenO f.data) cd) (.slice aa f.acl.length ca) (.slice ap (lenO f.pw) cp) (.slice none fs.length co) (.slice none 0 0) 0).toArray 28)
    refine bodyPost_end (results_cell_row (P := Try.prog) rfl _ _ (w.heap.size + 1) 28 (cells14 f.bare (.slice ad (lenO f.data) cd) (.slice aa f.acl.length ca) (.slice ap (lenO f.pw) cp) (.slice none fs.length co) (.slice none 0 0) 0).toArray (0, 0) _ rfl h3.1 Try.underlying28 rfl size28) rfl ?_
    obtain ⟨t', hin, ht'⟩ := strip_in fs none co HVD.out HVA.out HVP.out HL.out h3.2.1 hn (Nat.le_refl _) (HSM.out _ (Nat.le_refl _)) (fun h => by have := HF0.out; omega)
    exact ⟨_, t', rfl, by rw [if_pos HOP.out]; exact hin, ht', h3.2.1⟩
  | some xo =>
    obtain ⟨arr, hasz, hmk⟩ := mk_rows (t := 25) Try.underlying25 Try.info28 fs.length (by have h1 := HSM.out fs.length (Nat.le_refl _); unfold own0 at h1; omega) (by have h1 := HSM.out fs.length (Nat.le_refl _); unfold own0 at h1; omega)
    go_wp2_with fail
    obtain ⟨V, hV, hXb, hXr, hXs, ⟨f0, hf0⟩, hBV, hVs⟩ := four_ex w (.cells #[.int .u64 f.zx, .int .i64 f.tm, .int .i32 f.op, .string f.path, .slice ad (lenO f.data) cd, .slice aa f.acl.length ca, .int .i32 f.ver, .int .i64 f.ses, .int .i32 f.tmo, .slice ap (lenO f.pw) cp, .slice (some xo) fs.length co, .bool f.seq, .slice ak' ks.length ck, .int .i64 ak] 28) (.cells #[.int .u64 0, .int .i64 0, .int .i32 0, .string ⟨#[]⟩, .slice none 0 0, .slice none 0 0, .int .i32 0, .int .i64 0, .int .i32 0, .slice none 0 0, .slice none 0 0, .bool false, .slice none 0 0, .int .i64 0] 28) (.cells #[.int .u64 f.zx, .int .i64 f.tm, .int .i32 f.op, .string f.path, .slice ad (lenO f.data) cd, .slice aa f.acl.length ca, .int .i32 f.ver, .int .i64 f.ses, .int .i32 f.tmo, .slice ap (lenO f.pw) cp, .slice (some xo) fs.length co, .bool false, .slice none 0 0, .int .i64 0] 28) arr
    rw [hasz] at hf0
    rw [hV]
    clear hV hmk
    have c15 : V.cell? ⟨w.heap.size, 10, none⟩ = some (.slice (some xo) fs.length co) := heap_cell hXb 10
    obtain ⟨AB, hAB⟩ : ∃ AB, AB = w.heap.size + 1 + 1 + 1 := ⟨_, rfl⟩
    have HAB : Hid (AB = w.heap.size + 1 + 1 + 1) := hAB
    rw [← hAB] at hf0 ⊢
    clear hAB
    go_loopw [5] (fun vj wq => ∃ j : Nat, vj = .int .i64 j ∧ j ≤ fs.length ∧ SRow n₀ w wq AB fs j ∧ V.grownBy wq (some AB)) (fun vj _ => fs.length - (intOf vj).toNat)
    case atStart => exact ⟨0, rfl, by omega, ⟨f0, hf0, fun j' _ h => by omega⟩, ⟨rfl, rfl, rfl, Nat.le_refl _, fun _ _ _ => rfl⟩⟩
    case round =>
      obtain ⟨j, rfl, hj, har, hgq⟩ := hrel
      have hab := HAB.out
      have c16 : wr.cell? ⟨w.heap.size, 10, none⟩ = some (.slice (some xo) fs.length co) := hgq.cell c15 (by simp; omega)
      have hgs := hgq.size
      have hBn : ∀ b, b < w.heap.size → wr.heap[b]? = w.heap[b]? := fun b hb => (hgq.block b (by omega) (by intro e; cases e; omega)).trans (hBV.block b hb)
      by_cases hlt : j < fs.length
      · have hji : (j : Int) < (fs.length : Int) := by omega
        obtain ⟨g, o, hxa, hg, hrng⟩ := HO.out (by omega)
        cases hxa
        obtain ⟨cs1, gs1, hin1, hr⟩ := hrng j hlt (by omega)
        have hw : ∀ k u, w.cell? ⟨g, o + j * 14 + k, none⟩ = some u → wr.cell? ⟨g, o + j * 14 + k, none⟩ = some u := fun k u hu => (cell_same (hBn g (by omega)) rfl).trans hu
        obtain ⟨ad1, aa1, ap1, ao1, ak1', cd1, ca1, cp1, co1, ck1, ks1, ak1, hcs1, hst⟩ := In.parts hin1
        obtain ⟨fj, hfj⟩ : ∃ fj, fj = fs[j] := ⟨_, rfl⟩
        rw [← hfj] at hcs1 hst
        rw [hcs1] at hr
        have HST : Hid (StOp n₀ w (cells14 fj (.slice ad1 (lenO fj.data) cd1) (.slice aa1 fj.acl.length ca1) (.slice ap1 (lenO fj.pw) cp1) (.slice none 0 0) (.slice none 0 0) 0) fj) := hst
        have HFE : Hid (fj = fs[j]) := hfj
        simp only [cells14] at hr
        have d0 : wr.cell? ⟨g, o + j * 14, none⟩ = some (.int .u64 fj.zx) := hw 0 _ (hr 0 _ rfl)
        have d1 : wr.cell? ⟨g, o + j * 14 + 1, none⟩ = some (.int .i64 fj.tm) := hw 1 _ (hr 1 _ rfl)
        have d2 : wr.cell? ⟨g, o + j * 14 + 2, none⟩ = some (.int .i32 fj.op) := hw 2 _ (hr 2 _ rfl)
        have d3 : wr.cell? ⟨g, o + j * 14 + 3, none⟩ = some (.string fj.path) := hw 3 _ (hr 3 _ rfl)
        have d4 : wr.cell? ⟨g, o + j * 14 + 4, none⟩ = some (.slice ad1 (lenO fj.data) cd1) := hw 4 _ (hr 4 _ rfl)
        have d5 : wr.cell? ⟨g, o + j * 14 + 5, none⟩ = some (.slice aa1 fj.acl.length ca1) := hw 5 _ (hr 5 _ rfl)
        have d6 : wr.cell? ⟨g, o + j * 14 + 6, none⟩ = some (.int .i32 fj.ver) := hw 6 _ (hr 6 _ rfl)
        have d7 : wr.cell? ⟨g, o + j * 14 + 7, none⟩ = some (.int .i64 fj.ses) := hw 7 _ (hr 7 _ rfl)
        have d8 : wr.cell? ⟨g, o + j * 14 + 8, none⟩ = some (.int .i32 fj.tmo) := hw 8 _ (hr 8 _ rfl)
        have d9 : wr.cell? ⟨g, o + j * 14 + 9, none⟩ = some (.slice ap1 (lenO fj.pw) cp1) := hw 9 _ (hr 9 _ rfl)
        have d10 : wr.cell? ⟨g, o + j * 14 + 10, none⟩ = some (.slice ao1 gs1.length co1) := hw 10 _ (hr 10 _ rfl)
        have d11 : wr.cell? ⟨g, o + j * 14 + 11, none⟩ = some (.bool fj.seq) := hw 11 _ (hr 11 _ rfl)
        have d12 : wr.cell? ⟨g, o + j * 14 + 12, none⟩ = some (.slice ak1' ks1.length ck1) := hw 12 _ (hr 12 _ rfl)
        have d13 : wr.cell? ⟨g, o + j * 14 + 13, none⟩ = some (.int .i64 ak1) := hw 13 _ (hr 13 _ rfl)
        have HAR : Hid (SRow n₀ w wr AB fs j) := har
        have HGQ : Hid (V.grownBy wr (some AB)) := hgq
        have HTH : Hid (∀ o, (wr.alloc o).there AB (j * 14) (cells14 fj (.slice ad1 (lenO fj.data) cd1) (.slice aa1 fj.acl.length ca1) (.slice ap1 (lenO fj.pw) cp1) (.slice none 0 0) (.slice none 0 0) 0).toArray.size) := fun o => by
          obtain ⟨fr, hrow, _⟩ := har
          exact row_there (hrow.alloc o) (show j * 14 + 14 ≤ _ by omega)
        have HSZ : Hid ((Try.prog.info? 28).map (·.size) = some (cells14 fj (.slice ad1 (lenO fj.data) cd1) (.slice aa1 fj.acl.length ca1) (.slice ap1 (lenO fj.pw) cp1) (.slice none 0 0) (.slice none 0 0) 0).toArray.size) := size28
        have HON : Hid ((cells14 fj (.slice ad1 (lenO fj.data) cd1) (.slice aa1 fj.acl.length ca1) (.slice ap1 (lenO fj.pw) cp1) (.slice none 0 0) (.slice none 0 0) 0).toArray.all (·.oneCell') = true) := cells14_one fj ad1 aa1 ap1 none none _ _ _ _ _ _ _ _ _ _ 0
        clear hin1 hcs1 hst hfj hrng hw hr har hgq hab hBn
        have hfl : fs.length ≤ 1048576 := by have h1 := HSM.out fs.length (Nat.le_refl _); unfold own0 at h1; omega
        go_upto_region 19 with fail
        go_wp2_with (refine wpList_store_mid rfl 28 (.tmp 46) (.tmp 45) rfl AB (j * 14) (cells14 fj (.slice ad1 (lenO fj.data) cd1) (.slice aa1 fj.acl.length ca1) (.slice ap1 (lenO fj.pw) cp1) (.slice none 0 0) (.slice none 0 0) 0).toArray rfl rfl (HTH.out _) HSZ.out HON.out ?_; generalize hwz : World.setCells (wr.alloc _) AB (j * 14) _ = wz; have HZ := hidC hwz; clear hwz)
        have hABl := SRow.lt HAR.out
        have hE := HZ.out
        subst hE
        refine ⟨⟨j + 1, rfl, by omega, SRow.next HAR.out hlt (Deep.blk_alloc_lt _ _ _ hABl) (by rw [← HFE.out]; exact HST.out), sets_grown _ _ _ (grown_alloc HGQ.out _)⟩, meas hlt⟩
      · obtain rfl : j = fs.length := by omega
        have hS3 := (hgq.block (w.heap.size + 1 + 1) (by omega) (by intro e; cases e; omega)).trans hXs
        have hR3 := (hgq.block (w.heap.size + 1) (by omega) (by intro e; cases e; omega)).trans hXr
        have s0 : wr.cell? ⟨w.heap.size + 1 + 1, 0, none⟩ = some (.int .u64 f.zx) := heap_cell hS3 0
        have s1 : wr.cell? ⟨w.heap.size + 1 + 1, 1, none⟩ = some (.int .i64 f.tm) := heap_cell hS3 1
        have s2 : wr.cell? ⟨w.heap.size + 1 + 1, 2, none⟩ = some (.int .i32 f.op) := heap_cell hS3 2
        have s3 : wr.cell? ⟨w.heap.size + 1 + 1, 3, none⟩ = some (.string f.path) := heap_cell hS3 3
        have s4 : wr.cell? ⟨w.heap.size + 1 + 1, 4, none⟩ = some (.slice ad (lenO f.data) cd) := heap_cell hS3 4
        have s5 : wr.cell? ⟨w.heap.size + 1 + 1, 5, none⟩ = some (.slice aa f.acl.length ca) := heap_cell hS3 5
        have s6 : wr.cell? ⟨w.heap.size + 1 + 1, 6, none⟩ = some (.int .i32 f.ver) := heap_cell hS3 6
        have s7 : wr.cell? ⟨w.heap.size + 1 + 1, 7, none⟩ = some (.int .i64 f.ses) := heap_cell hS3 7
        have s8 : wr.cell? ⟨w.heap.size + 1 + 1, 8, none⟩ = some (.int .i32 f.tmo) := heap_cell hS3 8
        have s9 : wr.cell? ⟨w.heap.size + 1 + 1, 9, none⟩ = some (.slice ap (lenO f.pw) cp) := heap_cell hS3 9
        have s10 : wr.cell? ⟨w.heap.size + 1 + 1, 10, none⟩ = some (.slice (some xo) fs.length co) := heap_cell hS3 10
        have s11 : wr.cell? ⟨w.heap.size + 1 + 1, 11, none⟩ = some (.bool false) := heap_cell hS3 11
        have s12 : wr.cell? ⟨w.heap.size + 1 + 1, 12, none⟩ = some (.slice none 0 0) := heap_cell hS3 12
        have s13 : wr.cell? ⟨w.heap.size + 1 + 1, 13, none⟩ = some (.int .i64 0) := heap_cell hS3 13
        have z10 : wr.frozen? ⟨w.heap.size + 1 + 1, 10, none⟩ = false := heap_frozen hS3 10
        obtain ⟨fr, hrow⟩ := row_of_block hR3
        have HROW : Hid (∀ v, (wr.setCell ⟨w.heap.size + 1 + 1, 10, none⟩ v).rowIs (w.heap.size + 1) 28 14 fr) := fun v => World.rowIs.setOther hrow (by show w.heap.size + 1 ≠ w.heap.size + 1 + 1; omega) v
        have HTH : Hid (∀ v, (wr.setCell ⟨w.heap.size + 1 + 1, 10, none⟩ v).there (w.heap.size + 1) 0 (cells14 f.bare (.slice ad (lenO f.data) cd) (.slice aa f.acl.length ca) (.slice ap (lenO f.pw) cp) (.slice (some ⟨AB, 0, none⟩) fs.length fs.length) (.slice none 0 0) 0).toArray.size) := fun v => row_there (HROW.out v) (Nat.le_refl _)
        have HSZ : Hid ((Try.prog.info? 28).map (·.size) = some (cells14 f.bare (.slice ad (lenO f.data) cd) (.slice aa f.acl.length ca) (.slice ap (lenO f.pw) cp) (.slice (some ⟨AB, 0, none⟩) fs.length fs.length) (.slice none 0 0) 0).toArray.size) := size28
        have HON : Hid ((cells14 f.bare (.slice ad (lenO f.data) cd) (.slice aa f.acl.length ca) (.slice ap (lenO f.pw) cp) (.slice (some ⟨AB, 0, none⟩) fs.length fs.length) (.slice none 0 0) 0).toArray.all (·.oneCell') = true) := cells14_one f.bare ad _ ap _ none _ _ _ _ _ _ _ _ _ _ 0
        have HAR : Hid (SRow n₀ w wr AB fs fs.length) := har
        have HGQ : Hid (V.grownBy wr (some AB)) := hgq
        clear hS3 hR3 hrow har hgq hab hBn
        go_upto_region 21 with fail
        go_wp2_with (refine wpList_store_mid rfl 28 (.tmp 2) (.tmp 49) rfl (w.heap.size + 1) 0 (cells14 f.bare (.slice ad (lenO f.data) cd) (.slice aa f.acl.length ca) (.slice ap (lenO f.pw) cp) (.slice (some ⟨AB, 0, none⟩) fs.length fs.length) (.slice none 0 0) 0).toArray rfl rfl (HTH.out _) HSZ.out HON.out ?_)
        try simp only [Exit.inBlock, Exit.then]
        refine bodyPost_end (results_cell_row (P := Try.prog) rfl _ _ (w.heap.size + 1) 28 (cells14 f.bare (.slice ad (lenO f.data) cd) (.slice aa f.acl.length ca) (.slice ap (lenO f.pw) cp) (.slice (some ⟨AB, 0, none⟩) fs.length fs.length) (.slice none 0 0) 0).toArray (0, 0) _ rfl (sets_all (HROW.out _)) Try.underlying28 rfl HSZ.out) rfl ?_
        exact strip_close fs xo AB _ HVD.out HVA.out HVP.out HL.out hn (HSM.out _ (Nat.le_refl _)) HOP.out hBV hVs HAB.out HGQ.out HAR.out

end Go.Proofs.Qxb6609425a
