/-
  toTxn: the walk.
-/
import Derived.Test.Qxb6609425aTo
import Derived.Deep.Cut
namespace Go.Proofs.Qxb6609425a
open Go.RowKit
set_option linter.unusedSimpArgs false
set_option linter.unusedVariables false

theorem run_neq_nil (w : World) (t e : TypeId) (a : Option Addr) (n c n' c' : Nat) (h : Try.prog.underlying t = some (.slice e)) :
    (binOp .neq t (.slice a n c) (.slice none n' c')).run Try.prog w = .ok (.bool (!a.isNone)) w := by
  simp only [binOp]
  simp [Op.equal, Op.maxDepth, Lib.run_equalIn_slice_nil w 9999 t e a n c n' c' h]

theorem two_ex (w : World) (o1 o2 : Obj) : ∃ V, (w.alloc o1).alloc o2 = V ∧ V.heap[w.heap.size]? = some o1 ∧ V.heap[w.heap.size + 1]? = some o2 ∧ Below w.heap.size w V ∧ w.heap.size + 2 = V.heap.size := by
  refine ⟨_, rfl, ?_, ?_, ((Below.refl _ _).alloc (Nat.le_refl _) _).alloc (by simp) _, by simp⟩
  · exact (Deep.blk_alloc_lt (w.alloc o1) o2 _ (by simp)).trans (Deep.blk_alloc_new w o1)
  · have := Deep.blk_alloc_new (w.alloc o1) o2
    rw [Deep.nblk_alloc] at this
    exact this

/-- What toTxn hands back. -/
def ToEnd (n₀ : Nat) (f : Fd) (fs : List Fd) (w : World) (e : Ending) (w' : World) : Prop :=
  ∃ cs, e = .returned (.agg cs.toArray) ∧ TpP (fun b => b < n₀ ∨ (w.heap.size ≤ b ∧ b < w'.heap.size)) w' cs f fs ∧ Below w.heap.size w w'

set_option maxRecDepth 100000 in
set_option maxHeartbeats 3200000 in
theorem to_step (d n₀ : Nat) (IH : Hid (∀ (cs : List Value) (f : Fd) (fs : List Fd) (t : Nat) (w : World), In d n₀ w cs f fs t → t ≤ 1048576 → n₀ ≤ w.heap.size → Calls Try.prog 6 #[.agg cs.toArray] w (ToEnd n₀ f fs w))) (cs : List Value) (f : Fd) (fs : List Fd) (t : Nat) (w : World) (h : In (d + 1) n₀ w cs f fs t) (htb : t ≤ 1048576) (hn : n₀ ≤ w.heap.size) : Calls Try.prog 6 #[.agg cs.toArray] w (ToEnd n₀ f fs w) := by
  obtain ⟨vd, va, vp, vk, ak, ks, ao, co, ts, rfl, hvd, hva, hvp, hvk, hlim, htl, ht, hops⟩ := h
  obtain ⟨ad, cd, rfl⟩ := hvd.slice
  obtain ⟨aa, ca, rfl, hcells⟩ := hva
  obtain ⟨ap, cp, rfl⟩ := hvp.slice
  obtain ⟨ak', ck, rfl, hask⟩ := hvk
  have hnil24 := fun (a : Option Addr) (l c : Nat) (w : World) => run_neq_nil w 24 46 a l c 0 0 Try.underlying24
  have hnil26 := fun (a : Option Addr) (l c : Nat) (w : World) => run_neq_nil w 26 48 a l c 0 0 Try.underlying26
  have hnil25 := fun (a : Option Addr) (l c : Nat) (w : World) => run_neq_nil w 25 28 a l c 0 0 Try.underlying25
  have HC : Hid (0 < f.acl.length → ∃ g o, aa = some ⟨g, o, none⟩ ∧ g < n₀ ∧ ∀ j (h : j < f.acl.length), w.rangeAt g (o + j * 3) (aclCells f.acl[j])) := hcells
  have HK : Hid (0 < ks.length → ∃ g o, ak' = some ⟨g, o, none⟩ ∧ g < n₀ ∧ ∀ j (h : j < ks.length), w.rangeAt g (o + j * 2) [.string ks[j].1, .string ks[j].2]) := hask
  have HO : Hid (0 < fs.length → ∃ g o, ao = some ⟨g, o, none⟩ ∧ g < n₀ ∧ ∀ j (h : j < fs.length) (h' : j < ts.length), ∃ cs gs, In d n₀ w cs fs[j] gs ts[j] ∧ w.rangeAt g (o + j * 14) cs) := hops
  have HVD : Hid (ByteV n₀ w (.slice ad (lenO f.data) cd) f.data) := hvd
  have HVP : Hid (ByteV n₀ w (.slice ap (lenO f.pw) cp) f.pw) := hvp
  have hq : f.acl.length * 40 + ks.length * 32 + fs.length * 200 + numS ts ts.length ≤ 1048576 := by rw [ht, own0] at htb; omega
  clear hvd hvp hcells hask hops ht hlim
  simp only [cells14]
  go_enter Try.func6, Try.ntmps6
  go_upto_if 11 with fail
  obtain ⟨V, hV, hXb, hXr, hBV, hVs⟩ := two_ex w (.cells #[.int .u64 f.zx, .int .i64 f.tm, .int .i32 f.op, .string f.path, .slice ad (lenO f.data) cd, .slice aa f.acl.length ca, .int .i32 f.ver, .int .i64 f.ses, .int .i32 f.tmo, .slice ap (lenO f.pw) cp, .slice ao fs.length co, .bool f.seq, .slice ak' ks.length ck, .int .i64 ak] 28) (.cells #[.int .u64 0, .int .i64 0, .int .i32 0, .string ⟨#[]⟩, .slice none 0 0, .slice none 0 0, .int .i32 0, .int .i64 0, .int .i32 0, .slice none 0 0, .slice none 0 0, .bool false, .slice none 0 0, .int .i64 0] 37)
  rw [hV]
  clear hV
  have cb5 : V.cell? ⟨w.heap.size, 5, none⟩ = some (.slice aa f.acl.length ca) := heap_cell hXb 5
  go_cut [3] from 4 (fun v3 wc => AclP (fun b => V.heap.size ≤ b ∧ b < wc.heap.size) wc v3 f.acl ∧ Below V.heap.size V wc)
  case first =>
    cases aa with
    | none =>
      have hl0 : f.acl.length = 0 := by
        rcases Nat.eq_zero_or_pos f.acl.length with h | h
        · exact h
        · obtain ⟨g, o, h, _⟩ := HC.out h; cases h
      have hfin : AclP (fun b => V.heap.size ≤ b ∧ b < V.heap.size) V (.slice none 0 0) f.acl := ⟨none, 0, by rw [hl0], fun h => by omega⟩
      have HFIN : Hid (AclP (fun b => V.heap.size ≤ b ∧ b < V.heap.size) V (.slice none 0 0) f.acl) := hfin
      clear hfin hl0
      go_wp2_with fail
      go_meet
      exact ⟨HFIN.out, Below.refl _ _⟩
    | some xa =>
      obtain ⟨arr, hasz, hmk⟩ := mk_rows (t := 33) Try.underlying33 Try.info53 f.acl.length (by omega) (by omega)
      go_wp2_with fail
      obtain ⟨f0, hf0⟩ := row_any V arr 53
      rw [hasz] at hf0
      obtain ⟨V1, hV1, _, hBV1, hVs1⟩ := box_ex V (.cells arr 53)
      rw [hV1] at hf0 ⊢
      clear hV1 hmk
      have c15 := (hBV1.cell (p := ⟨w.heap.size, 5, none⟩) (by show w.heap.size < _; omega)).trans cb5
      obtain ⟨AB, hAB⟩ : ∃ AB, AB = V.heap.size := ⟨_, rfl⟩
      have HAB : Hid (AB = V.heap.size) := hAB
      rw [← hAB] at hf0 ⊢
      clear hAB
      go_loopw [4] (fun vj wq => ∃ j : Nat, vj = .int .i64 j ∧ j ≤ f.acl.length ∧ ARow wq AB f.acl j ∧ V1.grownBy wq (some AB)) (fun vj _ => f.acl.length - (intOf vj).toNat)
      case atStart => exact ⟨0, rfl, by omega, ⟨f0, hf0, fun j' _ h => by omega⟩, ⟨rfl, rfl, rfl, Nat.le_refl _, fun _ _ _ => rfl⟩⟩
      case round =>
        obtain ⟨j, rfl, hj, har, hgq⟩ := hrel
        have hab := HAB.out
        have c16 : wr.cell? ⟨w.heap.size, 5, none⟩ = some (.slice (some xa) f.acl.length ca) := hgq.cell c15 (by simp; omega)
        by_cases hlt : j < f.acl.length
        · have hji : (j : Int) < (f.acl.length : Int) := by omega
          obtain ⟨g, o, hxa, hg, hrng⟩ := HC.out (by omega)
          cases hxa
          have hr := hrng j hlt
          have hw : ∀ k u, w.cell? ⟨g, o + j * 3 + k, none⟩ = some u → wr.cell? ⟨g, o + j * 3 + k, none⟩ = some u := fun k u hu => hgq.cell ((hBV1.cell (p := ⟨g, o + j * 3 + k, none⟩) (by show g < _; omega)).trans ((hBV.cell (p := ⟨g, o + j * 3 + k, none⟩) (by show g < _; omega)).trans hu)) (by simp; omega)
          have d0 : wr.cell? ⟨g, o + j * 3, none⟩ = some (.int .i32 f.acl[j].p) := hw 0 _ (hr 0 _ rfl)
          have d1 : wr.cell? ⟨g, o + j * 3 + 1, none⟩ = some (.string f.acl[j].s) := hw 1 _ (hr 1 _ rfl)
          have d2 : wr.cell? ⟨g, o + j * 3 + 2, none⟩ = some (.string f.acl[j].i) := hw 2 _ (hr 2 _ rfl)
          obtain ⟨fr, hrow, hrows⟩ := id har
          have r0 := hrow.cell (i := j * 3) (by omega)
          have r1 := hrow.cell (i := j * 3 + 1) (by omega)
          have r2 := hrow.cell (i := j * 3 + 2) (by omega)
          have z0 := hrow.frozen (j * 3)
          have z1 := hrow.frozen (j * 3 + 1)
          have z2 := hrow.frozen (j * 3 + 2)
          have HAR : Hid (ARow wr AB f.acl j) := har
          have HGQ : Hid (V1.grownBy wr (some AB)) := hgq
          obtain ⟨al, hal⟩ : ∃ al, al = f.acl[j] := ⟨_, rfl⟩
          rw [← hal] at d0 d1 d2
          have HAL : Hid (al = f.acl[j]) := hal
          clear hw hr hrng hrow hrows har hgq hal hab
          go_wp2_with fail
          go_region
          all_goals
            go_wp2_with fail
            exact acl_up HAR.out HGQ.out hlt HAL.out
        · obtain rfl : j = f.acl.length := by omega
          have HFIN : Hid (AclP (fun b => V.heap.size ≤ b ∧ b < wr.heap.size) wr (.slice (some ⟨AB, 0, none⟩) f.acl.length f.acl.length) f.acl) := ⟨_, _, rfl, fun _ => ⟨AB, 0, rfl, ⟨by omega, by have := hgq.size; omega⟩, fun j hj => har.range j hj⟩⟩
          have HB2 : Hid (Below V.heap.size V wr) := hBV1.grown hgq (by omega) (by intro k hk; cases hk; omega)
          clear har hgq hab
          go_wp2_with fail
          go_meet
          exact ⟨HFIN.out, HB2.out⟩
  case rest =>
    obtain ⟨hacl, hB1⟩ := hcut
    have HACL : Hid (AclP (fun b => V.heap.size ≤ b ∧ b < wc.heap.size) wc u3 f.acl) := hacl
    obtain ⟨a3, c3, rfl, _⟩ := hacl
    have hs1 := hB1.size
    have cb12 : wc.cell? ⟨w.heap.size, 12, none⟩ = some (.slice ak' ks.length ck) := (hB1.cell (p := ⟨w.heap.size, 12, none⟩) (by show w.heap.size < _; omega)).trans (heap_cell hXb 12)
    clear cb5
    go_upto_if 47 with fail
    obtain ⟨W1, hW1⟩ : ∃ W1, W1 = wc := ⟨_, rfl⟩
    rw [← hW1] at HACL hB1 hs1 cb12 ⊢
    clear hW1
    go_cut [5] from 6 (fun v5 wx => IsSl v5 ∧ Below W1.heap.size W1 wx)
    case first =>
      cases ak' with
      | none =>
        go_wp2_with fail
        go_meet
        exact ⟨⟨_, _, _, rfl⟩, Below.refl _ _⟩
      | some xk =>
        obtain ⟨arr, hasz, hmk⟩ := mk_rows (t := 35) Try.underlying35 Try.info54 ks.length (by omega) (by omega)
        go_wp2_with fail
        obtain ⟨f0, hf0⟩ := row_any W1 arr 54
        rw [hasz] at hf0
        obtain ⟨V1, hV1, _, hBV1, hVs1⟩ := box_ex W1 (.cells arr 54)
        rw [hV1] at hf0 ⊢
        clear hV1 hmk
        have c15 := (hBV1.cell (p := ⟨w.heap.size, 12, none⟩) (by show w.heap.size < _; omega)).trans cb12
        obtain ⟨AB, hAB⟩ : ∃ AB, AB = W1.heap.size := ⟨_, rfl⟩
        have HAB : Hid (AB = W1.heap.size) := hAB
        rw [← hAB] at hf0 ⊢
        clear hAB
        go_loopw [6] (fun vj wq => ∃ j : Nat, vj = .int .i64 j ∧ j ≤ ks.length ∧ KRow wq AB ks.length ∧ V1.grownBy wq (some AB)) (fun vj _ => ks.length - (intOf vj).toNat)
        case atStart => exact ⟨0, rfl, by omega, ⟨f0, hf0⟩, ⟨rfl, rfl, rfl, Nat.le_refl _, fun _ _ _ => rfl⟩⟩
        case round =>
          obtain ⟨j, rfl, hj, har, hgq⟩ := hrel
          have hab := HAB.out
          have c16 : wr.cell? ⟨w.heap.size, 12, none⟩ = some (.slice (some xk) ks.length ck) := hgq.cell c15 (by simp; omega)
          by_cases hlt : j < ks.length
          · have hji : (j : Int) < (ks.length : Int) := by omega
            obtain ⟨g, o, hxa, hg, hrng⟩ := HK.out (by omega)
            cases hxa
            have hr := hrng j hlt
            have hw : ∀ k u, w.cell? ⟨g, o + j * 2 + k, none⟩ = some u → wr.cell? ⟨g, o + j * 2 + k, none⟩ = some u := fun k u hu => hgq.cell ((hBV1.cell (p := ⟨g, o + j * 2 + k, none⟩) (by show g < _; omega)).trans ((hB1.cell (p := ⟨g, o + j * 2 + k, none⟩) (by show g < _; omega)).trans ((hBV.cell (p := ⟨g, o + j * 2 + k, none⟩) (by show g < _; omega)).trans hu))) (by simp; omega)
            have d0 : wr.cell? ⟨g, o + j * 2, none⟩ = some (.string ks[j].1) := hw 0 _ (hr 0 _ rfl)
            have d1 : wr.cell? ⟨g, o + j * 2 + 1, none⟩ = some (.string ks[j].2) := hw 1 _ (hr 1 _ rfl)
            obtain ⟨fr, hrow⟩ := id har
            have r0 := hrow.cell (i := j * 2) (by omega)
            have r1 := hrow.cell (i := j * 2 + 1) (by omega)
            have z0 := hrow.frozen (j * 2)
            have z1 := hrow.frozen (j * 2 + 1)
            have HAR : Hid (KRow wr AB ks.length) := har
            have HGQ : Hid (V1.grownBy wr (some AB)) := hgq
            clear hw hr hrng hrow har hgq hab
            go_wp2_with fail
            go_region
            all_goals
              go_wp2_with fail
              exact ask_up HAR.out HGQ.out hlt
          · obtain rfl : j = ks.length := by omega
            have HB2 : Hid (Below W1.heap.size W1 wr) := hBV1.grown hgq (by omega) (by intro k hk; cases hk; omega)
            clear har hgq hab
            go_wp2_with fail
            go_meet
            exact ⟨⟨_, _, _, rfl⟩, HB2.out⟩
    case rest =>
      obtain ⟨⟨a5, n5, c5, rfl⟩, hB2⟩ := hcut
      have hs2 := hB2.size
      have cb10 : wc.cell? ⟨w.heap.size, 10, none⟩ = some (.slice ao fs.length co) := (hB2.cell (p := ⟨w.heap.size, 10, none⟩) (by show w.heap.size < _; omega)).trans ((hB1.cell (p := ⟨w.heap.size, 10, none⟩) (by show w.heap.size < _; omega)).trans (heap_cell hXb 10))
      go_upto_if 77 with fail
      obtain ⟨W2, hW2⟩ : ∃ W2, W2 = wc := ⟨_, rfl⟩
      rw [← hW2] at hB2 hs2 cb10 ⊢
      clear hW2
      go_cut [7] from 8 (fun v7 wx => OpsP (fun b => b < n₀ ∨ (W2.heap.size ≤ b ∧ b < wx.heap.size)) wx v7 fs ∧ Below W2.heap.size W2 wx)
      case first =>
        cases ao with
        | none =>
          have hl0 : fs.length = 0 := by
            rcases Nat.eq_zero_or_pos fs.length with h | h
            · exact h
            · obtain ⟨g, o, h, _⟩ := HO.out h; cases h
          have HFIN : Hid (OpsP (fun b => b < n₀ ∨ (W2.heap.size ≤ b ∧ b < W2.heap.size)) W2 (.slice none 0 0) fs) := ⟨none, 0, by rw [hl0], fun h => by omega⟩
          clear hl0
          go_wp2_with fail
          go_meet
          exact ⟨HFIN.out, Below.refl _ _⟩
        | some xo =>
          obtain ⟨arr, hasz, hmk⟩ := mk_rows (t := 34) Try.underlying34 Try.info37 fs.length (by omega) (by omega)
          go_wp2_with fail
          obtain ⟨f0, hf0⟩ := row_any W2 arr 37
          rw [hasz] at hf0
          obtain ⟨V1, hV1, _, hBV1, hVs1⟩ := box_ex W2 (.cells arr 37)
          rw [hV1] at hf0 ⊢
          clear hV1 hmk
          have c15 := (hBV1.cell (p := ⟨w.heap.size, 10, none⟩) (by show w.heap.size < _; omega)).trans cb10
          obtain ⟨AB, hAB⟩ : ∃ AB, AB = W2.heap.size := ⟨_, rfl⟩
          have HAB : Hid (AB = W2.heap.size) := hAB
          rw [← hAB] at hf0 ⊢
          clear hAB
          go_loopw [8] (fun vj wq => ∃ j : Nat, vj = .int .i64 j ∧ j ≤ fs.length ∧ ORow n₀ wq AB fs j ∧ V1.grownBy wq (some AB)) (fun vj _ => fs.length - (intOf vj).toNat)
          case atStart => exact ⟨0, rfl, by omega, ⟨f0, hf0, fun j' _ h => by omega⟩, ⟨rfl, rfl, rfl, Nat.le_refl _, fun _ _ _ => rfl⟩⟩
          case round =>
            obtain ⟨j, rfl, hj, har, hgq⟩ := hrel
            have hab := HAB.out
            have c16 : wr.cell? ⟨w.heap.size, 10, none⟩ = some (.slice (some xo) fs.length co) := hgq.cell c15 (by simp; omega)
            by_cases hlt : j < fs.length
            · have hji : (j : Int) < (fs.length : Int) := by omega
              obtain ⟨g, o, hxa, hg, hrng⟩ := HO.out (by omega)
              cases hxa
              obtain ⟨cs1, gs1, hin1, hr⟩ := hrng j hlt (by omega)
              have hBn : Below n₀ w wr := ⟨hgq.os.trans (hBV1.os.trans (hB2.os.trans (hB1.os.trans hBV.os))), hgq.tape.trans (hBV1.tape.trans (hB2.tape.trans (hB1.tape.trans hBV.tape))), hgq.output.trans (hBV1.output.trans (hB2.output.trans (hB1.output.trans hBV.output))), by have := hgq.size; omega, fun b hb => (hgq.block b (by omega) (by intro e; cases e; omega)).trans ((hBV1.block b (by omega)).trans ((hB2.block b (by omega)).trans ((hB1.block b (by omega)).trans (hBV.block b (by omega)))))⟩
              have hw : ∀ k u, w.cell? ⟨g, o + j * 14 + k, none⟩ = some u → wr.cell? ⟨g, o + j * 14 + k, none⟩ = some u := fun k u hu => (hBn.cell (p := ⟨g, o + j * 14 + k, none⟩) hg).trans hu
              have HIN : Hid (In d n₀ wr cs1 fs[j] gs1 ts[j]) := In.below hin1 hBn
              obtain ⟨ad1, aa1, ap1, ao1, ak1', cd1, ca1, cp1, co1, ck1, ks1, ak1, hcs1⟩ := In.form hin1
              have htj : ts[j] ≤ 1048576 := by
                have h1 := numS_le ts (j + 1)
                rw [numS_succ (by omega)] at h1
                omega
              obtain ⟨fj, hfj⟩ : ∃ fj, fj = fs[j] := ⟨_, rfl⟩
              rw [← hfj] at HIN hcs1
              rw [hcs1] at HIN hr
              have HFE : Hid (fj = fs[j]) := hfj
              have HTJ : Hid (ts[j] ≤ 1048576) := htj
              simp only [cells14] at HIN hr
              have d0 : wr.cell? ⟨g, o + j * 14, none⟩ = some (.int .u64 fj.zx) := hw 0 _ (hr 0 _ rfl)
              have d1 : wr.cell? ⟨g, o + j * 14 + 1, none⟩ = some (.int .i64 fj.tm) := hw 1 _ (hr 1 _ rfl)
              have d2 : wr.cell? ⟨g, o + j * 14 + 2, none⟩ = some (.int .i32 fj.op) := hw 2 _ (hr 2 _ rfl)
              have d3 : wr.cell? ⟨g, o + j * 14 + 3, none⟩ = some (.string fj.path) := hw 3 _ (hr 3 _ rfl)
              have d4 : wr.cell? ⟨g, o + j * 14 + 4, none⟩ = some (.slice ad1 (lenO fj.data) cd1) := hw 4 _ (hr 4 _ rfl)
              have d5 : wr.cell? ⟨g, o + j * 14 + 5, none⟩ = some (.slice aa1 fj.acl.length ca1) := hw 5 _ (hr 5 _ rfl)
              have d6 : wr.cell? ⟨g, o + j * 14 + 6, none⟩ = some (.int .i32 fj.ver) := hw 6 _ (hr 6 _ rfl)
              have d7 : wr.cell? ⟨g, o + j * 14 + 7, none⟩ = some (.int .i64 fj.ses) := hw 7 _ (hr 7 _ rfl)
              have d8 : wr.cell? ⟨g, o + j * 14 + 8, none⟩ = some (.int .i32 fj.tmo) := hw 8 _ (hr 8 _ rfl)
              have d9 : wr.cell? ⟨g, o + j * 14 + 9, none⟩ = some (.slice ap1 (lenO fj.pw) cp1) := hw 9 _ (hr 9 _ rfl)
              have d10 : wr.cell? ⟨g, o + j * 14 + 10, none⟩ = some (.slice ao1 gs1.length co1) := hw 10 _ (hr 10 _ rfl)
              have d11 : wr.cell? ⟨g, o + j * 14 + 11, none⟩ = some (.bool fj.seq) := hw 11 _ (hr 11 _ rfl)
              have d12 : wr.cell? ⟨g, o + j * 14 + 12, none⟩ = some (.slice ak1' ks1.length ck1) := hw 12 _ (hr 12 _ rfl)
              have d13 : wr.cell? ⟨g, o + j * 14 + 13, none⟩ = some (.int .i64 ak1) := hw 13 _ (hr 13 _ rfl)
              have HAR : Hid (ORow n₀ wr AB fs j) := har
              have HGQ : Hid (V1.grownBy wr (some AB)) := hgq
              have hgs := hgq.size
              have hnw : n₀ ≤ wr.heap.size := by omega
              have hABl : AB < wr.heap.size := by omega
              clear hin1 hcs1 hfj hrng hw hr har hgq hab htj
              go_wp2_with fail
              refine (IH.out _ fj gs1 _ wr HIN.out HTJ.out hnw).mono ?_
              rintro e w6 ⟨cs6, rfl, htp6, hB6⟩
              have HFL : Hid (FlP (fun b => b < n₀ ∨ (wr.heap.size ≤ b ∧ b < w6.heap.size)) w6 cs6 fj) := htp6.fl
              have HB6 : Hid (Below wr.heap.size wr w6) := hB6
              have HTH : Hid (w6.there AB (j * 14) cs6.toArray.size) := by
                obtain ⟨fr, hrow, _⟩ := HAR.out
                rw [List.size_toArray, FlP.len HFL.out]
                exact row_there (hrow.of_block (hB6.block AB hABl)) (by omega)
              have HSZ : Hid ((Try.prog.info? 37).map (·.size) = some cs6.toArray.size) := by show _ = _; rw [List.size_toArray, FlP.len HFL.out]; kernel_rfl
              have HON : Hid (cs6.toArray.all (·.oneCell') = true) := all_oneCell_toArray (FlP.one HFL.out)
              clear htp6 hB6
              go_wp2_with (refine wpList_store_mid rfl 37 (.tmp 97) (.tmp 96) rfl AB (j * 14) cs6.toArray rfl rfl HTH.out HSZ.out HON.out ?_)
              refine ⟨⟨j + 1, rfl, by omega, ORow.next HAR.out hlt (by have := HAB.out; omega) hABl HB6.out (by rw [← HFE.out]; exact HFL.out), sets_grown _ _ _ (grown_below HGQ.out HB6.out)⟩, meas hlt⟩
            · obtain rfl : j = fs.length := by omega
              have hgs := hgq.size
              have HFIN : Hid (OpsP (fun b => b < n₀ ∨ (W2.heap.size ≤ b ∧ b < wr.heap.size)) wr (.slice (some ⟨AB, 0, none⟩) fs.length fs.length) fs) := har.done (by omega) (by omega)
              have HB3 : Hid (Below W2.heap.size W2 wr) := hBV1.grown hgq (by omega) (by intro k hk; cases hk; omega)
              clear har hgq hab
              go_wp2_with fail
              go_meet
              exact ⟨HFIN.out, HB3.out⟩
      case rest =>
        obtain ⟨hops3, hB3⟩ := hcut
        have HOP3 : Hid (OpsP (fun b => b < n₀ ∨ (W2.heap.size ≤ b ∧ b < wc.heap.size)) wc u7 fs) := hops3
        obtain ⟨a7, c7, rfl, _⟩ := hops3
        have hs3 := hB3.size
        have hBc : ∀ b, b < V.heap.size → wc.heap[b]? = V.heap[b]? := fun b hb => (hB3.block b (by omega)).trans ((hB2.block b (by omega)).trans (hB1.block b hb))
        have hXb3 := (hBc w.heap.size (by omega)).trans hXb
        have hXr3 := (hBc (w.heap.size + 1) (by omega)).trans hXr
        have b0 : wc.cell? ⟨w.heap.size, 0, none⟩ = some (.int .u64 f.zx) := heap_cell hXb3 0
        have b1 : wc.cell? ⟨w.heap.size, 1, none⟩ = some (.int .i64 f.tm) := heap_cell hXb3 1
        have b2 : wc.cell? ⟨w.heap.size, 2, none⟩ = some (.int .i32 f.op) := heap_cell hXb3 2
        have b3 : wc.cell? ⟨w.heap.size, 3, none⟩ = some (.string f.path) := heap_cell hXb3 3
        have b4 : wc.cell? ⟨w.heap.size, 4, none⟩ = some (.slice ad (lenO f.data) cd) := heap_cell hXb3 4
        have b5 : wc.cell? ⟨w.heap.size, 5, none⟩ = some (.slice aa f.acl.length ca) := heap_cell hXb3 5
        have b6 : wc.cell? ⟨w.heap.size, 6, none⟩ = some (.int .i32 f.ver) := heap_cell hXb3 6
        have b7 : wc.cell? ⟨w.heap.size, 7, none⟩ = some (.int .i64 f.ses) := heap_cell hXb3 7
        have b8 : wc.cell? ⟨w.heap.size, 8, none⟩ = some (.int .i32 f.tmo) := heap_cell hXb3 8
        have b9 : wc.cell? ⟨w.heap.size, 9, none⟩ = some (.slice ap (lenO f.pw) cp) := heap_cell hXb3 9
        have b10 : wc.cell? ⟨w.heap.size, 10, none⟩ = some (.slice ao fs.length co) := heap_cell hXb3 10
        have b11 : wc.cell? ⟨w.heap.size, 11, none⟩ = some (.bool f.seq) := heap_cell hXb3 11
        have b12 : wc.cell? ⟨w.heap.size, 12, none⟩ = some (.slice ak' ks.length ck) := heap_cell hXb3 12
        have b13 : wc.cell? ⟨w.heap.size, 13, none⟩ = some (.int .i64 ak) := heap_cell hXb3 13
        obtain ⟨fr, hrow⟩ := row_of_block hXr3
        have HROW : Hid (wc.rowIs (w.heap.size + 1) 37 14 fr) := hrow
        have HTH : Hid (wc.there (w.heap.size + 1) 0 (cells14 f (.slice ad (lenO f.data) cd) (.slice a3 f.acl.length c3) (.slice ap (lenO f.pw) cp) (.slice a7 fs.length c7) (.slice a5 n5 c5) ak).toArray.size) := row_there HROW.out (Nat.le_refl _)
        clear hXb3 hXr3 hrow
        have HSZ : Hid ((Try.prog.info? 37).map (·.size) = some (cells14 f (.slice ad (lenO f.data) cd) (.slice a3 f.acl.length c3) (.slice ap (lenO f.pw) cp) (.slice a7 fs.length c7) (.slice a5 n5 c5) ak).toArray.size) := size37
        have HON : Hid ((cells14 f (.slice ad (lenO f.data) cd) (.slice a3 f.acl.length c3) (.slice ap (lenO f.pw) cp) (.slice a7 fs.length c7) (.slice a5 n5 c5) ak).toArray.all (·.oneCell') = true) := cells14_one f ad a3 ap a7 a5 _ _ _ _ _ _ _ _ _ _ ak
        go_wp2_with (refine wpList_store_mid rfl 37 (.tmp 2) (.tmp 123) rfl (w.heap.size + 1) 0 (cells14 f (.slice ad (lenO f.data) cd) (.slice a3 f.acl.length c3) (.slice ap (lenO f.pw) cp) (.slice a7 fs.length c7) (.slice a5 n5 c5) ak).toArray rfl rfl HTH.out HSZ.out HON.out ?_)
        try simp only [Exit.inBlock, Exit.then]
        refine bodyPost_ret (results_cell_row (P := Try.prog) rfl _ _ (w.heap.size + 1) 37 (cells14 f (.slice ad (lenO f.data) cd) (.slice a3 f.acl.length c3) (.slice ap (lenO f.pw) cp) (.slice a7 fs.length c7) (.slice a5 n5 c5) ak).toArray (0, 0) _ rfl (sets_all HROW.out) Try.underlying37 rfl HSZ.out) rfl ?_
        have hfin := to_close (ak := ak) (vk := .slice a5 n5 c5) hn hBV hVs hB1 hB2 hB3 HVD.out HVP.out HACL.out HOP3.out ⟨_, _, _, rfl⟩
        exact ⟨_, rfl, hfin.1, hfin.2⟩

theorem toTxn_any : ∀ (d n₀ : Nat) (cs : List Value) (f : Fd) (fs : List Fd) (t : Nat) (w : World), In d n₀ w cs f fs t → t ≤ 1048576 → n₀ ≤ w.heap.size → Calls Try.prog 6 #[.agg cs.toArray] w (ToEnd n₀ f fs w)
  | 0, _, _, _, _, _, _, h, _, _ => h.elim
  | d + 1, n₀, cs, f, fs, t, w, h, htb, hn => to_step d n₀ (fun cs f fs t w => toTxn_any d n₀ cs f fs t w) cs f fs t w h htb hn

end Go.Proofs.Qxb6609425a
