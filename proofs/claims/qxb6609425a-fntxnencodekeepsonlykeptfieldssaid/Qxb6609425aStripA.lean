/-
  stripped at a change that is no multi.
-/
import Derived.Test.Qxb6609425aStrip
namespace Go.Proofs.Qxb6609425a
open Go.RowKit
set_option linter.unusedSimpArgs false
set_option linter.unusedVariables false

set_option maxRecDepth 100000 in
set_option maxHeartbeats 16000000 in
theorem strip_no (d n₀ : Nat) (cs : List Value) (f : Fd) (fs : List Fd) (t : Nat) (w : World) (h : In (d + 1) n₀ w cs f fs t) (htb : t ≤ 1048576) (hn : n₀ ≤ w.heap.size) (hop : f.op ≠ 14) : Calls Try.prog 7 #[.agg cs.toArray] w (StripEnd f fs w) := by
  obtain ⟨vd, va, vp, vk, ak, ks, ao, co, ts, rfl, hvd, hva, hvp, hvk, hlim, htl, ht, hops⟩ := h
  obtain ⟨ad, cd, rfl⟩ := hvd.slice
  have HVA : Hid (AclV n₀ w va f.acl) := hva
  obtain ⟨aa, ca, rfl, hcells⟩ := hva
  obtain ⟨ap, cp, rfl⟩ := hvp.slice
  obtain ⟨ak', ck, rfl, hask⟩ := hvk
  have hnil25 := fun (a : Option Addr) (l c : Nat) (w : World) => run_neq_nil' w 25 28 a l c 0 0 Try.underlying25
  have HO : Hid (0 < fs.length → ∃ g o, ao = some ⟨g, o, none⟩ ∧ g < n₀ ∧ ∀ j (h : j < fs.length) (h' : j < ts.length), ∃ cs gs, In d n₀ w cs fs[j] gs ts[j] ∧ w.rangeAt g (o + j * 14) cs) := hops
  have HVD : Hid (ByteV n₀ w (.slice ad (lenO f.data) cd) f.data) := hvd
  have HVP : Hid (ByteV n₀ w (.slice ap (lenO f.pw) cp) f.pw) := hvp
  have HT : Hid (t = own0 f ks.length fs.length + aclS f.acl f.acl.length + askS ks ks.length + numS ts ts.length) := ht
  have HL : Hid (Lim f ks fs.length) := hlim
  clear hvd hvp hcells hask hops ht hlim
  simp only [cells14] at *
  go_enter Try.func7, Try.ntmps7
  have HVN : Hid (f.acl.length = 0 → AclV n₀ w (.slice none 0 0) f.acl) := fun h => ⟨none, 0, by rw [h], fun h' => by omega⟩
  have HSM : Hid (∀ no', no' ≤ fs.length → own0 f 0 no' + aclS f.acl f.acl.length + numS (fs.map wt) no' ≤ 1048576) := fun no' h => by
    have h1 := numS_map_le (ts := ts) htl (fun j hj hj' => by
      obtain ⟨g, o, _, _, h⟩ := HO.out (by omega)
      obtain ⟨cs, gs, h, _⟩ := h j hj hj'
      exact h.ge) no' h
    have h2 := numS_le ts no'
    have h3 := HT.out
    have h4 : own0 f 0 no' ≤ own0 f ks.length fs.length := by unfold own0; omega
    omega
  have hopb : (f.op == 14) = false := by simp [hop]
  have HOP : Hid (f.op ≠ 14) := hop
  clear hop
  by_cases hac : f.acl.length = 0
  · have hacb : ((f.acl.length : Int) == 0) = true := by simp [hac]
    have HAC : Hid (f.acl.length = 0) := hac
    clear hac
    go_wp2_with fail
    try simp only [Exit.inBlock, Exit.then]
    have h3 := three w (.cells #[.int .u64 f.zx, .int .i64 f.tm, .int .i32 f.op, .string f.path, .slice ad (lenO f.data) cd, .slice aa f.acl.length ca, .int .i32 f.ver, .int .i64 f.ses, .int .i32 f.tmo, .slice ap (lenO f.pw) cp, .slice ao fs.length co, .bool f.seq, .slice ak' ks.length ck, .int .i64 ak] 28) (.cells (cells14 f.bare (.slice ad (lenO f.data) cd) (.slice none 0 0) (.slice ap (lenO f.pw) cp) (.slice none 0 0) (.slice none 0 0) 0).toArray 28) (.cells (cells14 f.bare (.slice ad (lenO f.data) cd) (.slice none 0 0) (.slice ap (lenO f.pw) cp) (.slice none 0 0) (.slice none 0 0) 0).toArray 28)
    refine bodyPost_ret (results_cell_row (P := Try.prog) rfl _ _ (w.heap.size + 1) 28 (cells14 f.bare (.slice ad (lenO f.data) cd) (.slice none 0 0) (.slice ap (lenO f.pw) cp) (.slice none 0 0) (.slice none 0 0) 0).toArray (0, 0) _ rfl h3.1 Try.underlying28 rfl size28) rfl ?_
    obtain ⟨t', hin, ht'⟩ := strip_in [] none 0 HVD.out (HVN.out HAC.out) HVP.out HL.out h3.2.1 hn (by simp) (HSM.out 0 (Nat.zero_le _)) (fun h => by simp at h)
    exact ⟨_, t', rfl, by rw [if_neg HOP.out]; exact hin, ht', h3.2.1⟩
  · have hacb : ((f.acl.length : Int) == 0) = false := beq_eq_false_iff_ne.2 (by omega)
    clear hac
    go_wp2_with fail
    try simp only [Exit.inBlock, Exit.then]
    have h3 := three w (.cells #[.int .u64 f.zx, .int .i64 f.tm, .int .i32 f.op, .string f.path, .slice ad (lenO f.data) cd, .slice aa f.acl.length ca, .int .i32 f.ver, .int .i64 f.ses, .int .i32 f.tmo, .slice ap (lenO f.pw) cp, .slice ao fs.length co, .bool f.seq, .slice ak' ks.length ck, .int .i64 ak] 28) (.cells (cells14 f.bare (.slice ad (lenO f.data) cd) (.slice aa f.acl.length ca) (.slice ap (lenO f.pw) cp) (.slice none 0 0) (.slice none 0 0) 0).toArray 28) (.cells (cells14 f.bare (.slice ad (lenO f.data) cd) (.slice aa f.acl.length ca) (.slice ap (lenO f.pw) cp) (.slice none 0 0) (.slice none 0 0) 0).toArray 28)
    refine bodyPost_ret (results_cell_row (P := Try.prog) rfl _ _ (w.heap.size + 1) 28 (cells14 f.bare (.slice ad (lenO f.data) cd) (.slice aa f.acl.length ca) (.slice ap (lenO f.pw) cp) (.slice none 0 0) (.slice none 0 0) 0).toArray (0, 0) _ rfl h3.1 Try.underlying28 rfl size28) rfl ?_
    obtain ⟨t', hin, ht'⟩ := strip_in [] none 0 HVD.out HVA.out HVP.out HL.out h3.2.1 hn (by simp) (HSM.out 0 (Nat.zero_le _)) (fun h => by simp at h)
    exact ⟨_, t', rfl, by rw [if_neg HOP.out]; exact hin, ht', h3.2.1⟩


end Go.Proofs.Qxb6609425a
