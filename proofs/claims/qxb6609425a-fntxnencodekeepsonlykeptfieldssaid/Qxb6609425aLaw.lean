/-
  The law: FnTxnEncodeKeepsOnlyKeptFields, the contracts of toTxn and stripped laid as premises.
-/
import Derived.Test.Qxb6609425aLaw0
namespace Go.Proofs.Qxb6609425a
open Go.RowKit
set_option linter.unusedSimpArgs false
set_option linter.unusedVariables false

/-- toTxn's contract. -/
def ToC : Prop := ∀ (d n₀ : Nat) (cs : List Value) (f : Fd) (fs : List Fd) (t : Nat) (w : World), In d n₀ w cs f fs t → t ≤ 1048576 → n₀ ≤ w.heap.size →
  Calls Try.prog 6 #[.agg cs.toArray] w fun e w' => ∃ cs, e = .returned (.agg cs.toArray) ∧ TpP (fun b => b < n₀ ∨ (w.heap.size ≤ b ∧ b < w'.heap.size)) w' cs f fs ∧ Below w.heap.size w w'
/-- stripped's contract. -/
def StC : Prop := ∀ (d n₀ : Nat) (cs : List Value) (f : Fd) (fs : List Fd) (t : Nat) (w : World), In (d + 1) n₀ w cs f fs t → t ≤ 1048576 → n₀ ≤ w.heap.size → Calls Try.prog 7 #[.agg cs.toArray] w (StripEnd f fs w)

/-- toTxn and encodeTxn in one. -/
theorem Buf.kept {n₀ n₁ : Nat} {W W' : World} {v : Value} {xs : List Value} (h : Buf n₀ W v xs) (hb : Below n₁ W W') (hn : W.heap.size ≤ n₁) : Buf n₀ W' v xs :=
  World.ownsRow.kept h (row := none) ⟨hb.os, hb.tape, hb.output, hb.size, fun k hk _ => hb.block k (by omega)⟩ (by cases hv : v.ownBlock <;> simp)

theorem In.fl {d n₀ : Nat} {W : World} {cs : List Value} {f : Fd} {fs : List Fd} {t : Nat} (h : In d n₀ W cs f fs t) : Fl n₀ W cs f := by
  cases d with
  | zero => exact h.elim
  | succ d =>
    obtain ⟨vd, va, vp, vk, ak, ks, ao, co, ts, h1, h2, h3, h4, ⟨a, c, h5, _⟩, _⟩ := h
    exact ⟨vd, va, vp, _, vk, ak, h1, h2, h3, h4, ⟨_, _, _, rfl⟩, ⟨_, _, _, h5⟩⟩

theorem In.ops {d n₀ : Nat} {W : World} {f : Fd} {fs : List Fd} {t : Nat} {vd va vp vk : Value} {ao : Option Addr} {n co : Nat} {ak : Int} (h : In d n₀ W (cells14 f vd va vp (.slice ao n co) vk ak) f fs t) :
    0 < fs.length → ∃ g o, ao = some ⟨g, o, none⟩ ∧ g < n₀ ∧ ∀ j (h : j < fs.length), ∃ cs, Fl n₀ W cs fs[j] ∧ W.rangeAt g (o + j * 14) cs := by
  cases d with
  | zero => exact h.elim
  | succ d =>
    obtain ⟨vd', va', vp', vk', ak', ks, ao', co', ts, h1, _, _, _, _, _, htl, _, hops⟩ := h
    intro hp
    obtain ⟨g, o, e1, e2, e3⟩ := hops hp
    simp only [cells14, List.cons.injEq, Value.slice.injEq] at h1
    have hao : ao = ao' := by simp_all
    refine ⟨g, o, hao.trans e1, e2, fun j hj => ?_⟩
    obtain ⟨cs, gs, e4, e5⟩ := e3 j hj (by omega)
    exact ⟨cs, e4.fl, e5⟩

theorem encb_irrel {f : Fd} (h : f.op ≠ 14) (r r' : Bool) (fs : List Fd) : encb r f fs = encb r' f fs := by
  unfold encb opsb
  rw [if_neg h, if_neg h]

def LawEnd (w : World) (e : Ending) (w' : World) : Prop := e = .returned (.bool true) ∧ Below w.heap.size w w'

set_option maxRecDepth 100000 in
set_option maxHeartbeats 16000000 in
theorem law_of (HTo : ToC) (HSt : StC) (d n₀ : Nat) (cs : List Value) (f : Fd) (fs : List Fd) (t : Nat) (req : Bool) (w : World) (h : In d n₀ w cs f fs t) (hg : Good f) (hgs : ∀ g ∈ fs, Good g) (hn : n₀ ≤ w.heap.size) :
    Calls Try.prog 3 #[.agg cs.toArray, .bool req] w (LawEnd w) := by
  have HIN : Hid (In d n₀ w cs f fs t) := h
  obtain ⟨ad, aa, ap, ao, ak', cd, ca, cp, co, ck, ks, ak, rfl⟩ := h.form
  have HT : Hid ToC := HTo
  have HS : Hid StC := HSt
  have HG : Hid (Good f ∧ ∀ g ∈ fs, Good g) := ⟨hg, hgs⟩
  clear h HTo HSt hg hgs
  simp only [cells14] at HIN ⊢
  go_enter Try.func3, Try.ntmps3
  go_wp2_with fail
  obtain ⟨V, hV, hXV, hBV, hVs⟩ := box_ex w (.cells #[.int .u64 f.zx, .int .i64 f.tm, .int .i32 f.op, .string f.path, .slice ad (lenO f.data) cd, .slice aa f.acl.length ca, .int .i32 f.ver, .int .i64 f.ses, .int .i32 f.tmo, .slice ap (lenO f.pw) cp, .slice ao fs.length co, .bool f.seq, .slice ak' ks.length ck, .int .i64 ak] 28)
  rw [hV]
  clear hV
  have h4 := txnBytes_any d n₀ _ f fs t 0 V (In.below HIN.out (hBV.mono hn)) (by omega)
  rw [show sat 0 = 0 from rfl, Nat.zero_add] at h4
  refine h4.mono ?_
  clear h4
  rintro e w1 ⟨rfl, hB1⟩
  have hs1 := hB1.size
  by_cases ht : t ≤ 1048576
  case neg =>
    rw [sat_big (by omega)]
    go_wp2_with fail
    go_ret
    exact ⟨rfl, hBV.trans (hB1.mono (by omega))⟩
  have hti : decide ((1048576 : Int) < ((sat t : Nat) : Int)) = false := by rw [sat_small ht]; simp; omega
  have hX1 := (hB1.block w.heap.size hVs).trans hXV
  have a0 : w1.cell? ⟨w.heap.size, 0, none⟩ = some (.int .u64 f.zx) := heap_cell hX1 0
  have a1 : w1.cell? ⟨w.heap.size, 1, none⟩ = some (.int .i64 f.tm) := heap_cell hX1 1
  have a2 : w1.cell? ⟨w.heap.size, 2, none⟩ = some (.int .i32 f.op) := heap_cell hX1 2
  have a3 : w1.cell? ⟨w.heap.size, 3, none⟩ = some (.string f.path) := heap_cell hX1 3
  have a4 : w1.cell? ⟨w.heap.size, 4, none⟩ = some (.slice ad (lenO f.data) cd) := heap_cell hX1 4
  have a5 : w1.cell? ⟨w.heap.size, 5, none⟩ = some (.slice aa f.acl.length ca) := heap_cell hX1 5
  have a6 : w1.cell? ⟨w.heap.size, 6, none⟩ = some (.int .i32 f.ver) := heap_cell hX1 6
  have a7 : w1.cell? ⟨w.heap.size, 7, none⟩ = some (.int .i64 f.ses) := heap_cell hX1 7
  have a8 : w1.cell? ⟨w.heap.size, 8, none⟩ = some (.int .i32 f.tmo) := heap_cell hX1 8
  have a9 : w1.cell? ⟨w.heap.size, 9, none⟩ = some (.slice ap (lenO f.pw) cp) := heap_cell hX1 9
  have a10 : w1.cell? ⟨w.heap.size, 10, none⟩ = some (.slice ao fs.length co) := heap_cell hX1 10
  have a11 : w1.cell? ⟨w.heap.size, 11, none⟩ = some (.bool f.seq) := heap_cell hX1 11
  have a12 : w1.cell? ⟨w.heap.size, 12, none⟩ = some (.slice ak' ks.length ck) := heap_cell hX1 12
  have a13 : w1.cell? ⟨w.heap.size, 13, none⟩ = some (.int .i64 ak) := heap_cell hX1 13
  go_wp2_with fail
  refine (HT.out d n₀ _ f fs t w1 (In.below HIN.out ((hBV.trans (hB1.mono (by omega))).mono hn)) ht (by omega)).mono ?_
  rintro e w2 ⟨cs2, rfl, htp2, hB2⟩
  clear a0 a1 a2 a3 a4 a5 a6 a7 a8 a9 a10 a11 a12 a13
  have hs2 := hB2.size
  have HFT : Hid (own0 f 0 fs.length + aclS f.acl f.acl.length + numS (fs.map wt) fs.length ≤ 1048576) := In.fits HIN.out ht
  go_wp2_with fail
  refine (encodeTxn_any cs2 f fs req w2 (htp2.toV (fun b hb => by omega)) (fits_of HFT.out)).mono ?_
  rintro e w3 ⟨v3, rfl, hbuf3, hB3⟩
  clear htp2
  have hs3 := hB3.size
  have HBA : Hid (Buf w2.heap.size w3 v3 (encb req f fs)) := hbuf3
  obtain ⟨aA, cA, rfl⟩ := hbuf3.slice
  clear hbuf3
  have hX3 := (hB3.block w.heap.size (by omega)).trans ((hB2.block w.heap.size (by omega)).trans hX1)
  have hBw3 : Below w.heap.size w w3 := ((hBV.trans (hB1.mono (by omega))).trans (hB2.mono (by omega))).trans (hB3.mono (by omega))
  have b0 : w3.cell? ⟨w.heap.size, 0, none⟩ = some (.int .u64 f.zx) := heap_cell hX3 0
  have b1 : w3.cell? ⟨w.heap.size, 1, none⟩ = some (.int .i64 f.tm) := heap_cell hX3 1
  have b2 : w3.cell? ⟨w.heap.size, 2, none⟩ = some (.int .i32 f.op) := heap_cell hX3 2
  have b3 : w3.cell? ⟨w.heap.size, 3, none⟩ = some (.string f.path) := heap_cell hX3 3
  have b4 : w3.cell? ⟨w.heap.size, 4, none⟩ = some (.slice ad (lenO f.data) cd) := heap_cell hX3 4
  have b5 : w3.cell? ⟨w.heap.size, 5, none⟩ = some (.slice aa f.acl.length ca) := heap_cell hX3 5
  have b6 : w3.cell? ⟨w.heap.size, 6, none⟩ = some (.int .i32 f.ver) := heap_cell hX3 6
  have b7 : w3.cell? ⟨w.heap.size, 7, none⟩ = some (.int .i64 f.ses) := heap_cell hX3 7
  have b8 : w3.cell? ⟨w.heap.size, 8, none⟩ = some (.int .i32 f.tmo) := heap_cell hX3 8
  have b9 : w3.cell? ⟨w.heap.size, 9, none⟩ = some (.slice ap (lenO f.pw) cp) := heap_cell hX3 9
  have b10 : w3.cell? ⟨w.heap.size, 10, none⟩ = some (.slice ao fs.length co) := heap_cell hX3 10
  have b11 : w3.cell? ⟨w.heap.size, 11, none⟩ = some (.bool f.seq) := heap_cell hX3 11
  have b12 : w3.cell? ⟨w.heap.size, 12, none⟩ = some (.slice ak' ks.length ck) := heap_cell hX3 12
  have b13 : w3.cell? ⟨w.heap.size, 13, none⟩ = some (.int .i64 ak) := heap_cell hX3 13
  obtain ⟨d', hd'⟩ : ∃ d', d = d' + 1 := by
    cases d with
    | zero => exact HIN.out.elim
    | succ d' => exact ⟨d', rfl⟩
  go_wp2_with fail
  refine (HS.out d' n₀ _ f fs t w3 (In.below (hd' ▸ HIN.out) (hBw3.mono hn)) ht (by omega)).mono ?_
  rintro e w4 ⟨cs4, t4, rfl, hin4, ht4, hB4⟩
  clear b0 b1 b2 b3 b4 b5 b6 b7 b8 b9 b10 b11 b12 b13
  have hs4 := hB4.size
  go_wp2_with fail
  refine (HT.out 2 w4.heap.size cs4 _ _ t4 w4 hin4 ht4 (Nat.le_refl _)).mono ?_
  rintro e w5 ⟨cs5, rfl, htp5, hB5⟩
  have hs5 := hB5.size
  have HF4 : Hid (Fits req f.bare (if f.op = 14 then fs else [])) := fits_of (In.fits hin4 ht4)
  clear hin4
  go_wp2_with fail
  refine (encodeTxn_any cs5 _ _ req w5 (htp5.toV (fun b hb => by omega)) HF4.out).mono ?_
  rintro e w6 ⟨v6, rfl, hbuf6, hB6⟩
  clear htp5
  have hs6 := hB6.size
  rw [encb_bare] at hbuf6
  have HBB : Hid (Buf w5.heap.size w6 v6 (encb req f fs)) := hbuf6
  obtain ⟨aB, cB, rfl⟩ := hbuf6.slice
  clear hbuf6
  have hX6 := (hB6.block w.heap.size (by omega)).trans ((hB5.block w.heap.size (by omega)).trans ((hB4.block w.heap.size (by omega)).trans hX3))
  have hBw6 : Below w.heap.size w w6 := ((hBw3.trans (hB4.mono (by omega))).trans (hB5.mono (by omega))).trans (hB6.mono (by omega))
  have c0 : w6.cell? ⟨w.heap.size, 0, none⟩ = some (.int .u64 f.zx) := heap_cell hX6 0
  have c1 : w6.cell? ⟨w.heap.size, 1, none⟩ = some (.int .i64 f.tm) := heap_cell hX6 1
  have c2 : w6.cell? ⟨w.heap.size, 2, none⟩ = some (.int .i32 f.op) := heap_cell hX6 2
  have c3 : w6.cell? ⟨w.heap.size, 3, none⟩ = some (.string f.path) := heap_cell hX6 3
  have c4 : w6.cell? ⟨w.heap.size, 4, none⟩ = some (.slice ad (lenO f.data) cd) := heap_cell hX6 4
  have c5 : w6.cell? ⟨w.heap.size, 5, none⟩ = some (.slice aa f.acl.length ca) := heap_cell hX6 5
  have c6 : w6.cell? ⟨w.heap.size, 6, none⟩ = some (.int .i32 f.ver) := heap_cell hX6 6
  have c7 : w6.cell? ⟨w.heap.size, 7, none⟩ = some (.int .i64 f.ses) := heap_cell hX6 7
  have c8 : w6.cell? ⟨w.heap.size, 8, none⟩ = some (.int .i32 f.tmo) := heap_cell hX6 8
  have c9 : w6.cell? ⟨w.heap.size, 9, none⟩ = some (.slice ap (lenO f.pw) cp) := heap_cell hX6 9
  have c10 : w6.cell? ⟨w.heap.size, 10, none⟩ = some (.slice ao fs.length co) := heap_cell hX6 10
  have c11 : w6.cell? ⟨w.heap.size, 11, none⟩ = some (.bool f.seq) := heap_cell hX6 11
  have c12 : w6.cell? ⟨w.heap.size, 12, none⟩ = some (.slice ak' ks.length ck) := heap_cell hX6 12
  have c13 : w6.cell? ⟨w.heap.size, 13, none⟩ = some (.int .i64 ak) := heap_cell hX6 13
  go_wp2_with fail
  refine (HT.out d n₀ _ f fs t w6 (In.below HIN.out (hBw6.mono hn)) ht (by omega)).mono ?_
  rintro e w7 ⟨cs7, rfl, htp7, hB7⟩
  clear c0 c1 c2 c3 c4 c5 c6 c7 c8 c9 c10 c11 c12 c13
  have hs7 := hB7.size
  go_wp2_with fail
  refine (encodeTxn_any cs7 f fs (!req) w7 (htp7.toV (fun b hb => by omega)) (fits_of HFT.out)).mono ?_
  rintro e w8 ⟨v8, rfl, hbuf8, hB8⟩
  clear htp7
  have hs8 := hB8.size
  have HBC : Hid (Buf w7.heap.size w8 v8 (encb (!req) f fs)) := hbuf8
  obtain ⟨aC, cC, rfl⟩ := hbuf8.slice
  clear hbuf8
  have hX8 := (hB8.block w.heap.size (by omega)).trans ((hB7.block w.heap.size (by omega)).trans hX6)
  have hBw8 : Below w.heap.size w w8 := (hBw6.trans (hB7.mono (by omega))).trans (hB8.mono (by omega))
  have g0 : w8.cell? ⟨w.heap.size, 0, none⟩ = some (.int .u64 f.zx) := heap_cell hX8 0
  have g1 : w8.cell? ⟨w.heap.size, 1, none⟩ = some (.int .i64 f.tm) := heap_cell hX8 1
  have g2 : w8.cell? ⟨w.heap.size, 2, none⟩ = some (.int .i32 f.op) := heap_cell hX8 2
  have g3 : w8.cell? ⟨w.heap.size, 3, none⟩ = some (.string f.path) := heap_cell hX8 3
  have g4 : w8.cell? ⟨w.heap.size, 4, none⟩ = some (.slice ad (lenO f.data) cd) := heap_cell hX8 4
  have g5 : w8.cell? ⟨w.heap.size, 5, none⟩ = some (.slice aa f.acl.length ca) := heap_cell hX8 5
  have g6 : w8.cell? ⟨w.heap.size, 6, none⟩ = some (.int .i32 f.ver) := heap_cell hX8 6
  have g7 : w8.cell? ⟨w.heap.size, 7, none⟩ = some (.int .i64 f.ses) := heap_cell hX8 7
  have g8 : w8.cell? ⟨w.heap.size, 8, none⟩ = some (.int .i32 f.tmo) := heap_cell hX8 8
  have g9 : w8.cell? ⟨w.heap.size, 9, none⟩ = some (.slice ap (lenO f.pw) cp) := heap_cell hX8 9
  have g10 : w8.cell? ⟨w.heap.size, 10, none⟩ = some (.slice ao fs.length co) := heap_cell hX8 10
  have g11 : w8.cell? ⟨w.heap.size, 11, none⟩ = some (.bool f.seq) := heap_cell hX8 11
  have g12 : w8.cell? ⟨w.heap.size, 12, none⟩ = some (.slice ak' ks.length ck) := heap_cell hX8 12
  have g13 : w8.cell? ⟨w.heap.size, 13, none⟩ = some (.int .i64 ak) := heap_cell hX8 13
  go_wp2_with fail
  have HFB : Hid ((fieldsb f).length ≤ 36 + wt f ∧ wt f ≤ 1048576) := ⟨fieldsb_le f, by have := HFT.out; unfold wt; unfold own0 at this ⊢; omega⟩
  refine (fieldsSize_any n₀ _ f w8 (In.fl (In.below HIN.out (hBw8.mono hn))) (sm_of_wt HFB.out.2) (by omega) (by have := HFB.out; omega)).mono ?_
  rintro e w9 ⟨rfl, hB9⟩
  clear g0 g1 g2 g3 g4 g5 g6 g7 g8 g9 g10 g11 g12 g13
  have hs9 := hB9.size
  have hX9 := (hB9.block w.heap.size (by omega)).trans hX8
  have hBw9 : Below w.heap.size w w9 := hBw8.trans (hB9.mono (by omega))
  have k2 : w9.cell? ⟨w.heap.size, 2, none⟩ = some (.int .i32 f.op) := heap_cell hX9 2
  have k10 : w9.cell? ⟨w.heap.size, 10, none⟩ = some (.slice ao fs.length co) := heap_cell hX9 10
  have HLA : Hid ((encb req f fs).length = 16 + (fieldsb f).length + (if f.op = 14 then 4 + (fs.map fun g => (fieldsb g).length).sum + (if req then fs.length else 0) else 0)) := encb_len req f fs
  have HLC : Hid ((encb (!req) f fs).length = 16 + (fieldsb f).length + (if f.op = 14 then 4 + (fs.map fun g => (fieldsb g).length).sum + (if (!req) then fs.length else 0) else 0)) := encb_len (!req) f fs
  have HBA9 : Hid (Buf w2.heap.size w9 (.slice aA (encb req f fs).length cA) (encb req f fs)) := (((((((Buf.kept HBA.out hB4 (Nat.le_refl _))).kept hB5 (Nat.le_refl _)).kept hB6 (Nat.le_refl _)).kept hB7 (Nat.le_refl _)).kept hB8 (Nat.le_refl _)).kept hB9 (Nat.le_refl _))
  have HBB9 : Hid (Buf w5.heap.size w9 (.slice aB (encb req f fs).length cB) (encb req f fs)) := (((Buf.kept HBB.out hB7 (Nat.le_refl _)).kept hB8 (Nat.le_refl _)).kept hB9 (Nat.le_refl _))
  have HBC9 : Hid (Buf w7.heap.size w9 (.slice aC (encb (!req) f fs).length cC) (encb (!req) f fs)) := Buf.kept HBC.out hB9 (Nat.le_refl _)
  have HLE : Hid ((encb req f fs).length ≤ 268435456 ∧ (encb (!req) f fs).length ≤ 268435456) := ⟨(fits_of (req := req) HFT.out).2.2, (fits_of (req := !req) HFT.out).2.2⟩
  have HAB : Hid (AllB (encb req f fs)) := encb_b HG.out.1 (fun _ => HG.out.2)
  clear HBA HBB HBC hB1 hB2 hB3 hB4 hB5 hB6 hB7 hB8 hB9 hX1 hX3 hX6 hX8 hBw3 hBw6 hBw8
  by_cases hop : f.op = 14
  · have hopb : (f.op == 14) = true := by simp [hop]
    have HOP : Hid (f.op = 14) := hop
    have HA : Hid ((encb req f fs).length = 20 + (fieldsb f).length + (fs.flatMap (opb req)).length) := by show _ = _; rw [HLA.out, if_pos hop, flat_len]; omega
    have HD : Hid (((encb req f fs).length : Int) - ((encb (!req) f fs).length : Int) = if req then (fs.length : Int) else -(fs.length : Int)) := by
      show _ = _
      rw [HLA.out, HLC.out, if_pos hop, if_pos hop]
      cases req <;> simp <;> omega
    have HOPS : Hid (0 < fs.length → ∃ g o, ao = some ⟨g, o, none⟩ ∧ g < n₀ ∧ ∀ j (h : j < fs.length), ∃ cs, Fl n₀ w cs fs[j] ∧ w.rangeAt g (o + j * 14) cs) := In.ops HIN.out
    have hsm : (fieldsb f).length ≤ 2097152 := by have := HFB.out; omega
    have HFG : Hid (∀ g ∈ fs, wt g ≤ 1048576) := fun g hg => by
      obtain ⟨i, hi, rfl⟩ := List.getElem_of_mem hg
      have h1 := numS_succ (l := fs.map wt) (j := i) (by simpa using hi)
      have h2 := numS_le (fs.map wt) (i + 1)
      have h3 := HFT.out
      simp only [List.getElem_map, List.length_map] at h1 h2
      omega
    obtain ⟨rq, hrq⟩ : ∃ rq, (!req) = rq := ⟨_, rfl⟩
    rw [hrq] at HD HLC HBC9 HLE ⊢
    clear hrq hop
    go_wp2_with fail
    go_loopw [8, 9] (fun vn vj wq => ∃ j : Nat, vj = .int .i64 j ∧ vn = .int .i64 ((20 + (fieldsb f).length + ((fs.take j).flatMap (opb req)).length : Nat) : Int) ∧ j ≤ fs.length ∧ Below w9.heap.size w9 wq) (fun _ vj _ => fs.length - (intOf vj).toNat)
    case atStart => exact ⟨0, rfl, int_eq (by simp; omega), by omega, Below.refl _ _⟩
    case round =>
      obtain ⟨j, rfl, rfl, hj, hBq⟩ := hrel
      have hsq := hBq.size
      have k10q := (hBq.cell (p := ⟨w.heap.size, 10, none⟩) (by show w.heap.size < _; omega)).trans k10
      have k2q := (hBq.cell (p := ⟨w.heap.size, 2, none⟩) (by show w.heap.size < _; omega)).trans k2
      have hle := opb_le req fs j
      have hla := HLE.out.1
      have hha := HA.out
      by_cases hlt : j < fs.length
      · have hji : (j : Int) < (fs.length : Int) := by omega
        obtain ⟨g, o, rfl, hg, hrng⟩ := HOPS.out (by omega)
        obtain ⟨cs1, hfl1, hr⟩ := hrng j hlt
        have hBn : Below n₀ w wr := (hBw9.trans (hBq.mono (by omega))).mono hn
        have hw : ∀ k u, w.cell? ⟨g, o + j * 14 + k, none⟩ = some u → wr.cell? ⟨g, o + j * 14 + k, none⟩ = some u := fun k u hu => (hBn.cell (p := ⟨g, o + j * 14 + k, none⟩) hg).trans hu
        have HFJ : Hid (Fl n₀ wr cs1 fs[j]) := hfl1.below hBn
        have hwt := HFG.out fs[j] (List.getElem_mem hlt)
        have hfbl := fieldsb_le fs[j]
        have HTK : Hid (((fs.take (j + 1)).flatMap (opb req)).length = ((fs.take j).flatMap (opb req)).length + ((fieldsb fs[j]).length + (if req then 1 else 0))) := by show _ = _; rw [opb_take hlt, List.length_append, opb_len]
        obtain ⟨fj, hfj⟩ : ∃ fj, fj = fs[j] := ⟨_, rfl⟩
        rw [← hfj] at HFJ hwt hfbl HTK hfl1
        obtain ⟨vd1, va1, vp1, vo1, vk1, ak1, rfl, hvd1, hva1, hvp1, ⟨ao1, no1, co1, rfl⟩, ⟨ak1', nk1, ck1, rfl⟩⟩ := hfl1
        obtain ⟨ad1, cd1, rfl⟩ := hvd1.slice
        obtain ⟨aa1, ca1, rfl⟩ := hva1.slice
        obtain ⟨ap1, cp1, rfl⟩ := hvp1.slice
        simp only [cells14] at hr HFJ
        have d0 : wr.cell? ⟨g, o + j * 14, none⟩ = some (.int .u64 fj.zx) := hw 0 _ (hr 0 _ rfl)
        have d1 : wr.cell? ⟨g, o + j * 14 + 1, none⟩ = some (.int .i64 fj.tm) := hw 1 _ (hr 1 _ rfl)
        have d2 : wr.cell? ⟨g, o + j * 14 + 2, none⟩ = some (.int .i32 fj.op) := hw 2 _ (hr 2 _ rfl)
        have d3 : wr.cell? ⟨g, o + j * 14 + 3, none⟩ = some (.string fj.path) := hw 3 _ (hr 3 _ rfl)
        have d4 : wr.cell? ⟨g, o + j * 14 + 4, none⟩ = some (.slice ad1 (lenO fj.data) cd1) := hw 4 _ (hr 4 _ rfl)
        have d5 : wr.cell? ⟨g, o + j * 14 + 5, none⟩ = some (.slice aa1 fj.acl.length ca1) := hw 5 _ (hr 5 _ rfl)
        have d6 : wr.cell? ⟨g, o + j * 14 + 6, none⟩ = some (.int .i32 fj.ver) := hw 6 _ (hr 6 _ rfl)
        have d7 : wr.cell? ⟨g, o + j * 14 + 7, none⟩ = some (.int .i64 fj.ses) := hw 7 _ (hr 7 _ rfl)
        have d8 : wr.cell? ⟨g, o + j * 14 + 8, none⟩ = some (.int .i32 fj.tmo) := hw 8 _ (hr 8 _ rfl)
        have d9 : wr.cell? ⟨g, o + j * 14 + 9, none⟩ = some (.slice ap1 (lenO fj.pw) cp1) := hw 9 _ (hr 9 _ rfl)
        have d10 : wr.cell? ⟨g, o + j * 14 + 10, none⟩ = some (.slice ao1 no1 co1) := hw 10 _ (hr 10 _ rfl)
        have d11 : wr.cell? ⟨g, o + j * 14 + 11, none⟩ = some (.bool fj.seq) := hw 11 _ (hr 11 _ rfl)
        have d12 : wr.cell? ⟨g, o + j * 14 + 12, none⟩ = some (.slice ak1' nk1 ck1) := hw 12 _ (hr 12 _ rfl)
        have d13 : wr.cell? ⟨g, o + j * 14 + 13, none⟩ = some (.int .i64 ak1) := hw 13 _ (hr 13 _ rfl)
        have HBq : Hid (Below w9.heap.size w9 wr) := hBq
        clear hr hrng hw hfj hvd1 hva1 hvp1 hBn hBq
        obtain ⟨S, hS⟩ : ∃ S, S = ((fs.take j).flatMap (opb req)).length := ⟨_, rfl⟩
        rw [← hS] at HTK hle ⊢
        have hSb : S ≤ 268435456 := by omega
        have hfl : fs.length ≤ 1048576 := by have := HFT.out; unfold own0 at this; omega
        clear hS hle hha hla
        go_wp2_with fail
        refine (fieldsSize_any n₀ _ fj wr HFJ.out (sm_of_wt hwt) (by omega) (by omega)).mono ?_
        rintro e wa ⟨rfl, hBa⟩
        have HB2 : Hid (Below w9.heap.size w9 wa) := HBq.out.trans (hBa.mono hsq)
        clear hBa
        cases req with
        | false =>
          go_wp2_with fail
          refine ⟨⟨j + 1, rfl, int_eq ?_, by omega, HB2.out⟩, meas hlt⟩
          have := HTK.out
          simp only [Bool.false_eq_true, if_false] at this
          omega
        | true =>
          go_wp2_with fail
          refine ⟨⟨j + 1, rfl, int_eq ?_, by omega, HB2.out⟩, meas hlt⟩
          have := HTK.out
          simp only [if_true] at this
          omega
      · obtain rfl : j = fs.length := by omega
        rw [List.take_length]
        have HBq : Hid (Below w9.heap.size w9 wr) := hBq
        have HA9 : Hid (Buf w2.heap.size wr (.slice aA (encb req f fs).length cA) (encb req f fs)) := Buf.kept HBA9.out hBq (Nat.le_refl _)
        have HB9' : Hid (Buf w5.heap.size wr (.slice aB (encb req f fs).length cB) (encb req f fs)) := Buf.kept HBB9.out hBq (Nat.le_refl _)
        obtain ⟨T, hT⟩ : ∃ T, T = 20 + (fieldsb f).length + (fs.flatMap (opb req)).length := ⟨_, rfl⟩
        rw [← hT] at hha ⊢
        have hlen : (((encb req f fs).length : Int) == (T : Int)) = true := by simp; omega
        have hfl : fs.length ≤ 1048576 := by have := HFT.out; unfold own0 at this; omega
        have hlb := HLE.out.2
        clear hBq hT hle hha
        go_wp2_with fail
        refine (same_any _ _ _ _ _ wr HLE.out.1 (by have := HA.out; omega) HAB.out HA9.out HB9'.out).mono ?_
        rintro e wa ⟨rfl, hBa⟩
        have hsa := hBa.size
        have k10a := (hBa.cell (p := ⟨w.heap.size, 10, none⟩) (by show w.heap.size < _; omega)).trans k10q
        have k2a := (hBa.cell (p := ⟨w.heap.size, 2, none⟩) (by show w.heap.size < _; omega)).trans k2q
        have HBE : Hid (Below w.heap.size w wa) := (hBw9.trans (HBq.out.mono (by omega))).trans (hBa.mono (by omega))
        clear hBa
        cases req with
        | false =>
          have hdd : (((encb false f fs).length : Int) - ((encb rq f fs).length : Int) == -(fs.length : Int)) = true := by have := HD.out; simp at this ⊢; omega
          go_wp2_with fail
          go_ret
          exact ⟨rfl, HBE.out⟩
        | true =>
          have hdd : (((encb true f fs).length : Int) - ((encb rq f fs).length : Int) == (fs.length : Int)) = true := by have := HD.out; simp at this ⊢; omega
          go_wp2_with fail
          go_ret
          exact ⟨rfl, HBE.out⟩
  · have hopb : (f.op == 14) = false := by simp [hop]
    have HOP : Hid (f.op ≠ 14) := hop
    have HA : Hid ((encb req f fs).length = 16 + (fieldsb f).length) := by have := HLA.out; rw [if_neg hop] at this; exact this
    have HCE : Hid (encb (!req) f fs = encb req f fs) := encb_irrel hop _ _ fs
    rw [HCE.out] at HBC9 ⊢
    clear hop
    have hlen : (((encb req f fs).length : Int) == 16 + ((fieldsb f).length : Int)) = true := by have := HA.out; simp; omega
    have hsm : (fieldsb f).length ≤ 2097152 := by have := HFB.out; omega
    go_wp2_with fail
    refine (same_any _ _ _ _ _ w9 HLE.out.1 (by have := HA.out; omega) HAB.out HBA9.out HBB9.out).mono ?_
    rintro e wa ⟨rfl, hBa⟩
    have hsa := hBa.size
    have k2a := (hBa.cell (p := ⟨w.heap.size, 2, none⟩) (by show w.heap.size < _; omega)).trans k2
    have HC9 : Hid (Buf w7.heap.size wa (.slice aC (encb req f fs).length cC) (encb req f fs)) := Buf.kept HBC9.out hBa (Nat.le_refl _)
    have HA9 : Hid (Buf w2.heap.size wa (.slice aA (encb req f fs).length cA) (encb req f fs)) := Buf.kept HBA9.out hBa (Nat.le_refl _)
    go_wp2_with fail
    refine (same_any _ _ _ _ _ wa HLE.out.1 (by have := HA.out; omega) HAB.out HA9.out HC9.out).mono ?_
    rintro e wb ⟨rfl, hBb⟩
    go_wp2_with fail
    go_ret
    exact ⟨rfl, (hBw9.trans (hBa.mono (by omega))).trans (hBb.mono (by omega))⟩

end Go.Proofs.Qxb6609425a
