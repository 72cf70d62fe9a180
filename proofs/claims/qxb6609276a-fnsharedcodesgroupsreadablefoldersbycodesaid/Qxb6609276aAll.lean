/-
  (*bookFolders).all: the iterator over the records.
-/
import Derived.Test.Qxb6609276aLess
import Derived.RangeFuncNested
import Derived.RangeFuncBound
import Derived.RangeFuncCalls
import Derived.RangeFuncLeaves
import Derived.Shelf.Abstract
import Derived.OwnWalkIn
import Derived.TacticsInMore
import Derived.LoopNIn
import Derived.LoopIn
namespace Go.Proofs.Qxb6609276a
open Go.RowKit Go.Shelf
set_option linter.unusedSimpArgs false
set_option linter.unusedVariables false
attribute [local go_sem] Oper.semAt_some
attribute [local go_sem ↓] Go.wp_at_zero Go.wp_at_succ

/-- What the folders' memory holds. -/
structure Fs (W : World) (Bn B g bm : Nat) (a : Option Addr) (l : List UInt8) (cnt : Int) (M : Int → Option Value) (nm sz : Nat) : Prop where
  box : W.heap[Bn]? = some (.cells #[.pointer (some ⟨B, 0, none⟩)] 32 (0, 0))
  str : W.heap[B]? = some (.cells #[.slice a l.length l.length, .map (some bm), .int .i64 cnt] 45 (0, 0))
  byt : 0 < l.length → W.heap[g]? = some (.cells (l.map fun b => Value.int .u8 (b.toNat : Int)).toArray 5 (0, 0))
  map : Raw litI W Try.prog 3 bm nm M sz
  adr : 0 < l.length → a = some ⟨g, 0, none⟩

/-- The blocks xs are as they were. -/
def Same (xs : List Nat) (W W' : World) : Prop := ∀ x ∈ xs, W'.heap[x]? = W.heap[x]?

theorem Same.trans {xs : List Nat} {A B C : World} (h : Same xs A B) (h' : Same xs B C) : Same xs A C := fun x hx => (h' x hx).trans (h x hx)
theorem Same.refl (xs : List Nat) (A : World) : Same xs A A := fun _ _ => rfl

theorem Fs.same {W W' : World} {Bn B g bm : Nat} {a : Option Addr} {l : List UInt8} {cnt : Int} {M : Int → Option Value} {nm sz : Nat} (h : Fs W Bn B g bm a l cnt M nm sz) (hs : Same [Bn, B, g, bm] W W') : Fs W' Bn B g bm a l cnt M nm sz :=
  ⟨(hs Bn (by simp)).trans h.box, (hs B (by simp)).trans h.str, fun hl => (hs g (by simp)).trans (h.byt hl), h.map.of_block (hs bm (by simp)), h.adr⟩

theorem Fs.grown {W W' : World} {Bn B g bm : Nat} {a : Option Addr} {l : List UInt8} {cnt : Int} {M : Int → Option Value} {nm sz : Nat} (h : Fs W Bn B g bm a l cnt M nm sz) (hg : W.grownBy W' none) : Fs W' Bn B g bm a l cnt M nm sz := by
  refine ⟨(hg.block Bn (Array.getElem?_eq_some_iff.1 h.box).1 (by simp)).trans h.box, (hg.block B (Array.getElem?_eq_some_iff.1 h.str).1 (by simp)).trans h.str, fun hl => (hg.block g (Array.getElem?_eq_some_iff.1 (h.byt hl)).1 (by simp)).trans (h.byt hl), h.map.kept hg (by simp), h.adr⟩

section
variable {W : World} {Bn B g bm : Nat} {a : Option Addr} {l : List UInt8} {cnt : Int} {M : Int → Option Value} {nm sz : Nat}

theorem cell_block {b : Nat} {arr : Array Value} {t : TypeId} (h : W.heap[b]? = some (.cells arr t (0, 0))) (j : Nat) : W.cell? ⟨b, j, none⟩ = arr[j]? := by simp [World.cell?, h]
theorem bytes_block {g : Nat} (h : W.heap[g]? = some (.cells (l.map fun b => Value.int .u8 (b.toNat : Int)).toArray 5 (0, 0))) : BytesAt W g 0 l := by
  intro j hj
  rw [Nat.zero_add, cell_block h]
  simp [hj]

theorem Fs.cBox (h : Fs W Bn B g bm a l cnt M nm sz) : W.cell? ⟨Bn, 0, none⟩ = some (.pointer (some ⟨B, 0, none⟩)) := by rw [cell_block h.box]; rfl
theorem Fs.c0 (h : Fs W Bn B g bm a l cnt M nm sz) : W.cell? ⟨B, 0, none⟩ = some (.slice a l.length l.length) := by rw [cell_block h.str]; rfl
theorem Fs.c1 (h : Fs W Bn B g bm a l cnt M nm sz) : W.cell? ⟨B, 1, none⟩ = some (.map (some bm)) := by rw [cell_block h.str]; rfl
theorem Fs.cB (h : Fs W Bn B g bm a l cnt M nm sz) (hl : 0 < l.length) : W.cell? ⟨B, 0, none⟩ = some (.slice (some ⟨g, 0, none⟩) l.length l.length) := by rw [h.c0, h.adr hl]
theorem Fs.bytes (h : Fs W Bn B g bm a l cnt M nm sz) (hl : 0 < l.length) : BytesAt W g 0 l := bytes_block (h.byt hl)
end

/-- The record's own code field: empty where the record bears none. -/
def Rc.raw (l : List UInt8) (r : Rc) : List UInt8 := sub l r.ca r.m

theorem orS_raw {l : List UInt8} {r : Rc} (h : RecAt l r) : orS (r.raw l) (r.name l) = r.code l := by
  unfold orS Rc.raw Rc.code Rc.cp Rc.cl Rc.name
  have h3 := h.h3
  by_cases hm : r.m = 0
  · simp [hm, sub]
  · have : (sub l r.ca r.m) ≠ [] := by
      intro e
      have := length_sub (l := l) (a := r.ca) (n := r.m) h3
      rw [e] at this
      simp at this
      omega
    simp [hm, this]

abbrev It (l : List UInt8) := { r : Rc // RecAt l r }

/-- The struct that is handed to the loop's body. -/
def folder (l : List UInt8) (M : Int → Option Value) (r : Rc) : Value :=
  .agg #[.string (bs (r.name l)), .string (if (M r.off).isNone then bs (r.code l) else ⟨#[]⟩), (M r.off).getD .nilIface]

theorem grown_drew {w w' : World} {row : Option Nat} (h : w.grownBy w' row) : w.grownBy w'.drew row := ⟨h.os, h.tape, h.output, h.size, h.block⟩
theorem grown_refl (w : World) (row : Option Nat) : w.grownBy w row := ⟨rfl, rfl, rfl, Nat.le_refl _, fun _ _ _ => rfl⟩

/-- 'string(code)' of a record. -/
theorem convert_raw {W : World} {Bn B g bm : Nat} {a A : Option Addr} {l : List UInt8} {cnt : Int} {M : Int → Option Value} {nm sz : Nat} (h : Fs W Bn B g bm a l cnt M nm sz) {r : Rc} (hr : RecAt l r) (hA : 0 < r.m → A = some ⟨g, r.ca, none⟩) (cp2 : Nat) :
    (convert 22 9 (.slice A r.m cp2)).run Try.prog W = .ok (.string (bs (r.raw l))) W := by
  have hl := hr.lt
  by_cases hm : r.m = 0
  · have e : bs (r.raw l) = ByteArray.empty := by unfold Rc.raw; rw [hm]; rfl
    rw [hm, e, run_convert_bytes_string W 22 9 5 _ 0 cp2 Try.underlying22 Try.underlying5 Try.underlying9]
    cases A <;> simp [Conv.bytesToString, loadCells]
    all_goals rfl
  · rw [hA (by omega)]
    have := convert_bs (l := r.raw l) cp2 (BytesAt.sub (h.bytes (by omega)) hr.h3)
    rwa [show (r.raw l).length = r.m from length_sub hr.h3] at this

theorem zero42 (w : World) : (zeroValue 42).run Try.prog w = .ok .nilIface w := by kernel_rfl

/-- What the region that builds the struct reads. -/
def SReg (Bn B g bm : Nat) (l : List UInt8) (M : Int → Option Value) (r : Rc) (cp1 : Nat) (w : World) : Prop :=
  w.cell? ⟨Bn, 0, none⟩ = some (.pointer (some ⟨B, 0, none⟩)) ∧ w.cell? ⟨B, 1, none⟩ = some (.map (some bm)) ∧
  (Instr.lookup 40 (.map (some bm)) (.int .i64 (r.off : Int)) false).run Try.prog w = .ok ((M r.off).getD .nilIface) w ∧
  (convert 22 9 (.slice (some ⟨g, r.na, none⟩) r.n cp1)).run Try.prog w = .ok (.string (bs (r.name l))) w

theorem SReg.of {W : World} {Bn B g bm : Nat} {a : Option Addr} {l : List UInt8} {cnt : Int} {M : Int → Option Value} {nm sz : Nat} (h : Fs W Bn B g bm a l cnt M nm sz) {r : Rc} (hr : RecAt l r) (hn : l.length ≤ 4096) (cp1 : Nat) : SReg Bn B g bm l M r cp1 W := by
  have hl := hr.lt
  refine ⟨h.cBox, h.c1, h.map.look keyI Try.underlying40 (zero42 W) (Maps.keyOf_int_mk Try.underlying3 (WalkArith.wf_i64 (by omega))), ?_⟩
  have := convert_bs (l := r.name l) cp1 (BytesAt.sub (h.bytes (by omega)) hr.h2)
  rwa [show (r.name l).length = r.n from length_sub hr.h2] at this

set_option maxRecDepth 100000 in
set_option maxHeartbeats 1600000 in
theorem all1_in (n : Nat) (hn1 : 3 ≤ n) (y Bn B g bm : Nat) (a : Option Addr) (l : List UInt8) (cnt : Int) (M : Int → Option Value) (nm sz : Nat) (R : List Rc) (hn : l.length ≤ 4096) (hR : Chain l 0 R l.length) (hMv : ∀ z, M z = none ∨ ∃ x, M z = some (.iface 59 (.pointer (some x))))
    (J Jx : List (It l) → World → Prop) (W : World) (hJ : AbidesFrom W.heap.size J)
    (hY : ∀ pre x W1, J pre W1 → pre.length < R.length → YieldAt Fence.wide (n - 1) Try.prog y #[.int .i64 (x.1.off : Int), folder l M x.1] W1 fun e W' =>
      (e = .returned (.bool true) ∧ J (pre ++ [x]) W' ∧ Same [Bn, B, g, bm] W1 W') ∨ (e = .returned (.bool false) ∧ Jx (pre ++ [x]) W'))
    (hF : Fs W Bn B g bm a l cnt M nm sz) (h0 : J [] W) :
    CallsIn Fence.wide n Try.prog 23 #[.func (.yield y) #[] #[], .pointer (some ⟨Bn, 0, none⟩)] W fun e W' => (∃ v, e = .returned v) ∧
      ((∃ ys, ys.map Subtype.val = R ∧ J ys W') ∨ (∃ pre, pre.map Subtype.val <+: R ∧ Jx pre W')) := by
  refine callsIn_of_wp Try.func23 rfl trivial ?_ rfl
  simp only [Try.ntmps23, List.size_toArray, List.length_cons, List.length_nil, Nat.reduceAdd, Nat.reduceSub, Array.replicate_succ, Array.replicate_zero, List.push_toArray, List.append_toArray, List.nil_append, List.cons_append]
  gi_wp2
  gi_loopw [3] (fun p wr => ∃ (pre : List (It l)) (rest : List Rc) (off : Nat), p = .int .i64 off ∧ R = pre.map Subtype.val ++ rest ∧ Chain l off rest l.length ∧ J pre wr ∧ Fs wr Bn B g bm a l cnt M nm sz)
    (fun p _ => l.length - (intOf p).toNat)
  case atStart => exact ⟨[], R, 0, rfl, rfl, hR, h0, hF⟩
  case round =>
    obtain ⟨pre, rest, off, rfl, hx, hch, hJs, hFs⟩ := hrel
    have c1 := hFs.cBox
    have c2 := hFs.c0
    cases rest with
    | nil =>
      have hoff : off = l.length := hch
      have hlt : ¬ (off : Int) < (l.length : Int) := by omega
      have HX : Hid (R = pre.map Subtype.val) := by show _ = _; rw [hx]; simp
      clear hoff hx
      gi_wp2
      go_end0
      exact ⟨⟨_, rfl⟩, .inl ⟨pre, HX.out.symm, hJs⟩⟩
    | cons r rest =>
      obtain ⟨rfl, hr, hch'⟩ := hch
      have hl := hr.lt
      have hlt : (r.off : Int) < (l.length : Int) := by omega
      have hf16 : Fence.wide.fn 16 := trivial
      have hn2 : 1 ≤ n := by omega
      have hlpos : 0 < l.length := by omega
      have cB := hFs.cB hlpos
      have cb := hFs.bytes hlpos
      clear c2
      obtain rfl : a = some ⟨g, 0, none⟩ := hFs.adr hlpos
      gi_wp2_with (gi_at_call 16; refine (callsIn_wide.2 (record_any B g l r _ hn hr (by exact cB) (by exact cb))).mono ?_; rintro e w' ⟨A, cp1, cp2, rfl, hA, rfl⟩)
      have S0 : SReg Bn B g bm l M r cp1 w'.drew := SReg.of (hFs.grown (grown_drew (grown_refl _ _))) hr hn cp1
      have S1 : ∀ o, SReg Bn B g bm l M r cp1 (w'.alloc o).drew := fun o => SReg.of (hFs.grown (grown_drew (World.grownBy_alloc _ _ _))) hr hn cp1
      rcases hMv r.off with hM0 | ⟨ae, hM0⟩
      · have hcv : ∀ o, (convert 22 9 (.slice A r.m cp2)).run Try.prog (w'.alloc o).drew = .ok (.string (bs (r.raw l))) (w'.alloc o).drew := fun o => convert_raw (hFs.grown (grown_drew (World.grownBy_alloc _ _ _))) hr hA cp2
        have hf24 : Fence.wide.fn 24 := trivial
        have hgr : w'.grownBy ((w'.alloc (.cells #[.string (bs (r.name l)), .string (bs (r.code l)), .nilIface] 50)).alloc (.cells #[.string (bs (r.raw l)), .string (bs (r.name l))] 9)).drew none := grown_drew ((World.grownBy_alloc _ _ none).trans (World.grownBy_alloc _ _ none))
        obtain ⟨fn, tmps, assign, body, hy, hRd⟩ := hY pre ⟨r, hr⟩ _ (hJ pre w' _ none hJs hgr (by simp)) (by rw [hx]; simp)
        simp only [folder, hM0, Option.isNone_none, if_true, Option.getD_none] at hy
        have HFg : Hid (Fs _ Bn B g bm _ l cnt M nm sz) := hFs.grown hgr
        have hor := orS_raw hr
        rw [SReg, hM0] at S0
        simp only [SReg, hM0] at S1
        have HS0 : Hid _ := S0
        have HS1 : Hid _ := S1
        clear S0 S1 hgr
        refine wpIn_wide.2 ?_
        go_region_held3 (fun w => w.cell? ⟨Bn, 0, none⟩ = some (.pointer (some ⟨B, 0, none⟩)) ∧ w.cell? ⟨B, 1, none⟩ = some (.map (some bm)) ∧
            (Instr.lookup 40 (.map (some bm)) (.int .i64 (r.off : Int)) false).run Try.prog w = .ok .nilIface w ∧
            (convert 22 9 (.slice (some ⟨g, r.na, none⟩) r.n cp1)).run Try.prog w = .ok (.string (bs (r.name l))) w)
          (first | exact HS0.out | exact HS1.out _ | exact HS0.out.drew) (fail)
        all_goals
          gi_wp2_with (gi_at_call 24; refine (callsIn_wide.2 (orStr_any _ _ (r.raw l) (r.name l) _ (by go_simp) (by go_simp))).mono ?_; rintro e w2 ⟨rfl, rfl⟩; rw [hor])
          refine hRd.mono ?_
          rintro e W3 (⟨rfl, hJ3, hk3⟩ | ⟨rfl, hJx3⟩)
          · have HF3 : Hid (Fs W3 Bn B g bm _ l cnt M nm sz) := HFg.out.same hk3
            clear hy hJs hFs c1 cB cb hcv
            gi_wp2
            go_roundw
            case rel => exact ⟨pre ++ [⟨r, hr⟩], rest, r.nxt, by simp [Rc.nxt], by rw [hx]; simp, hch', hJ3, HF3.out⟩
            case measure => simp [intOf]; unfold Rc.nxt at hl; omega
          · clear hy hJs hFs c1 cB cb hcv
            gi_wp2
            refine bodyPost_ret (results_none rfl _ _ _) rfl ?_
            exact ⟨⟨_, rfl⟩, .inr ⟨pre ++ [⟨r, hr⟩], ⟨rest, by rw [hx]; simp⟩, hJx3⟩⟩
      · have hgr : w'.grownBy (w'.alloc (.cells #[.string (bs (r.name l)), .string ⟨#[]⟩, .iface 59 (.pointer (some ae))] 50)).drew none := grown_drew (World.grownBy_alloc _ _ none)
        obtain ⟨fn, tmps, assign, body, hy, hRd⟩ := hY pre ⟨r, hr⟩ _ (hJ pre w' _ none hJs hgr (by simp)) (by rw [hx]; simp)
        simp only [folder, hM0, Option.isNone_some, if_false, Option.getD_some, Bool.false_eq_true] at hy
        have HFg : Hid (Fs _ Bn B g bm _ l cnt M nm sz) := hFs.grown hgr
        have hcv := True.intro
        rw [SReg, hM0] at S0
        simp only [SReg, hM0] at S1
        have HS0 : Hid _ := S0
        have HS1 : Hid _ := S1
        clear S0 S1 hgr
        refine wpIn_wide.2 ?_
        go_region_held3 (fun w => w.cell? ⟨Bn, 0, none⟩ = some (.pointer (some ⟨B, 0, none⟩)) ∧ w.cell? ⟨B, 1, none⟩ = some (.map (some bm)) ∧
            (Instr.lookup 40 (.map (some bm)) (.int .i64 (r.off : Int)) false).run Try.prog w = .ok (.iface 59 (.pointer (some ae))) w ∧
            (convert 22 9 (.slice (some ⟨g, r.na, none⟩) r.n cp1)).run Try.prog w = .ok (.string (bs (r.name l))) w)
          (first | exact HS0.out | exact HS1.out _ | exact HS0.out.drew) (fail)
        all_goals
          gi_wp2
          refine hRd.mono ?_
          rintro e W3 (⟨rfl, hJ3, hk3⟩ | ⟨rfl, hJx3⟩)
          · have HF3 : Hid (Fs W3 Bn B g bm _ l cnt M nm sz) := HFg.out.same hk3
            clear hy hJs hFs c1 cB cb hcv
            gi_wp2
            go_roundw
            case rel => exact ⟨pre ++ [⟨r, hr⟩], rest, r.nxt, by simp [Rc.nxt], by rw [hx]; simp, hch', hJ3, HF3.out⟩
            case measure => simp [intOf]; unfold Rc.nxt at hl; omega
          · clear hy hJs hFs c1 cB cb hcv
            gi_wp2
            refine bodyPost_ret (results_none rfl _ _ _) rfl ?_
            exact ⟨⟨_, rfl⟩, .inr ⟨pre ++ [⟨r, hr⟩], ⟨rest, by rw [hx]; simp⟩, hJx3⟩⟩

end Go.Proofs.Qxb6609276a
