/-
  The law: FnSharedCodesGroupsReadableFoldersByCode.
-/
import Derived.Test.Qxb6609276aLaw1
namespace Go.Proofs.Qxb6609276a
open Go.RowKit Go.Shelf
set_option linter.unusedSimpArgs false
set_option linter.unusedVariables false
attribute [local go_sem] bs_toList

def LawEnd (w : World) (e : Ending) (w' : World) : Prop := e = .returned (.bool true) ∧ Below w.heap.size w w'

/-- Whether the j-th record is readable. -/
def rd (zs : List Int) (R : List Rc) (j : Nat) : Bool := match R[j]? with | some r => !hasI zs r.off | none => false
def rdAt (zs : List Int) (R : List Rc) (i j : Nat) : Value := .bool (if j < i then rd zs R j else false)

theorem rd_eq {zs : List Int} {R : List Rc} {j : Nat} (h : j < R.length) : rd zs R j = !hasI zs R[j].off := by simp [rd, h]

theorem rdAt_succ (zs : List Int) (R : List Rc) {i : Nat} (hi : i < R.length) (j : Nat) : (if j = i then .bool (!hasI zs R[i].off) else rdAt zs R i j) = rdAt zs R (i + 1) j := by
  unfold rdAt
  by_cases e : j = i
  · subst e
    simp [rd_eq hi]
  · rw [if_neg e]
    by_cases h : j < i
    · simp [h, show j < i + 1 by omega]
    · simp [h, show ¬ j < i + 1 by omega]

theorem meas {K i : Nat} (h : i < K) : K - (intOf (Value.int .i64 ((i : Int) + 1))).toNat < K - (intOf (Value.int .i64 (i : Int))).toNat := by
  have hwr : (i : Int) + 1 = ((i + 1 : Nat) : Int) := rfl
  rw [hwr]
  simp only [intOf, Int.toNat_natCast]
  omega

/-- The first loop's world. -/
def Fill1 (V : World) (rb K : Nat) (zs : List Int) (R : List Rc) (i : Nat) (wq : World) : Prop := wq.rowIs rb 4 K (rdAt zs R i) ∧ V.grownBy wq (some rb)

theorem made1 (w5 : World) (K : Nat) (zs : List Int) (R : List Rc) : ∃ V, w5.alloc (.cells (madeCells #[.bool false] K) 4) = V ∧ Fill1 V w5.heap.size K zs R 0 V ∧ w5.grownBy V none := by
  refine ⟨_, rfl, ⟨(World.rowIs_made w5 (.bool false) K 4).congr (fun i _ => by simp [rdAt]), grown_refl _ _⟩, World.grownBy_alloc _ _ none⟩

theorem fill1_up {V wq : World} {rb K i : Nat} {zs : List Int} {R : List Rc} (h : Fill1 V rb K zs R i wq) (hK : K = R.length) (hi : i < K) (hi' : i < R.length) :
    (∃ i' : Nat, Value.int IntKind.i64 ((i : Int) + 1) = Value.int IntKind.i64 i' ∧ i' ≤ K ∧ Fill1 V rb K zs R i' (wq.setCell ⟨rb, i, none⟩ (.bool (!hasI zs R[i].off)))) ∧
      K - (intOf (Value.int IntKind.i64 ((i : Int) + 1))).toNat < K - (intOf (Value.int IntKind.i64 (i : Int))).toNat :=
  ⟨⟨i + 1, rfl, by omega, (h.1.set i _).congr (fun j _ => rdAt_succ zs R hi' j), h.2.trans (grown_setCell wq ⟨rb, i, none⟩ _)⟩, meas hi⟩

/-- No hit among the first j that lie ahead of i. -/
def frst {l : List UInt8} (M : Int → Option Value) (ys : List (It l)) (c : List UInt8) (i j : Nat) : Bool := (hs M ys c (min j i)).isEmpty
/-- How many hits among the first j. -/
def cntH {l : List UInt8} (M : Int → Option Value) (ys : List (It l)) (c : List UInt8) (j : Nat) : Nat := (hs M ys c j).length

section
variable {l : List UInt8} {M : Int → Option Value} {ys : List (It l)} {c : List UInt8} {i j : Nat}
theorem frst_zero : frst M ys c i 0 = true := by simp [frst, hs]
theorem cntH_zero : cntH M ys c 0 = 0 := by simp [cntH, hs]
theorem frst_miss (hj : j < ys.length) (h : hit M c ys[j] = false) : frst M ys c i (j + 1) = frst M ys c i j := by simp [frst, first_step hj h]
theorem cntH_miss (hj : j < ys.length) (h : hit M c ys[j] = false) : cntH M ys c (j + 1) = cntH M ys c j := by simp [cntH, hs_miss hj h]
theorem frst_lt (hj : j < ys.length) (h : hit M c ys[j] = true) (hi : j < i) : frst M ys c i (j + 1) = false := by simp [frst, Nat.min_eq_left (show j + 1 ≤ i by omega), hs_hit hj h]
theorem frst_ge (hi : i ≤ j) : frst M ys c i (j + 1) = frst M ys c i j := by simp [frst, Nat.min_eq_right hi, Nat.min_eq_right (show i ≤ j + 1 by omega)]
theorem cntH_hit (hj : j < ys.length) (h : hit M c ys[j] = true) : cntH M ys c (j + 1) = cntH M ys c j + 1 := by simp [cntH, hs_hit hj h]
theorem frst_end {K : Nat} (hi : i ≤ K) (h : frst M ys c i K = true) : cntH M ys c i = 0 := by simpa [frst, cntH, Nat.min_eq_right hi] using h
theorem frst_end' {K : Nat} (hi : i ≤ K) (h : frst M ys c i K = false) : 0 < cntH M ys c i := by
  have : hs M ys c i ≠ [] := by simpa [frst, Nat.min_eq_right hi] using h
  exact List.length_pos_iff.2 this
theorem cntH_lt {K : Nat} (hK : K = ys.length) (hj : j < ys.length) (h : hit M c ys[j] = true) : cntH M ys c j < cntH M ys c K := by
  have := hs_at hj h
  subst hK
  have := (List.getElem?_eq_some_iff.1 this).1
  exact this

theorem l3_up {K q : Nat} {W : World} {b : Bool} {n : Int} (hj : j < K) (hb : b = frst M ys c i (j + 1)) (hn : n = cntH M ys c (j + 1)) :
    (∃ j' q' : Nat, Value.int .i64 ((j : Int) + 1) = Value.int .i64 j' ∧ j' ≤ K ∧ Value.bool b = Value.bool (frst M ys c i j') ∧ Value.int .i64 n = Value.int .i64 (cntH M ys c j') ∧ W.drewN q = W.drewN q') ∧
      K - (intOf (Value.int .i64 ((j : Int) + 1))).toNat < K - (intOf (Value.int .i64 (j : Int))).toNat :=
  ⟨⟨j + 1, q, rfl, by omega, by rw [hb], by rw [hn], rfl⟩, meas hj⟩

theorem l4_up {K q : Nat} {W : World} {n : Int} (hj : j < K) (hi : i ≤ j) (hn : n = cntH M ys c (j + 1)) :
    (∃ j' q' : Nat, Value.int .i64 ((j : Int) + 1) = Value.int .i64 j' ∧ i ≤ j' ∧ j' ≤ K ∧ Value.int .i64 n = Value.int .i64 (cntH M ys c j') ∧ W.drewN q = W.drewN q') ∧
      K - (intOf (Value.int .i64 ((j : Int) + 1))).toNat < K - (intOf (Value.int .i64 (j : Int))).toNat :=
  ⟨⟨j + 1, q, rfl, by omega, by omega, by rw [hn], rfl⟩, meas hj⟩

theorem l2_up {K q : Nat} {W : World} {KL : List (List UInt8)} {n : Int} (hi : i < K) (hn : n = KL.length) (hl : KL.length ≤ i + 1) (hk : KRel M ys (i + 1) KL) :
    (∃ (i' : Nat) (KL : List (List UInt8)) (q' : Nat), Value.int .i64 ((i : Int) + 1) = Value.int .i64 i' ∧ Value.int .i64 n = Value.int .i64 KL.length ∧ i' ≤ K ∧ KL.length ≤ i' ∧ KRel M ys i' KL ∧ W.drewN q = W.drewN q') ∧
      K - (intOf (Value.int .i64 ((i : Int) + 1))).toNat < K - (intOf (Value.int .i64 (i : Int))).toNat :=
  ⟨⟨i + 1, KL, q, rfl, by rw [hn], by omega, hl, hk, rfl⟩, meas hi⟩
end

theorem zero25 (w : World) : (zeroValue 25).run Try.prog w = .ok (.slice none 0 0) w := by kernel_rfl

/-- The cells of a row that v stands for. -/
def Cells (W : World) (a : Option Addr) (n : Nat) (f : Nat → Option Value) : Prop := 0 < n → ∃ g, a = some ⟨g, 0, none⟩ ∧ g < W.heap.size ∧ ∀ j, j < n → W.cell? ⟨g, j, none⟩ = f j

theorem Cells.of_row {W : World} {n₀ n cap : Nat} {e : TypeId} {a : Option Addr} {xs : List Value} (h : W.ownsRow n₀ e 1 (.slice a n cap) n xs) : Cells W a n (fun j => xs[j]?) := by
  intro hn
  obtain ⟨g, cap', hv, hb, hl⟩ := h.form hn
  cases hv
  exact ⟨g, rfl, hl, fun j hj => h.cellAt j (by omega)⟩

theorem Cells.kept {W W' : World} {a : Option Addr} {n : Nat} {f : Nat → Option Value} (h : Cells W a n f) (hb : ∀ b, b < W.heap.size → W'.heap[b]? = W.heap[b]?) (hs : W.heap.size ≤ W'.heap.size) : Cells W' a n f := by
  intro hn
  obtain ⟨g, h1, h2, h3⟩ := h hn
  exact ⟨g, h1, by omega, fun j hj => (cell_eq (hb g h2) j).trans (h3 j hj)⟩

set_option maxRecDepth 100000 in
set_option maxHeartbeats 4000000 in
theorem law_any (a0 : Option Addr) (c0 : Nat) (l : List UInt8) (a1 : Option Addr) (c1 : Nat) (zs : List Int) (cnt : Int) (w : World) (h0 : Arg8 w a0 c0 l) (h1 : ArgI w a1 c1 zs) :
    Calls Try.prog 3 #[.slice a0 l.length c0, .slice a1 zs.length c1, .int .i64 cnt] w (LawEnd w) := by
  have H0 : Hid (Arg8 w a0 c0 l) := h0
  have H1 : Hid (ArgI w a1 c1 zs) := h1
  have hm0 : l.length ≤ maxLen := by have := h0.1; have := h0.2.1; omega
  have hm1 : zs.length ≤ maxLen := by have := h1.1; have := h1.2.1; omega
  clear h0 h1
  go_enter Try.func3, Try.ntmps3
  go_wp2_with fail
  refine (zzBytes_any a0 a1 _ c0 _ c1 cnt w hm0 hm1).mono ?_
  rintro e w' ⟨⟨b, rfl⟩, hw'⟩
  replace hw' := hw'.symm
  subst hw'
  unfold maxLen at hm0 hm1
  cases b with
  | false =>
    go_wp2_with fail
    go_ret
    exact ⟨rfl, Below.refl _ _⟩
  | true =>
    by_cases hl : l.length ≤ 4096
    case neg =>
      have hli : (4096 : Int) < (l.length : Int) := by omega
      go_wp2_with fail
      go_ret
      exact ⟨rfl, Below.refl _ _⟩
    have hli : decide ((4096 : Int) < (l.length : Int)) = false := by simp; omega
    by_cases hz : zs.length ≤ 4096
    case neg =>
      have hzi : (4096 : Int) < (zs.length : Int) := by omega
      go_wp2_with fail
      go_ret
      exact ⟨rfl, Below.refl _ _⟩
    have hzi : decide ((4096 : Int) < (zs.length : Int)) = false := by simp; omega
    go_wp2_with fail
    refine (parse_ref a0 c0 l w hl H0.out).mono ?_
    rintro e w1 (⟨rfl, hB1⟩ | ⟨R, vn, vc, vs, rfl, hR, hrows, hB1⟩)
    · go_wp2_with fail
      go_ret
      exact ⟨rfl, hB1⟩
    · obtain ⟨an, cn, rfl, han⟩ := row_slice hrows.rn
      obtain ⟨ac, cc, rfl, hac⟩ := row_slice hrows.rc
      obtain ⟨az, cz, rfl, haz⟩ := row_slice hrows.rs
      have hK : R.length ≤ 4096 := by have := hR.le; omega
      have hN1 := Cells.of_row hrows.rn
      have hC1 := Cells.of_row hrows.rc
      have hS1 := Cells.of_row hrows.rs
      clear hrows han hac haz
      go_wp2_with fail
      refine (clone_ref a0 c0 l w1 hl ?_).mono ?_
      · intro h
        obtain ⟨g, o, h1, _, h2⟩ := H0.out.2.2 h
        exact ⟨g, o, h1, fun j hj => cell_later hB1 (h2 j hj)⟩
      rintro e w2 ⟨ab, rfl, hab, hB2⟩
      go_wp2_with fail
      refine (cloneI_ref a1 c1 zs w2 hz ?_).mono ?_
      · intro h
        obtain ⟨x, h1, _, h2⟩ := H1.out.2.2.2 h
        exact ⟨x, h1, fun j hj => cell_later hB2 (cell_later hB1 (h2 j hj))⟩
      rintro e w3 ⟨rv, rfl, hrv, hB3⟩
      go_wp2_with fail
      refine (book_ref _ rv zs cnt w3 hz H1.out.2.2.1 ⟨_, _, _, rfl⟩ hrv).mono ?_
      rintro e w4 ⟨B, rfl, hbk, hB4⟩
      go_wp2_with fail
      refine (got_ref B ab l zs cnt R _ w4 hl hR hbk ?_).mono ?_
      · intro h
        obtain ⟨h1, h2⟩ := hab h
        have := (Array.getElem?_eq_some_iff.1 h2).1
        exact ⟨_, h1, (hB4.block _ (by have := hB3.size; omega)).trans ((hB3.block _ this).trans h2)⟩
      rintro e w5 ⟨M, ys, hM, hys, Y, mb, rfl, hG, hB5⟩
      have hmk := fun W0 : World => run_make_row' (P := Try.prog) 34 4 (.bool false) 1 Try.underlying34 (by kernel_rfl) rfl .i64 .i64 R.length (by omega) (by omega) W0
      go_wp2_with fail
      have s1 := hB1.size
      have s2 := hB2.size
      have s3 := hB3.size
      have s4 := hB4.size
      have s5 := hB5.size
      have h35 : ∀ b, b < w3.heap.size → w5.heap[b]? = w3.heap[b]? := fun b hb => (hB5.block b (by omega)).trans (hB4.block b hb)
      have h15 : ∀ b, b < w1.heap.size → w5.heap[b]? = w1.heap[b]? := fun b hb => (h35 b (by omega)).trans ((hB3.block b (by omega)).trans (hB2.block b hb))
      have hBW : Below w.heap.size w w5 := (((hB1.trans (hB2.mono s1)).trans (hB3.mono (by omega))).trans (hB4.mono (by omega))).trans (hB5.mono (by omega))
      have hrv5 := hrv.kept h35
      have hN5 := hN1.kept h15 (by omega)
      have hC5 := hC1.kept h15 (by omega)
      have hS5 := hS1.kept h15 (by omega)
      obtain ⟨V, hV, hfill0, hVg⟩ := made1 w5 R.length zs R
      rw [hV]
      obtain ⟨rb, hrb⟩ : ∃ rb, rb = w5.heap.size := ⟨_, rfl⟩
      rw [← hrb] at hfill0 ⊢
      have hVs := hVg.size
      have hV5 : ∀ b, b < w5.heap.size → V.heap[b]? = w5.heap[b]? := fun b hb => hVg.block b hb (by simp)
      clear hV hmk hN1 hC1 hS1 h15 h35 hB1 hB2 hB3 hB4 hB5 hrv hab hbk
      have HS5 : Hid (Cells w5 az R.length (fun j => (R.map fun r => Value.int .i64 (r.off : Int))[j]?)) := hS5
      have HBL : Hid (∀ (wq : World) i, Fill1 V rb R.length zs R i wq → ∀ b, b < w5.heap.size → wq.heap[b]? = w5.heap[b]?) := fun wq i hf b hb => (hf.2.block b (by omega) (by intro e; cases e; omega)).trans (hV5 b hb)
      have HG : Hid (∀ (wq : World) i, Fill1 V rb R.length zs R i wq → Groups w4.heap.size Y mb wq (srt (sel M ys))) := fun wq i hf => hG.kept (HBL.out wq i hf mb (by obtain ⟨_, _, _, _, h, _⟩ := hG; exact h.lt)) (fun b hb _ _ _ => HBL.out wq i hf b hb)
      have HBE : Hid (∀ (wq : World) i, Fill1 V rb R.length zs R i wq → Below w.heap.size w wq) := fun wq i hf => (hBW.grown hVg (by omega) (by simp)).grown hf.2 (by omega) (by intro k hk; cases hk; omega)
      have hSS := sel_sorted (M := M) hR hys
      have hyl : ys.length = R.length := by rw [← hys]; simp
      have HYS : Hid (∀ j (h : j < R.length) (h' : j < ys.length), R[j] = ys[j].1) := fun j h h' => by subst hys; simp
      have HRD : Hid (∀ j (h : j < R.length) (h' : j < ys.length), rd zs R j = (M ys[j].1.off).isNone) := fun j h h' => by rw [rd_eq h, ref_isNone hM, HYS.out j h h']
      have HGS : Hid (∀ s, grp s (srt (sel M ys)) = hs M ys s ys.length) := fun s => by rw [grp_srt hSS, hs_all]
      have HN5 : Hid (Cells w5 an R.length (fun j => (R.map fun r => strV (r.name l))[j]?)) := hN5
      have HC5 : Hid (Cells w5 ac R.length (fun j => (R.map fun r => strV (r.code l))[j]?)) := hC5
      clear hS5 hV5 hrb hG hM hys hVg hBW hN5 hC5 hSS
      go_loopw [14] (fun vi wq => ∃ i : Nat, vi = .int .i64 i ∧ i ≤ R.length ∧ Fill1 V rb R.length zs R i wq) (fun vi _ => R.length - (intOf vi).toNat)
      case atStart => exact ⟨0, rfl, by omega, hfill0⟩
      case round =>
        obtain ⟨i, rfl, hiK, hf⟩ := hrel
        have HF : Hid (Fill1 V rb R.length zs R i wr) := hf
        clear hf
        by_cases hi : i < R.length
        · have hii : (i : Int) < (R.length : Int) := by omega
          obtain ⟨gs, rfl, hgs, hcs⟩ := HS5.out (by omega)
          have hcs : wr.cell? ⟨gs, i, none⟩ = some (.int .i64 (R[i].off : Int)) := (cell_eq (HBL.out wr i HF.out gs hgs) i).trans ((hcs i hi).trans (by simp [hi]))
          have hrvq : RefV rv zs wr := hrv5.kept (HBL.out wr i HF.out)
          have cS := HF.out.1.cell hi
          have fS := HF.out.1.frozen i
          go_wp2_with (go_at_call 10; refine (contains_ref rv zs _ wr hz hrvq).mono ?_; rintro e w' ⟨rfl, hw'⟩; replace hw' := hw'.symm; subst hw')
          exact fill1_up HF.out rfl hi hi
        · obtain rfl : i = R.length := by omega
          obtain ⟨W6, hW6⟩ : ∃ W6, W6 = wr := ⟨_, rfl⟩
          rw [← hW6] at HF ⊢
          clear hW6
          obtain ⟨nG, KG, MkG, szG, hraw, hnG, hKn, hszK, hKm, hKs, hKo⟩ := HG.out W6 _ HF.out
          have HLen : Hid (∀ q, (Builtin.len_ #[30] 3 #[.map (some mb)]).run Try.prog (W6.drewN q) = .ok (.int .i64 szG) (W6.drewN q)) := fun q => (hraw.of_block (w' := W6.drewN q) rfl).len Try.underlying30 3
          have HEnd : Hid (∀ KL, KRel M ys R.length KL → szG = KL.length) := fun KL h => by rw [hszK]; exact (hyl ▸ h).done hKn (fun s => by rw [hKm, HGS.out])
          have HLk : Hid (∀ c, c.length ≤ 4096 → 2 ≤ cntH M ys c R.length → ∃ fb, (∀ q, (Instr.lookup 30 (.map (some mb)) (.string (bs c)) true).run Try.prog (W6.drewN q) = .ok (.tuple #[.slice (some ⟨fb, 0, none⟩) (cntH M ys c R.length) (cntH M ys c R.length), .bool true]) (W6.drewN q)) ∧
              ∀ j (hj : j < ys.length), hit M c ys[j] = true → W6.cell? ⟨fb, cntH M ys c j, none⟩ = some (.string (bs (ys[j].1.name l)))) := fun c hcl h2 => by
            have hkey : keyOf Try.prog 9 (.string (bs c)) = some (litS c) := WideMaps.keyOf_string_mk (P := Try.prog) Try.underlying9 (s := bs c) (by show c.toArray.size ≤ maxLen; unfold maxLen; simp; omega)
            have hcnt : (grp c (srt (sel M ys))).length = cntH M ys c R.length := by rw [HGS.out, cntH, hyl]
            obtain ⟨fb, _, _, _, hMk, hfb⟩ := hKs c (by rw [hcnt]; exact h2)
            refine ⟨fb, fun q => ?_, fun j hj hh => ?_⟩
            · have := (hraw.of_block (w' := W6.drewN q) rfl).look_ok keyS Try.underlying30 (zero25 _) hkey
              rw [hMk, hcnt] at this
              exact this
            · have hat := hs_at hj hh
              rw [cell_block hfb, HGS.out, cntH]
              simp [hat, nameV]
          have hBe := HBE.out W6 _ HF.out
          have h56 := HBL.out W6 _ HF.out
          have HNm : Hid (∀ g j (h : j < R.length), an = some ⟨g, 0, none⟩ → W6.cell? ⟨g, j, none⟩ = some (.string (bs (R[j].name l)))) := fun g j h e => by
            obtain ⟨g', h1, h2, h3⟩ := HN5.out (by omega)
            rw [h1] at e
            cases e
            exact (cell_eq (h56 g h2) j).trans ((h3 j h).trans (by simp [h, strV]))
          have HCd : Hid (∀ g j (h : j < R.length), ac = some ⟨g, 0, none⟩ → W6.cell? ⟨g, j, none⟩ = some (.string (bs (R[j].code l)))) := fun g j h e => by
            obtain ⟨g', h1, h2, h3⟩ := HC5.out (by omega)
            rw [h1] at e
            cases e
            exact (cell_eq (h56 g h2) j).trans ((h3 j h).trans (by simp [h, strV]))
          have HRdc : Hid (∀ j (h : j < R.length), W6.cell? ⟨rb, j, none⟩ = some (.bool (rd zs R j))) := fun j h => (HF.out.1.cell h).trans (by simp [rdAt, h])
          clear h56 HG HBE HBL HS5 hraw hnG hKn hszK hKm hKs hKo
          go_wp2_with fail
          go_loopw [15, 16] (fun vk vi wq => ∃ (i : Nat) (KL : List (List UInt8)) (q : Nat), vi = .int .i64 i ∧ vk = .int .i64 KL.length ∧ i ≤ R.length ∧ KL.length ≤ i ∧ KRel M ys i KL ∧ wq = W6.drewN q) (fun _ vi _ => R.length - (intOf vi).toNat)
          case atStart => exact ⟨0, [], 0, rfl, rfl, by omega, by simp, KRel.start M ys, rfl⟩
          case round =>
            obtain ⟨i, KL, q, rfl, rfl, hiK, hKi, hkr, rfl⟩ := hrel
            have HKR : Hid (KRel M ys i KL) := hkr
            clear hkr
            by_cases hi : i < R.length
            · have hii : (i : Int) < (R.length : Int) := by omega
              obtain ⟨gn, rfl, _⟩ := HN5.out (by omega)
              obtain ⟨gc, rfl, _⟩ := HC5.out (by omega)
              have hiy : i < ys.length := by omega
              have cRi := HRdc.out i hi
              cases hrd : rd zs R i with
              | false =>
                rw [hrd] at cRi
                have HRi : Hid ((M ys[i].1.off).isNone = false) := by show _ = _; rw [← HRD.out i hi hiy]; exact hrd
                clear hrd
                go_wp2_with fail
                exact ⟨⟨i + 1, KL, q, rfl, rfl, by omega, by omega, HKR.out.miss hiy HRi.out, rfl⟩, meas hi⟩
              | true =>
                rw [hrd] at cRi
                have HRi : Hid ((M ys[i].1.off).isNone = true) := by show _ = _; rw [← HRD.out i hi hiy]; exact hrd
                clear hrd
                obtain ⟨ci, hci⟩ : ∃ ci, ci = R[i].code l := ⟨_, rfl⟩
                have HCI : Hid (ys[i].1.code l = ci) := by show _ = _; rw [hci, HYS.out i hi hiy]
                have cCi : W6.cell? ⟨gc, i, none⟩ = some (.string (bs ci)) := by rw [hci]; exact HCd.out gc i hi rfl
                clear hci
                go_wp2_with fail
                go_loopw [17, 18, 19] (fun vf vn vj wq => ∃ j q' : Nat, vj = .int .i64 j ∧ j ≤ R.length ∧ vf = .bool (frst M ys ci i j) ∧ vn = .int .i64 (cntH M ys ci j) ∧ wq = W6.drewN q') (fun _ _ vj _ => R.length - (intOf vj).toNat)
                case atStart => exact ⟨0, q, rfl, by omega, by rw [frst_zero], by rw [cntH_zero]; rfl, rfl⟩
                case round =>
                  obtain ⟨j, q, rfl, hjK, rfl, rfl, rfl⟩ := hrel
                  have hcj : cntH M ys ci j ≤ 4096 := by have := hs_small M ys ci j; unfold cntH; omega
                  by_cases hj : j < R.length
                  · have hji : (j : Int) < (R.length : Int) := by omega
                    have hjy : j < ys.length := by omega
                    have cRj := HRdc.out j hj
                    have cCj := HCd.out gc j hj rfl
                    have hRj := HRD.out j hj hjy
                    rw [HYS.out j hj hjy] at cCj
                    obtain ⟨cj, hcj'⟩ : ∃ cj, cj = ys[j].1.code l := ⟨_, rfl⟩
                    rw [← hcj'] at cCj
                    have HB : Hid (∀ b, rd zs R j = b → hit M ci ys[j] = (b && decide (cj = ci))) := fun b hb => by rw [hit, ← hRj, hb, hcj']
                    clear hRj hcj'
                    cases hrd : rd zs R j with
                    | false =>
                      rw [hrd] at cRj
                      have HM : Hid (hit M ci ys[j] = false) := HB.out false hrd
                      clear hrd HB
                      go_wp2_with fail
                      go_quiet (fail)
                      go_wp2_with fail
                      exact l3_up hj (frst_miss hjy HM.out).symm (by rw [cntH_miss hjy HM.out])
                    | true =>
                      rw [hrd] at cRj
                      have HT := HB.out true hrd
                      clear hrd HB
                      by_cases he : cj = ci
                      · subst he
                        have HM : Hid (hit M cj ys[j] = true) := by show _ = _; simpa using HT
                        clear HT
                        by_cases hlt : j < i
                        · have hlti : (j : Int) < (i : Int) := by omega
                          go_wp2_with fail
                          go_quiet (fail)
                          go_wp2_with fail
                          exact l3_up hj (frst_lt hjy HM.out hlt).symm (by rw [cntH_hit hjy HM.out]; rfl)
                        · have hlti : decide ((j : Int) < (i : Int)) = false := by simp; omega
                          have hlt' : i ≤ j := by omega
                          clear hlt
                          go_wp2_with fail
                          go_quiet (fail)
                          go_wp2_with fail
                          exact l3_up hj (frst_ge hlt').symm (by rw [cntH_hit hjy HM.out]; rfl)
                      · have HM : Hid (hit M ci ys[j] = false) := by show _ = _; simpa [he] using HT
                        have heb : (cj == ci) = false := by simpa using he
                        clear HT he
                        go_wp2_with fail
                        go_quiet (fail)
                        go_wp2_with fail
                        exact l3_up hj (frst_miss hjy HM.out).symm (by rw [cntH_miss hjy HM.out])
                  · obtain rfl : j = R.length := by omega
                    cases hfr : frst M ys ci i R.length with
                    | false =>
                      have HSK : Hid (KRel M ys (i + 1) KL) := HKR.out.skip hiy HRi.out (.inl (by rw [HCI.out]; exact frst_end' hiK hfr))
                      clear hfr
                      go_wp2_with fail
                      exact l2_up hi rfl (by omega) HSK.out
                    | true =>
                      have HZ : Hid (cntH M ys ci i = 0) := frst_end hiK hfr
                      clear hfr
                      by_cases h2 : 2 ≤ cntH M ys ci R.length
                      · have h2i : decide (((cntH M ys ci R.length : Nat) : Int) < 2) = false := by simp; omega
                        have hcl : ci.length ≤ 4096 := by rw [← HCI.out, length_code ys[i].2]; have := ys[i].2.code.2; omega
                        obtain ⟨fb, hlk, hfb⟩ := HLk.out ci hcl h2
                        have HFB : Hid (∀ j (hj : j < ys.length), hit M ci ys[j] = true → W6.cell? ⟨fb, cntH M ys ci j, none⟩ = some (.string (bs (ys[j].1.name l)))) := hfb
                        have hlkq := hlk q
                        have HAD : Hid (KRel M ys (i + 1) (ci :: KL)) := by
                          have := HKR.out.add hiy HRi.out (by rw [HCI.out]; exact HZ.out) (by rw [HCI.out, hyl]; exact h2)
                          rw [HCI.out] at this
                          exact this
                        clear hlk hfb
                        go_wp2_with fail
                        clear hlkq
                        go_loopw [22, 23] (fun va vj wq => ∃ j q' : Nat, vj = .int .i64 j ∧ i ≤ j ∧ j ≤ R.length ∧ va = .int .i64 (cntH M ys ci j) ∧ wq = W6.drewN q') (fun _ vj _ => R.length - (intOf vj).toNat)
                        case atStart => exact ⟨i, q, rfl, by omega, by omega, by rw [HZ.out]; rfl, rfl⟩
                        case round =>
                          obtain ⟨j, q, rfl, hij, hjK, rfl, rfl⟩ := hrel
                          by_cases hj : j < R.length
                          · have hji : (j : Int) < (R.length : Int) := by omega
                            have hjy : j < ys.length := by omega
                            have cRj := HRdc.out j hj
                            have cCj := HCd.out gc j hj rfl
                            have cNj := HNm.out gn j hj rfl
                            have hRj := HRD.out j hj hjy
                            rw [HYS.out j hj hjy] at cCj cNj
                            obtain ⟨cj, hcj'⟩ : ∃ cj, cj = ys[j].1.code l := ⟨_, rfl⟩
                            obtain ⟨nj, hnj⟩ : ∃ nj, nj = ys[j].1.name l := ⟨_, rfl⟩
                            rw [← hcj'] at cCj
                            rw [← hnj] at cNj
                            have HB : Hid (∀ b, rd zs R j = b → hit M ci ys[j] = (b && decide (cj = ci))) := fun b hb => by rw [hit, ← hRj, hb, hcj']
                            have HNJ : Hid (nj = ys[j].1.name l) := hnj
                            clear hRj hcj' hnj
                            cases hrd : rd zs R j with
                            | false =>
                              rw [hrd] at cRj
                              have HM : Hid (hit M ci ys[j] = false) := HB.out false hrd
                              clear hrd HB
                              go_wp2_with fail
                              go_quiet (fail)
                              go_wp2_with fail
                              exact l4_up hj hij (by rw [cntH_miss hjy HM.out])
                            | true =>
                              rw [hrd] at cRj
                              have HT := HB.out true hrd
                              clear hrd HB
                              by_cases he : cj = ci
                              · subst he
                                have HM : Hid (hit M cj ys[j] = true) := by show _ = _; simpa using HT
                                clear HT
                                have cF := HFB.out j hjy HM.out
                                rw [← HNJ.out] at cF
                                have hlt := cntH_lt hyl.symm hjy HM.out
                                have hlti : ((cntH M ys cj j : Nat) : Int) < ((cntH M ys cj R.length : Nat) : Int) := by omega
                                have hcjs : cntH M ys cj j ≤ 4096 := by have := hs_small M ys cj j; unfold cntH; omega
                                go_wp2_with fail
                                go_quiet (fail)
                                go_wp2_with fail
                                go_quiet (fail)
                                go_wp2_with fail
                                exact l4_up hj hij (by rw [cntH_hit hjy HM.out]; rfl)
                              · have HM : Hid (hit M ci ys[j] = false) := by show _ = _; simpa [he] using HT
                                have heb : (cj == ci) = false := by simpa using he
                                clear HT he
                                go_wp2_with fail
                                go_quiet (fail)
                                go_wp2_with fail
                                exact l4_up hj hij (by rw [cntH_miss hjy HM.out])
                          · obtain rfl : j = R.length := by omega
                            go_wp2_with fail
                            exact l2_up (KL := ci :: KL) hi (by simp) (by simp; omega) HAD.out
                      · have h2i : ((cntH M ys ci R.length : Nat) : Int) < 2 := by omega
                        have HSK : Hid (KRel M ys (i + 1) KL) := HKR.out.skip hiy HRi.out (.inr (by rw [HCI.out, hyl]; show cntH M ys ci R.length < 2; omega))
                        go_wp2_with fail
                        exact l2_up hi rfl (by omega) HSK.out
            · obtain rfl : i = R.length := by omega
              have hlen := HLen.out q
              rw [HEnd.out KL HKR.out] at hlen
              go_wp2_with fail
              go_ret
              exact ⟨rfl, below_drewN hBe _⟩

end Go.Proofs.Qxb6609276a
