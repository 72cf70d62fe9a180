/-
  (*bookFolders).sharedCodes: the whole.
-/
import Derived.Test.Qxb6609276aGroups
import Derived.Laws.EntriesVeiled
import Derived.BigQuiet
namespace Go.Proofs.Qxb6609276a
open Go.RowKit Go.Shelf
set_option linter.unusedSimpArgs false
set_option linter.unusedVariables false
attribute [local go_sem] Oper.semAt_some
attribute [local go_sem ↓] Go.wp_at_zero Go.wp_at_succ

def SharedOf {l : List UInt8} (n₀ : Nat) (M : Int → Option Value) (R : List Rc) (w : World) (e : Ending) (w' : World) : Prop :=
  ∃ ys : List (It l), ys.map Subtype.val = R ∧ SharedEnd n₀ (sel M ys) w e w'

def lenAt (Y : Nat) (W : World) : Nat := match W.cell? ⟨Y, 0, none⟩ with | some (.slice _ n _) => n | _ => 0

/-- The outer loop's relation. -/
def LRel {l : List UInt8} (n₀ C B g D blk mb : Nat) (W3 w : World) (S : List (It l)) (wr : World) : Prop :=
  ∃ (done rest : List (It l)) (A : Option Addr) (cap : Nat), S = done ++ rest ∧ (∀ x ∈ done, ∀ y ∈ rest, x.1.code l ≠ y.1.code l) ∧ Boxed wr (n₀ + 1) 23 (.slice A rest.length cap) ∧
    (0 < rest.length → A = some ⟨blk, done.length, none⟩ ∧ rest.length ≤ cap) ∧ Same [C, n₀, B, g, D, blk] W3 wr ∧ W3.heap.size ≤ wr.heap.size ∧ Below n₀ w wr ∧ Groups n₀ (n₀ + 1) mb wr done

/-- The first k of 'rest' have the code c. -/
def Pre {l : List UInt8} (c : List UInt8) (rest : List (It l)) (k : Nat) : Prop := ∀ y ∈ rest.take k, y.1.code l = c
theorem Pre.succ {l : List UInt8} {c : List UInt8} {rest : List (It l)} {k : Nat} (h : Pre c rest k) (hk : k < rest.length) (he : rest[k].1.code l = c) : Pre c rest (k + 1) := by
  intro y hy
  rw [List.take_succ_eq_append_getElem hk] at hy
  rcases List.mem_append.1 hy with hy | hy
  · exact h y hy
  · rw [List.mem_singleton.1 hy]; exact he
/-- .. and the next, if there is one, has not. -/
def Stops {l : List UInt8} (c : List UInt8) (rest : List (It l)) (k : Nat) : Prop := ∀ z, (rest.drop k).head? = some z → z.1.code l ≠ c
/-- The k-th of 'rest' has the code c. -/
def Goes {l : List UInt8} (c : List UInt8) (rest : List (It l)) (k : Nat) : Prop := ∃ h : k < rest.length, (rest[k]'h).1.code l = c
theorem Stops.of {l : List UInt8} {c : List UInt8} {rest : List (It l)} {k : Nat} (h : ¬ Goes c rest k) : Stops c rest k := by
  intro z hz hzc
  rw [List.head?_drop] at hz
  obtain ⟨hk, e⟩ := List.getElem?_eq_some_iff.1 hz
  exact h ⟨hk, by rw [e]; exact hzc⟩
theorem round_up {wr : World} {k m q : Nat} {Pk : Nat → Prop} (hk : k < m + 1) (h1 : 1 ≤ k) (hP : Pk (k + 1)) :
    (∃ k_1 q_1 : Nat, Value.int IntKind.i64 ((k : Int) + 1) = Value.int IntKind.i64 k_1 ∧ 1 ≤ k_1 ∧ k_1 ≤ m + 1 ∧ Pk k_1 ∧ wr.drewN (q + 1) = wr.drewN q_1) ∧
      m + 1 - (intOf (Value.int IntKind.i64 ((k : Int) + 1))).toNat < m + 1 - (intOf (Value.int IntKind.i64 (k : Int))).toNat := by
  have hwr : (k : Int) + 1 = ((k + 1 : Nat) : Int) := rfl
  rw [hwr]
  exact ⟨⟨k + 1, q + 1, rfl, by omega, by omega, hP, rfl⟩, by simp only [intOf, Int.toNat_natCast]; omega⟩

theorem cell_eq {W W' : World} {b : Nat} (h : W'.heap[b]? = W.heap[b]?) (j : Nat) : W'.cell? ⟨b, j, none⟩ = W.cell? ⟨b, j, none⟩ := by simp [World.cell?, h]

theorem Same.of_grown {xs : List Nat} {W W' : World} (h : ∀ x ∈ xs, x < W.heap.size) (hg : W.grownBy W' none) : Same xs W W' := fun x hx => hg.block x (h x hx) (by simp)

theorem Groups.upd {l : List UInt8} {n₀ Y mb : Nat} {W1 : World} {done run : List (It l)} {c : List UInt8} (h : Groups n₀ Y mb W1 done) (hx : ∀ y ∈ done, y.1.code l ≠ c) (hr : ∀ y ∈ run, y.1.code l = c) (h2 : 2 ≤ run.length)
    (fb : Nat) (f1 : n₀ ≤ fb) (f2 : fb ≠ Y) (f3 : fb ≠ mb) (f5 : W1.heap[fb]? = some (.cells (run.map nameV).toArray 9 (0, 0))) (hmax : done.length < maxLen) (hcl : c.length ≤ maxLen) :
    ∃ W2, (Instr.mapUpdate 30 (.map (some mb)) (.string (bs c)) (.slice (some ⟨fb, 0, none⟩) run.length run.length)).run Try.prog W1 = .ok () W2 ∧ Groups n₀ Y mb W2 (done ++ run) ∧ W1.grownBy W2 (some mb) := by
  have hkey : keyOf Try.prog 9 (.string (bs c)) = some (litS c) := WideMaps.keyOf_string_mk (P := Try.prog) Try.underlying9 (s := bs c) (by show c.toArray.size ≤ maxLen; simpa using hcl)
  obtain ⟨n, K, Mk, sz, h1, hn, h3, h4, h5, h6, h7⟩ := id h
  obtain ⟨W2, hrun, _, hg⟩ := h1.update litS_inj keyS Try.underlying30 (by omega) (.slice (some ⟨fb, 0, none⟩) run.length run.length) hkey
  refine ⟨W2, hrun, h.more hx hr h2 fb f1 f2 f3 f5 (fun n Mk sz hn h1 => ?_) hg, hg⟩
  obtain ⟨W2', hrun', hR, _⟩ := h1.update litS_inj keyS Try.underlying30 (by omega) (.slice (some ⟨fb, 0, none⟩) run.length run.length) hkey
  rw [hrun] at hrun'
  cases hrun'
  exact hR

theorem Groups.drewN {l : List UInt8} {n₀ Y mb : Nat} {W : World} {done : List (It l)} (h : Groups n₀ Y mb W done) (q : Nat) : Groups n₀ Y mb (W.drewN q) done := h.kept rfl (fun _ _ _ _ _ => rfl)
theorem below_drewN {B : Nat} {a W : World} (h : Below B a W) (q : Nat) : Below B a (W.drewN q) := ⟨h.os, h.tape, h.output, h.size, h.block⟩

theorem lenAt_boxed {W : World} {Y : Nat} {t : TypeId} {A : Option Addr} {n c : Nat} (h : Boxed W Y t (.slice A n c)) : lenAt Y W = n := by simp [lenAt, h.cell]

theorem grown_setCell (w : World) (a : Addr) (u : Value) : w.grownBy (w.setCell a u) (some a.block) :=
  ⟨rfl, rfl, rfl, by rw [Deep.nblk_setCell]; exact Nat.le_refl _, fun k _ hk => Deep.blk_setCell_other _ _ _ _ (fun e => hk (by rw [e]))⟩

theorem LRel.fin {l : List UInt8} {n₀ C B g D blk mb : Nat} {W3 w wr V : World} {done rest : List (It l)} {c : List UInt8} {k n cap0 cap'' : Nat} {v0 : Value} {A0 Af : Option Addr}
    (hsS : (done ++ rest).Pairwise fun x y => ltOf cfI y x = false) (hdis : ∀ x ∈ done, ∀ y ∈ rest, x.1.code l ≠ y.1.code l) (hP : Pre c rest k) (hSt : Stops c rest k) (hk1 : 1 ≤ k) (hkl : k ≤ rest.length)
    (hY : Boxed V (n₀ + 1) 23 v0) (hne : ∀ x ∈ [C, n₀, B, g, D, blk], x ≠ n₀ + 1) (hmb : mb ≠ n₀ + 1) (hsame : Same [C, n₀, B, g, D, blk] W3 V) (hsz : W3.heap.size ≤ V.heap.size) (hB : Below n₀ w V)
    (hg : Groups n₀ (n₀ + 1) mb V (done ++ rest.take k)) (hY0 : Boxed wr (n₀ + 1) 23 (.slice A0 rest.length cap0)) (hn : n = rest.length - k) (hcap : rest.length - k ≤ cap'') (hAf : 0 < rest.length - k → Af = some ⟨blk, done.length + k, none⟩) :
    LRel n₀ C B g D blk mb W3 w (done ++ rest) (V.setCell ⟨n₀ + 1, 0, none⟩ (.slice Af n cap'')) ∧
      lenAt (n₀ + 1) (V.setCell ⟨n₀ + 1, 0, none⟩ (.slice Af n cap'')) < lenAt (n₀ + 1) wr := by
  subst hn
  have hYf := Boxed.set (.slice Af (rest.length - k) cap'') hY
  refine ⟨⟨done ++ rest.take k, rest.drop k, _, _, by rw [List.append_assoc, List.take_append_drop], ?_, by rw [List.length_drop]; exact hYf, fun hpos => ?_, ?_, ?_, ?_, ?_⟩, ?_⟩
  · have he := run_ends (run := rest.take k) (rest := rest.drop k) (c := c) (by rw [List.take_append_drop]; exact (List.pairwise_append.1 hsS).2.1) hP (by intro e; have := congrArg List.length e; rw [List.length_take] at this; simp only [List.length_nil] at this; omega) hSt
    intro x hx y hy
    rcases List.mem_append.1 hx with hx | hx
    · exact hdis x hx y (List.mem_of_mem_drop hy)
    · rw [hP x hx]
      exact (he y hy).symm
  · rw [List.length_drop] at hpos
    rw [List.length_drop, List.length_append, List.length_take, Nat.min_eq_left hkl]
    exact ⟨hAf hpos, hcap⟩
  · exact fun x hx => (Deep.blk_setCell_other _ _ _ _ (hne x hx)).trans (hsame x hx)
  · rw [Deep.nblk_setCell]; exact hsz
  · exact hB.setCell (by show n₀ ≤ n₀ + 1; omega) _
  · exact hg.kept (Deep.blk_setCell_other _ _ _ _ hmb) (fun b _ hb _ _ => Deep.blk_setCell_other _ _ _ _ hb)
  · rw [lenAt_boxed hYf, lenAt_boxed hY0]
    omega

/-- The i-th of the first j names. -/
def nmAt {l : List UInt8} (rest : List (It l)) (j i : Nat) : Value := match (rest.take j)[i]? with | some x => nameV x | none => .string ⟨#[]⟩

theorem nmAt_succ {l : List UInt8} {rest : List (It l)} {j : Nat} (hj : j < rest.length) (i : Nat) : (if i = j then nameV rest[j] else nmAt rest j i) = nmAt rest (j + 1) i := by
  unfold nmAt
  by_cases e : i = j
  · subst e
    simp [hj]
  · rw [if_neg e]
    by_cases h : i < j
    · rw [List.getElem?_take_of_lt h, List.getElem?_take_of_lt (by omega)]
    · rw [List.getElem?_eq_none (by simp; omega), List.getElem?_eq_none (by simp; omega)]

theorem nmAt_row {l : List UInt8} {rest : List (It l)} {k fb : Nat} {W : World} (hk : k ≤ rest.length) (h : W.rowIs fb 9 k (nmAt rest k)) : W.heap[fb]? = some (.cells ((rest.take k).map nameV).toArray 9 (0, 0)) := by
  obtain ⟨c, hb, hc, hi⟩ := h
  rw [hb]
  congr 2
  apply Array.ext
  · simp [hc]; omega
  · intro i h1 h2
    have := hi i (by omega)
    rw [Array.getElem?_eq_getElem h1] at this
    rw [Option.some.inj this]
    simp at h2
    simp [nmAt, h2]

theorem made_row {l : List UInt8} (wr : World) (Q k : Nat) (rest : List (It l)) : ∃ V, (wr.drewN Q).alloc (.cells (madeCells #[.string ⟨#[]⟩] k) 9) = V ∧ V.rowIs wr.heap.size 9 k (nmAt rest 0) ∧ wr.grownBy V none := by
  refine ⟨_, rfl, ?_, ?_⟩
  · have h := World.rowIs_made (wr.drewN Q) (.string ⟨#[]⟩) k 9
    exact h.congr (fun i _ => by simp [nmAt])
  · have h := World.grownBy_alloc (wr.drewN Q) (.cells (madeCells #[.string ⟨#[]⟩] k) 9) none
    exact ⟨h.os, h.tape, h.output, h.size, h.block⟩

/-- Between the made row and the loop's rounds. -/
def Fill {l : List UInt8} (V : World) (fb k : Nat) (rest : List (It l)) (j : Nat) (wq : World) : Prop := wq.rowIs fb 9 k (nmAt rest j) ∧ V.grownBy wq (some fb)

theorem Fill.next {l : List UInt8} {V wq : World} {fb k j : Nat} {rest : List (It l)} (h : Fill V fb k rest j wq) (hj : j < rest.length) : Fill V fb k rest (j + 1) (wq.setCell ⟨fb, j, none⟩ (nameV rest[j])) :=
  ⟨(h.1.set j _).congr (fun i _ => nmAt_succ hj i), h.2.trans (grown_setCell wq ⟨fb, j, none⟩ _)⟩

theorem fill_up {l : List UInt8} {V wq : World} {fb k j : Nat} {rest : List (It l)} {y : It l} (h : Fill V fb k rest j wq) (hjk : j < k) (hj : j < rest.length) (hy : y = rest[j]) :
    (∃ j' : Nat, Value.int IntKind.i64 ((j : Int) + 1) = Value.int IntKind.i64 j' ∧ j' ≤ k ∧ Fill V fb k rest j' (wq.setCell ⟨fb, j, none⟩ (.string (bs (y.1.name l))))) ∧
      k - (intOf (Value.int IntKind.i64 ((j : Int) + 1))).toNat < k - (intOf (Value.int IntKind.i64 (j : Int))).toNat := by
  have hwr : (j : Int) + 1 = ((j + 1 : Nat) : Int) := rfl
  rw [hwr, hy]
  exact ⟨⟨j + 1, rfl, by omega, h.next hj⟩, by simp only [intOf, Int.toNat_natCast]; omega⟩

set_option maxRecDepth 100000 in
set_option maxHeartbeats 4000000 in
theorem shared_any (B g bm : Nat) (a : Option Addr) (l : List UInt8) (cnt : Int) (M : Int → Option Value) (nm sz : Nat) (R : List Rc) (hn : l.length ≤ 4096) (hR : Chain l 0 R l.length) (hMv : ∀ z, M z = none ∨ ∃ x, M z = some (.iface 59 (.pointer (some x))))
    (w : World) (hF : Bk w B g bm a l cnt M nm sz) (hlg : g < w.heap.size) :
    Calls Try.prog 12 #[.pointer (some ⟨B, 0, none⟩)] w (fun e w' => SharedOf (l := l) w.heap.size M R w e w') := by
  obtain ⟨i0, hi, hz0, hz1, hz2⟩ := info_parts Try.info3
  refine (callsIn_wide (n := 8)).1 ?_
  refine callsIn_of_wp_marks Try.func12 rfl trivial ?_ rfl
  simp only [Try.ntmps12, List.size_toArray, List.length_cons, List.length_nil, Nat.reduceAdd, Nat.reduceSub, Array.replicate_succ, Array.replicate_zero, List.push_toArray, List.append_toArray, List.nil_append, List.cons_append]
  have hf14 : Fence.wide.fn 14 := trivial
  have hmm := @run_makeMap Try.prog
  gi_wp2_with (gi_at_call 14; refine (callsIn_wide.2 (all_any _ _)).mono ?_; rintro e w' ⟨rfl, rfl⟩)
  have hlB : B < w.heap.size := (Array.getElem?_eq_some_iff.1 hF.str).1
  have hlm : bm < w.heap.size := hF.map.lt
  have bF := ((Boxed.new w 32 (.pointer (some ⟨B, 0, none⟩))).alloc (.cells #[.slice none 0 0] 23)).alloc (.cells #[.pointer (some ⟨B, 0, none⟩)] 32)
  have bY := (Boxed.new (w.alloc (.cells #[.pointer (some ⟨B, 0, none⟩)] 32)) 23 (.slice none 0 0)).alloc (.cells #[.pointer (some ⟨B, 0, none⟩)] 32)
  have bN := Boxed.new ((w.alloc (.cells #[.pointer (some ⟨B, 0, none⟩)] 32)).alloc (.cells #[.slice none 0 0] 23)) 32 (.pointer (some ⟨B, 0, none⟩))
  simp only [World.size_alloc] at bY bN
  have hB0 : Below w.heap.size w (((w.alloc (.cells #[.pointer (some ⟨B, 0, none⟩)] 32)).alloc (.cells #[.slice none 0 0] 23)).alloc (.cells #[.pointer (some ⟨B, 0, none⟩)] 32)) := (((Below.refl _ w).alloc (Nat.le_refl _) _).alloc (by simp) _).alloc (by simp; omega) _
  have hsz : (((w.alloc (.cells #[.pointer (some ⟨B, 0, none⟩)] 32)).alloc (.cells #[.slice none 0 0] 23)).alloc (.cells #[.pointer (some ⟨B, 0, none⟩)] 32)).heap.size = w.heap.size + 3 := by simp
  obtain ⟨W0, hW0⟩ : ∃ W0, ((w.alloc (.cells #[.pointer (some ⟨B, 0, none⟩)] 32)).alloc (.cells #[.slice none 0 0] 23)).alloc (.cells #[.pointer (some ⟨B, 0, none⟩)] 32) = W0 := ⟨_, rfl⟩
  rw [hW0] at bF bY bN hB0 hsz ⊢
  clear hW0
  have hF0 : Fs W0 (w.heap.size + 1 + 1) B g bm a l cnt M nm sz := ⟨bN, (hB0.block B hlB).trans hF.str, fun hl => (hB0.block g (Array.getElem?_eq_some_iff.1 (hF.byt hl)).1).trans (hF.byt hl), hF.map.of_block (hB0.block bm hlm), hF.adr⟩
  have hRl : R.length ≤ 4096 := by have := hR.le; omega
  refine wpIn_rangeFunc_ownH (F := Fence.wide) rfl (by omega) (gf := 23) (lb := #[.pointer (some ⟨w.heap.size + 1 + 1, 0, none⟩)]) rfl trivial (enters_of Try.func23 (by kernel_rfl) rfl)
    (all_stops 7 (by omega) (w.heap.size + 1 + 1) B g bm a l cnt M nm sz R hn hR hMv W0 hF0) (Kp := Same [w.heap.size + 1 + 1, B, g, bm]) (fun h1 h2 => h1.trans h2) ?hKb (Below.refl _ _) (fun _ => rfl)
    (fun pre W => ((∃ v, Boxed W (w.heap.size + 1) 23 v ∧ W.ownsRow w.heap.size 3 1 v (sel M pre).length ((sel M pre).map encI) ∧ (v = .slice none 0 0 ↔ sel M pre = [])) ∧ (Boxed W w.heap.size 32 (.pointer (some ⟨B, 0, none⟩)) ∧ Boxed W (w.heap.size + 1 + 1) 32 (.pointer (some ⟨B, 0, none⟩)))) ∧ Below w.heap.size w W)
    (fun _ _ _ => False)
    (OwnFrom.and (OwnFrom.and (Own.from (holdsRow_own w.heap.size (w.heap.size + 1) 23 3 1 (fun pre => (sel M pre).length) (fun pre => (sel M pre).map encI) (fun pre v => v = .slice none 0 0 ↔ sel M pre = [])) _) (OwnFrom.and (Own.from (boxed_own _ _ _) _) (Own.from (boxed_own _ _ _) _))) (ownFrom_below (Nat.le_refl _) (by omega)))
    (fun _ _ _ _ _ hs _ _ => hs)
    ⟨⟨⟨_, bY, World.ownsRow_nil _ _ _ _, by simp [sel]⟩, bF, bN⟩, hB0⟩
    (fun x a' W => ∃ Bx, w.heap.size + 1 + 1 < Bx ∧ W.heap[Bx]? = some (.cells #[.string (bs (x.1.name l)), .string (if (M x.1.off).isNone then bs (x.1.code l) else ⟨#[]⟩), (M x.1.off).getD .nilIface] 50 (0, 0)) ∧ a' = { tmps := #[.pointer (some ⟨B, 0, none⟩), .pointer (some ⟨w.heap.size, 0, none⟩), .map none, .pointer (some ⟨w.heap.size + 1, 0, none⟩), .int .i64 (x.1.off : Int), .pointer (some ⟨Bx, 0, none⟩), undef, undef, undef, undef, undef, undef, undef, undef, undef, undef, .pointer (some ⟨B, 0, none⟩), .func (.func 23) #[] #[.pointer (some ⟨w.heap.size + 1 + 1, 0, none⟩)], .int .i64 (x.1.off : Int), folder l M x.1, undef, undef, undef, undef, undef, undef, undef, undef, undef, undef, undef, undef, undef, undef, undef, undef, undef, undef, undef, undef, undef, undef, undef, undef, undef, undef, undef, undef, undef, undef, undef, undef, undef, undef, undef, undef, undef, undef, undef, undef, undef, undef, undef, undef, undef, undef, undef, undef, undef, undef, undef, undef, undef, undef, undef, undef, undef, undef, undef, undef, undef, undef, undef, undef, undef, undef, undef, undef, undef, undef], defers := [] })
    (fun x a' _ X Y row hs hg hr => by obtain ⟨Bx, h1, h2, h3⟩ := hs; exact ⟨Bx, h1, cells_own (β := Unit) Bx (fun _ => _) (fun _ => rfl) () X Y row h2 hg (fun r e => (hr r e).2), h3⟩)
    ?assign ?body ?done ?stop
  case hKb =>
    intro W y o o' hy hl _ _ x hx
    have hxl : x < W0.heap.size := by simp at hx; omega
    have hyl := (Array.getElem?_eq_some_iff.1 hl).1
    exact (grownBy_putObj' W y o').block x (by omega) (by intro e; cases e; omega)
  case assign =>
    rintro y pre x W K ⟨⟨⟨v, hv, hrow, hnil⟩, b1, b2⟩, hB1⟩ hK
    have hs1 := hB1.size
    have hsm : ∀ o, Same [w.heap.size + 1 + 1, B, g, bm] W (W.alloc o) := fun o => Same.of_grown (by intro x hx; have := b2.lt; simp at hx; omega) (World.grownBy_alloc _ _ none)
    rcases hMv x.1.off with hm | ⟨ae, hm⟩
    · simp only [folder, hm, Option.isNone_none, if_true, Option.getD_none] at hK ⊢
      gi_wp2
      exact hK _ _ ((KeepsOthers.alloc _ _).from _) (hsm _) ⟨⟨⟨v, hv.alloc _, hrow.alloc _, hnil⟩, b1.alloc _, b2.alloc _⟩, hB1.alloc hs1 _⟩ ⟨W.heap.size, b2.lt, World.alloc_heap_new W _, rfl⟩
    · simp only [folder, hm, Option.isNone_some, if_false, Option.getD_some, Bool.false_eq_true] at hK ⊢
      gi_wp2
      exact hK _ _ ((KeepsOthers.alloc _ _).from _) (hsm _) ⟨⟨⟨v, hv.alloc _, hrow.alloc _, hnil⟩, b1.alloc _, b2.alloc _⟩, hB1.alloc hs1 _⟩ ⟨W.heap.size, b2.lt, World.alloc_heap_new W _, rfl⟩
  case body =>
    rintro y pre x a' W _ _ ⟨⟨⟨v, hv, hrow, hnil⟩, b1, b2⟩, hB1⟩ ⟨Bx, hBx, bX, rfl⟩ hlt
    have hs1 := hB1.size
    have hc := hv.cell
    have hpl : (sel M pre).length ≤ pre.length := List.length_filter_le _ _
    rcases hMv x.1.off with hm | ⟨ae, hm⟩
    · have cX : W.cell? ⟨Bx, 2, none⟩ = some .nilIface := by rw [cell_block bX]; simp [hm]
      have HM : Hid (M x.1.off = none) := hm
      clear hm bX
      gi_wp2_with (gi_at_builtin; refine wpListIn_append_own _ rfl _ _ 23 rfl w.heap.size 3 i0 (.int .i64 0) 1 8 Try.underlying23 hi hz0 hz1 hz2 rfl (by decide) _ _ _ rfl (hrow.alloc _) ⟨W.heap.size, 0, none⟩ 1 1 [.int .i64 (x.1.off : Int)] rfl rfl (cell_one_new _ _ _) (by simp [Value.oneCell']) (by unfold maxLen; omega) (by omega) (by simp; omega) ?_; intro v' w1 hown' hgrow _; obtain ⟨g', cap', rfl⟩ := ownsRow_succ hown'; obtain ⟨hv1, hv2, hr2, hk2, hb2⟩ := hv.appended (by decide) hrow hs1 (by omega) hown' hgrow; have hc1 := hv1.cell; have hf1 := hv1.frozen)
      have b1' : Boxed (w1.setCell ⟨w.heap.size + 1, 0, none⟩ (.slice (some ⟨g', 0, none⟩) ((sel M pre).length + 1) cap')) w.heap.size 32 (.pointer (some ⟨B, 0, none⟩)) := ((b1.alloc _).kept hgrow (b1.not_row (by decide) hrow)).other (by omega) _
      have b2' : Boxed (w1.setCell ⟨w.heap.size + 1, 0, none⟩ (.slice (some ⟨g', 0, none⟩) ((sel M pre).length + 1) cap')) (w.heap.size + 1 + 1) 32 (.pointer (some ⟨B, 0, none⟩)) := ((b2.alloc _).kept hgrow (b2.not_row (by decide) hrow)).other (by omega) _
      refine ⟨hk2.from _, fun z hz => ?_, ⟨⟨_, hv2, by rw [sel_hit pre HM.out]; simpa [encI] using hr2, by rw [sel_hit pre HM.out]; simp⟩, b1', b2'⟩, hB1.trans hb2⟩
      by_cases hzz : z = w.heap.size + 1 + 1
      · rw [hzz]
        exact (show _ = _ from b2').trans (show _ = _ from b2).symm
      · exact hb2.block z (by simp at hz; omega)
    · have cX : W.cell? ⟨Bx, 2, none⟩ = some (.iface 59 (.pointer (some ae))) := by rw [cell_block bX]; simp [hm]
      have HM : Hid (M x.1.off = some (.iface 59 (.pointer (some ae)))) := hm
      clear hm bX
      gi_wp2
      exact ⟨KeepsFrom.refl _ _, Same.refl _ _, ⟨⟨v, hv, by rw [sel_miss pre HM.out]; exact hrow, by rw [sel_miss pre HM.out]; exact hnil⟩, b1, b2⟩, hB1⟩
  case done =>
    rintro D ys W hD hys ⟨⟨⟨v, hv, hrow, hnil⟩, b1, b2⟩, hB1⟩ hK
    have hlen : (sel M ys).length ≤ 4096 := by
      have h1 : (sel M ys).length ≤ ys.length := List.length_filter_le _ _
      have h2 : ys.length = R.length := by rw [← hys]; simp
      omega
    have hs1 := hB1.size
    have hc := hv.cell
    have hlY := hv.lt
    have hCx : Cx (W.alloc (.cells #[.func (.func 15) #[] #[.pointer (some ⟨w.heap.size, 0, none⟩)]] 53)) W.heap.size w.heap.size B g a l bm cnt :=
      ⟨World.alloc_heap_new W _, b1.alloc _, (World.grownBy_alloc W _ none).block B (by omega) (by simp) |>.trans ((hB1.block B hlB).trans hF.str), fun hl => (World.grownBy_alloc W _ none).block g (by omega) (by simp) |>.trans ((hB1.block g hlg).trans (hF.byt hl)), hF.adr⟩
    have hf17 : Fence.wide.fn 17 := trivial
    gi_wp2_with (gi_at_call 17; refine (callsIn_wide.2 (sort_any w.heap.size W.heap.size w.heap.size B g a bm cnt (sel M ys) v _ hn hlen (hrow.alloc _) hCx hlg hlB)).mono ?_; rintro e w2 ⟨rfl, A, cap, hvv, hsrt⟩)
    refine wpIn_wide.2 ?_
    have hlenS : (srt (sel M ys)).length = (sel M ys).length := (srt_perm _).length_eq
    obtain ⟨blk, hblkY, hblkl, hA, hrowc, hCx2, hv2, hD2, hB2, hsz2⟩ : ∃ blk, blk ≠ w.heap.size + 1 ∧ blk < w2.heap.size ∧ (0 < (sel M ys).length → A = some ⟨blk, 0, none⟩ ∧ (sel M ys).length ≤ cap) ∧
        (∀ j (h : j < (srt (sel M ys)).length), w2.cell? ⟨blk, j, none⟩ = some (encI (srt (sel M ys))[j])) ∧ Cx w2 W.heap.size w.heap.size B g a l bm cnt ∧ Boxed w2 (w.heap.size + 1) 23 (.slice A (sel M ys).length cap) ∧
        w2.heap[D]? = some (.deferred (some [])) ∧ Below w.heap.size w w2 ∧ W.heap.size < w2.heap.size := by
      have hD1 : (W.alloc (.cells #[.func (.func 15) #[] #[.pointer (some ⟨w.heap.size, 0, none⟩)]] 53)).heap[D]? = some (.deferred (some [])) := ((World.grownBy_alloc W _ none).block D (Array.getElem?_eq_some_iff.1 hK).1 (by simp)).trans hK
      have hv1 := hv.alloc (.cells #[.func (.func 15) #[] #[.pointer (some ⟨w.heap.size, 0, none⟩)]] 53)
      rw [hvv] at hv1
      have hB3 := hB1.alloc hs1 (.cells #[.func (.func 15) #[] #[.pointer (some ⟨w.heap.size, 0, none⟩)]] 53)
      rcases hsrt with ⟨h0, rfl⟩ | ⟨hpos, blk, hAb, hblk, hcap, ⟨cur, hcur⟩, hgw, hrowc⟩
      · exact ⟨bm, by omega, by simp; omega, fun h => by omega, fun j h => by omega, hCx, hv1, hD1, hB3, by simp⟩
      · have hne : ∀ (y : Nat) (c : Array Value) (t : TypeId), (W.alloc (.cells #[.func (.func 15) #[] #[.pointer (some ⟨w.heap.size, 0, none⟩)]] 53)).heap[y]? = some (.cells c t (0, 0)) → t ≠ 3 → y ≠ blk := fun y c t hy ht e => by
          subst e
          have := hy.symm.trans hcur
          simp at this
          exact ht this.2
        have hYb := hne _ _ _ hv1 (by decide)
        have hk : ∀ y, y < (W.alloc (.cells #[.func (.func 15) #[] #[.pointer (some ⟨w.heap.size, 0, none⟩)]] 53)).heap.size → y ≠ blk → w2.heap[y]? = (W.alloc (.cells #[.func (.func 15) #[] #[.pointer (some ⟨w.heap.size, 0, none⟩)]] 53)).heap[y]? := fun y hy hn => hgw.block y hy (by intro e; cases e; exact hn rfl)
        have hl1 := hgw.size
        simp only [World.size_alloc] at hl1 hk
        refine ⟨blk, fun e => hYb e.symm, Nat.lt_of_lt_of_le (Array.getElem?_eq_some_iff.1 hcur).1 hgw.size, fun _ => ⟨hAb, hcap⟩, hrowc, hCx.same ?_, (hk _ (by omega) hYb).trans hv1, ?_, ?_, by omega⟩
        · intro y hy
          simp at hy
          rcases hy with rfl | rfl | rfl | rfl
          · exact hk _ (by omega) (hne _ _ _ hCx.kc (by decide))
          · exact hk _ (by omega) (hne _ _ _ hCx.kf (by decide))
          · exact hk _ (by omega) (by omega)
          · exact hk _ (by omega) (by omega)
        · refine (hk D (by have := (Array.getElem?_eq_some_iff.1 hK).1; omega) ?_).trans hD1
          intro e
          subst e
          rw [hD1] at hcur
          cases hcur
        · exact hB3.grown hgw (by simp; omega) (fun j hj => by cases hj; exact hblk)
    clear hsrt hCx hK hc hv hrow hnil b1 b2 hB1 hB0 bN bY bF hF0 hvv
    have hraw0 := Groups.start (l := l) w.heap.size (w.heap.size + 1) w2
    go_loopw [9] (fun _ wr => LRel w.heap.size W.heap.size B g D blk w2.heap.size (w2.alloc (.map #[] 0)) w (srt (sel M ys)) wr) (fun _ wr => lenAt (w.heap.size + 1) wr)
    case atStart =>
      exact ⟨[], srt (sel M ys), A, cap, rfl, by simp, by rw [hlenS]; exact hv2.alloc _, fun h => by rw [hlenS] at h ⊢; exact hA h, Same.refl _ _, Nat.le_refl _, hB2.alloc hB2.size _, hraw0⟩
    case round =>
      obtain ⟨done, rest, A', cap', hS, hdis, hYr, hA', hsame, hszr, hBr, hgr⟩ := hrel
      have hmbl : w2.heap.size < wr.heap.size := by simp at hszr; omega
      have hlt2 : ∀ y ∈ [W.heap.size, w.heap.size, B, g, D, blk], y < w2.heap.size := by
        intro y hy
        have := (Array.getElem?_eq_some_iff.1 hD2).1
        have := hB2.size
        simp at hy
        omega
      have hW3 : ∀ y, y < w2.heap.size → (w2.alloc (.map #[] 0)).heap[y]? = w2.heap[y]? := fun y hy => (World.grownBy_alloc w2 _ none).block y hy (by simp)
      have hkeep : ∀ y ∈ [W.heap.size, w.heap.size, B, g, D, blk], wr.heap[y]? = w2.heap[y]? := fun y hy => (hsame y hy).trans (hW3 y (hlt2 y hy))
      have hCr : Cx wr W.heap.size w.heap.size B g a l bm cnt := hCx2.same (fun y hy => hkeep y (by simp at hy ⊢; omega))
      have hDr : wr.heap[D]? = some (.deferred (some [])) := (hkeep D (by simp)).trans hD2
      have cY := hYr.cell
      have fY := hYr.frozen
      cases rest with
      | nil =>
        simp only [List.length_nil] at cY
        rw [List.append_nil] at hS
        have HS : Hid (srt (sel M ys) = done) := hS
        clear hS
        go_wp2
        gi_wp2
        refine ⟨by simp, .inl ⟨_, _, rfl, run_takeDeferred hDr, ?_⟩⟩
        refine ⟨_, results_tmp rfl _ _ _, ys, hys, w.heap.size + 1, w2.heap.size, rfl, ?_, ?_⟩
        · rw [HS.out]
          have hmD : w2.heap.size ≠ D := by have := hlt2 D (by simp); omega
          refine hgr.kept ((grownBy_putObj' wr D _).block _ hmbl (by intro e; cases e; exact hmD rfl)) (fun b hb _ _ ⟨arr, harr⟩ => (grownBy_putObj' wr D _).block b hb ?_)
          intro e
          cases e
          rw [harr] at hDr
          cases hDr
        · exact hBr.grown (grownBy_putObj' wr D _) (by have := hBr.size; omega) (fun j hj => by cases hj; omega)
      | cons x tl =>
        obtain ⟨rfl, hcap'⟩ := hA' (by simp)
        simp only [List.length_cons] at cY hcap'
        have hrow : ∀ j (h : j < (x :: tl).length), wr.cell? ⟨blk, done.length + j, none⟩ = some (.int .i64 ((x :: tl)[j].1.off : Int)) := by
          intro j hj
          rw [cell_eq (hkeep blk (by simp)), hrowc (done.length + j) (by rw [hS]; simp at hj ⊢; omega)]
          simp [hS, encI]
        have hdl : done.length ≤ 4096 := by have := congrArg List.length hS; rw [hlenS] at this; simp at this; omega
        have htl : tl.length ≤ 4096 := by have := congrArg List.length hS; rw [hlenS] at this; simp at this; omega
        have hlpos : 0 < l.length := by have := x.2.lt; omega
        have cC := hCr.cell
        have cR := hrow 0 (by simp)
        simp only [Nat.add_zero, List.getElem_cons_zero] at cR
        have hctx := hCr.ctx hlpos
        have hneY : ∀ z ∈ [W.heap.size, w.heap.size, B, g, D, blk], z ≠ w.heap.size + 1 := by
          intro z hz e
          simp only [List.mem_cons, List.not_mem_nil, or_false] at hz
          rcases hz with rfl | rfl | rfl | rfl | rfl | rfl
          · omega
          · omega
          · omega
          · omega
          · rw [e] at hDr; have := hDr.symm.trans (show _ = _ from hYr); cases this
          · exact hblkY e
        have hmbY : w2.heap.size ≠ w.heap.size + 1 := by omega
        have HX : Hid (∀ z ∈ done, z.1.code l ≠ x.1.code l) := fun z hz => hdis z hz x (by simp)
        have HSS : Hid ((done ++ x :: tl).Pairwise fun x y => ltOf cfI y x = false) := by show List.Pairwise _ _; rw [← hS]; exact srt_sorted _
        have HS : Hid (srt (sel M ys) = done ++ x :: tl) := hS
        have HROW : Hid (∀ j (h : j < (x :: tl).length), wr.cell? ⟨blk, done.length + j, none⟩ = some (.int .i64 ((x :: tl)[j].1.off : Int))) := hrow
        clear hrow hS
        go_wp2
        go_region_held3 (fun w' => w'.cell? ⟨W.heap.size, 0, none⟩ = some (.func (.func 15) #[] #[.pointer (some ⟨w.heap.size, 0, none⟩)]) ∧ w'.cell? ⟨w.heap.size + 1, 0, none⟩ = some (.slice (some ⟨blk, done.length, none⟩) (tl.length + 1) cap') ∧ w'.cell? ⟨blk, done.length, none⟩ = some (.int .i64 (x.1.off : Int))) (go_keep)
          (first
            | (go_at_call 15; refine (codeAt_any w.heap.size B g l x.1 _ hn x.2 ?_ ?_ ?_).mono ?_; (exact hctx.f); (exact hctx.b); (exact hctx.c); rintro e w' ⟨cpc, rfl, rfl⟩))
        go_wp2
        have hP1 : Pre (x.1.code l) (x :: tl) 1 := by intro y hy; simp at hy; rw [hy]
        go_loopw [9] (fun n wq => ∃ k q : Nat, n = .int .i64 k ∧ 1 ≤ k ∧ k ≤ tl.length + 1 ∧ Pre (x.1.code l) (x :: tl) k ∧ wq = wr.drewN q) (fun n _ => tl.length + 1 - (intOf n).toNat)
        case atStart => exact ⟨1, 1, rfl, by omega, by omega, hP1, rfl⟩
        case round =>
          obtain ⟨k, q, rfl, hk1, hkl, hPk, rfl⟩ := hrel
          by_cases hq : Goes (x.1.code l) (x :: tl) k
          · obtain ⟨hk, hce⟩ := hq
            have hki : (k : Int) < (tl.length : Int) + 1 := by simp at hk; omega
            have cRk := HROW.out k hk
            have hP2 := hPk.succ hk hce
            obtain ⟨y, hy⟩ : ∃ y, y = (x :: tl)[k]'hk := ⟨_, rfl⟩
            rw [← hy] at cRk hce
            clear hy
            have he : eqB (y.1.code l) (x.1.code l) = true := by simp [eqB, hce]
            clear hce
            go_wp2
            go_region_held3 (fun w' => w'.cell? ⟨W.heap.size, 0, none⟩ = some (.func (.func 15) #[] #[.pointer (some ⟨w.heap.size, 0, none⟩)]) ∧ w'.cell? ⟨w.heap.size + 1, 0, none⟩ = some (.slice (some ⟨blk, done.length, none⟩) (tl.length + 1) cap') ∧ w'.cell? ⟨blk, done.length + k, none⟩ = some (.int .i64 (y.1.off : Int))) (go_keep)
              (first
                | (go_at_call 15; refine (codeAt_any w.heap.size B g l y.1 _ hn y.2 ?_ ?_ ?_).mono ?_; (exact hctx.f); (exact hctx.b); (exact hctx.c); rintro e w' ⟨cpd, rfl, rfl⟩)
                | (go_at_call 22; refine (bytesEqual_any g y.1.cp g x.1.cp _ _ y.1.cl x.1.cl (y.1.code l) (x.1.code l) _ (length_code y.2) (length_code x.2) ?_ ?_).mono ?_; (exact BytesAt.sub hctx.c y.2.code.2); (exact BytesAt.sub hctx.c x.2.code.2); rintro e w' ⟨rfl, rfl⟩))
            go_wp2
            exact round_up (Pk := Pre (x.1.code l) (x :: tl)) (by simpa using hk) hk1 hP2
          · have hst := Stops.of hq
            have HP : Hid (Pre (x.1.code l) (x :: tl) k) := hPk
            have HST : Hid (Stops (x.1.code l) (x :: tl) k) := hst
            clear hst hPk
            have HQ : Hid (¬ Goes (x.1.code l) (x :: tl) k) := hq
            clear hq
            have hkli : (k : Int) ≤ (tl.length : Int) + 1 := by omega
            by_cases h1 : k = 1
            · subst h1
              by_cases hk : 1 < (x :: tl).length
              case' pos =>
                have hki : (1 : Int) < (tl.length : Int) + 1 := by simp at hk; omega
                have cRk := HROW.out 1 hk
                obtain ⟨y, hy⟩ : ∃ y, y = (x :: tl)[1]'hk := ⟨_, rfl⟩
                have hce : y.1.code l ≠ x.1.code l := fun e => HQ.out ⟨hk, hy ▸ e⟩
                rw [← hy] at cRk
                clear hy
                have he : eqB (y.1.code l) (x.1.code l) = false := by simp [eqB, hce]
                clear hce hk1 hkl hkli
                go_wp2
                go_region_held3 (fun w' => w'.cell? ⟨W.heap.size, 0, none⟩ = some (.func (.func 15) #[] #[.pointer (some ⟨w.heap.size, 0, none⟩)]) ∧ w'.cell? ⟨w.heap.size + 1, 0, none⟩ = some (.slice (some ⟨blk, done.length, none⟩) (tl.length + 1) cap') ∧ w'.cell? ⟨blk, done.length + 1, none⟩ = some (.int .i64 (y.1.off : Int))) (go_keep)
                  (first
                    | (go_at_call 15; refine (codeAt_any w.heap.size B g l y.1 _ hn y.2 ?_ ?_ ?_).mono ?_; (exact hctx.f); (exact hctx.b); (exact hctx.c); rintro e w' ⟨cpd, rfl, rfl⟩)
                    | (go_at_call 22; refine (bytesEqual_any g y.1.cp g x.1.cp _ _ y.1.cl x.1.cl (y.1.code l) (x.1.code l) _ (length_code y.2) (length_code x.2) ?_ ?_).mono ?_; (exact BytesAt.sub hctx.c y.2.code.2); (exact BytesAt.sub hctx.c x.2.code.2); rintro e w' ⟨rfl, rfl⟩))
                go_wp2
                have hfin := LRel.fin (n := tl.length) (cap'' := cap' - 1) (V := wr.drewN (q + 1)) (HSS.out) hdis HP.out HST.out (Nat.le_refl 1) (by simp) hYr hneY hmbY hsame hszr (below_drewN hBr _) (by simpa using (hgr.drewN (q + 1)).one HX.out) hYr (by simp) (by simp; omega) (fun _ => rfl)
                rw [HS.out]
                exact hfin
              case' neg =>
                obtain rfl : tl = [] := by cases tl with | nil => rfl | cons _ _ => simp at hk
                simp only [List.length_nil, Nat.zero_add] at cY hcap'
                clear hk1 hkl hkli
                go_wp2
                go_quiet (fail)
                go_wp2
                have hfin := LRel.fin (n := 0) (cap'' := cap' - 1) (V := wr.drewN (q + nq)) (HSS.out) hdis HP.out HST.out (Nat.le_refl 1) (by simp) hYr hneY hmbY hsame hszr (below_drewN hBr _) (by simpa using (hgr.drewN (q + nq)).one HX.out) hYr (by simp) (by simp) (Af := if cap' = 1 then some ⟨blk, done.length, none⟩ else some ⟨blk, done.length + 1, none⟩) (by simp)
                rw [HS.out]
                exact hfin
            · have hk2 : (1 : Int) < (k : Int) := by omega
              have hmk := fun W0 : World => run_make_row' (P := Try.prog) 25 9 (.string ⟨#[]⟩) 16 Try.underlying25 (by kernel_rfl) rfl .i64 .i64 k (by omega) (by omega) W0
              have cYa : ∀ q' o, ((wr.drewN q').alloc o).cell? ⟨w.heap.size + 1, 0, none⟩ = some (.slice (some ⟨blk, done.length, none⟩) (tl.length + 1) cap') := fun q' o => (cell_eq (Deep.blk_alloc_lt _ _ _ hYr.lt) 0).trans cY
              by_cases hk : k < (x :: tl).length
              case' pos =>
                have hki : (k : Int) < (tl.length : Int) + 1 := by simp at hk; omega
                have cRk := HROW.out k hk
                obtain ⟨y, hy⟩ : ∃ y, y = (x :: tl)[k]'hk := ⟨_, rfl⟩
                have hce : y.1.code l ≠ x.1.code l := fun e => HQ.out ⟨hk, hy ▸ e⟩
                rw [← hy] at cRk
                clear hy
                have he : eqB (y.1.code l) (x.1.code l) = false := by simp [eqB, hce]
                clear hce h1
                go_wp2
                go_region_held3 (fun w' => w'.cell? ⟨W.heap.size, 0, none⟩ = some (.func (.func 15) #[] #[.pointer (some ⟨w.heap.size, 0, none⟩)]) ∧ w'.cell? ⟨w.heap.size + 1, 0, none⟩ = some (.slice (some ⟨blk, done.length, none⟩) (tl.length + 1) cap') ∧ w'.cell? ⟨blk, done.length + k, none⟩ = some (.int .i64 (y.1.off : Int))) (go_keep)
                  (first
                    | (go_at_call 15; refine (codeAt_any w.heap.size B g l y.1 _ hn y.2 ?_ ?_ ?_).mono ?_; (exact hctx.f); (exact hctx.b); (exact hctx.c); rintro e w' ⟨cpd, rfl, rfl⟩)
                    | (go_at_call 22; refine (bytesEqual_any g y.1.cp g x.1.cp _ _ y.1.cl x.1.cl (y.1.code l) (x.1.code l) _ (length_code y.2) (length_code x.2) ?_ ?_).mono ?_; (exact BytesAt.sub hctx.c y.2.code.2); (exact BytesAt.sub hctx.c x.2.code.2); rintro e w' ⟨rfl, rfl⟩))
                go_wp2
                generalize q + 1 = Q
              case' neg =>
                have hkk : k = tl.length + 1 := by simp at hk; omega
                have hkf : decide ((k : Int) < (tl.length : Int) + 1) = false := by simp; omega
                have HKK : Hid (k = tl.length + 1) := hkk
                clear hk h1 hkk
                go_wp2
                go_quiet (fail)
                go_wp2
                generalize q + nq = Q
              all_goals
                clear hmk
                obtain ⟨V, hV, hVrow, hVg⟩ := made_row wr Q k (x :: tl)
                rw [hV]
                clear hV cYa
                obtain ⟨FB, hFB⟩ : ∃ FB, FB = wr.heap.size := ⟨_, rfl⟩
                rw [← hFB] at hVrow ⊢
                have hVB : ∀ z, z < wr.heap.size → V.heap[z]? = wr.heap[z]? := fun z hz => hVg.block z hz (by simp)
                have hltF : ∀ z ∈ [W.heap.size, w.heap.size, B, g, D, blk], z < wr.heap.size := fun z hz => by have := hlt2 z hz; omega
                have hVsame : Same [W.heap.size, w.heap.size, B, g, D, blk] wr V := fun z hz => hVB z (hltF z hz)
                have hCV : Cx V W.heap.size w.heap.size B g a l bm cnt := hCr.same (fun z hz => hVsame z (by simp at hz ⊢; omega))
                have HROWV : Hid (∀ j (h : j < (x :: tl).length), V.cell? ⟨blk, done.length + j, none⟩ = some (.int .i64 ((x :: tl)[j].1.off : Int))) := fun j h => (cell_eq (hVsame blk (by simp)) _).trans (HROW.out j h)
                have hltF : ∀ z ∈ [W.heap.size, w.heap.size, B, g, D, blk], z < FB := fun z hz => by rw [hFB]; exact hltF z hz
                have hFm : w2.heap.size < FB := by omega
                have hFV : FB < V.heap.size := hVrow.lt
                have hYF : w.heap.size + 1 < FB := by have := hYr.lt; omega
                have hYV : Boxed V (w.heap.size + 1) 23 (.slice (some ⟨blk, done.length, none⟩) (tl.length + 1) cap') := (hVB _ hYr.lt).trans hYr
                have hgV := hgr.grown hVg
                have hBV : Below w.heap.size w V := hBr.grown hVg hBr.size (by simp)
                have hsameV := hsame.trans hVsame
                have hszV : (w2.alloc (.map #[] 0)).heap.size ≤ V.heap.size := by omega
                have HVB : Hid (∀ z, z < FB → V.heap[z]? = wr.heap[z]?) := fun z hz => hVB z (by omega)
                have HFB : Hid (FB = wr.heap.size) := hFB
                have hl0 := lenAt_boxed hYr
                have HL0 : Hid (lenAt (w.heap.size + 1) wr = (x :: tl).length) := hl0
                clear hVg hVB hVsame hFB hl0
                go_loopw [64] (fun n wq => ∃ j : Nat, n = .int .i64 j ∧ j ≤ k ∧ Fill V FB k (x :: tl) j wq) (fun n _ => k - (intOf n).toNat)
                case atStart => exact ⟨0, rfl, by omega, hVrow, grown_refl _ _⟩
                case round =>
                  obtain ⟨j, rfl, hjk, hfill⟩ := hrel
                  have hqB : ∀ z, z < V.heap.size → z ≠ FB → wr.heap[z]? = V.heap[z]? := fun z hz hne => hfill.2.block z hz (by intro e; cases e; exact hne rfl)
                  have hqs : ∀ z ∈ [W.heap.size, w.heap.size, B, g, D, blk], wr.heap[z]? = V.heap[z]? := fun z hz => hqB z (by have := hltF z hz; omega) (by have := hltF z hz; omega)
                  have hCq : Cx wr W.heap.size w.heap.size B g a l bm cnt := hCV.same (fun z hz => hqs z (by simp at hz ⊢; omega))
                  have hctxq := hCq.ctx hlpos
                  have cF := hctxq.f
                  by_cases hj : j < k
                  · have hji : (j : Int) < (k : Int) := by omega
                    have hjr : j < (x :: tl).length := by simp; omega
                    have cRj := (cell_eq (hqs blk (by simp)) (done.length + j)).trans (HROWV.out j hjr)
                    have cS := hfill.1.cell hj
                    have fS := hfill.1.frozen j
                    obtain ⟨y, hy⟩ : ∃ y, y = (x :: tl)[j]'hjr := ⟨_, rfl⟩
                    rw [← hy] at cRj
                    have HY : Hid (y = (x :: tl)[j]'hjr) := hy
                    have hcv : ∀ cp1, (convert 22 9 (.slice (some ⟨g, y.1.na, none⟩) y.1.n cp1)).run Try.prog wr = .ok (.string (bs (y.1.name l))) wr := fun cp1 => by
                      have := convert_bs (l := y.1.name l) cp1 (BytesAt.sub hctxq.c y.2.h2)
                      rwa [show (y.1.name l).length = y.1.n from length_sub y.2.h2] at this
                    have HFI : Hid (Fill V FB k (x :: tl) j wr) := hfill
                    have HJ : Hid (j < k ∧ j < (x :: tl).length) := ⟨hj, hjr⟩
                    clear hy hqB hqs
                    go_wp2_with (go_at_call 16; refine (record_any B g l y.1 _ hn y.2 hctxq.b hctxq.c).mono ?_; rintro e w' ⟨A2, cp1, cp2, rfl, _, rfl⟩)
                    exact fill_up HFI.out HJ.out.1 HJ.out.2 HY.out
                  · obtain rfl : j = k := by omega
                    have hrowk := nmAt_row (by simp; omega) hfill.1
                    have hcv : (convert 22 9 (.slice (some ⟨g, x.1.cp, none⟩) x.1.cl cpc)).run Try.prog wr = .ok (.string (bs (x.1.code l))) wr := by
                      have := convert_bs (l := x.1.code l) cpc (BytesAt.sub hctxq.c x.2.code.2)
                      rwa [length_code x.2] at this
                    have hgq := hgr.kept ((hqB w2.heap.size (by omega) (by omega)).trans (HVB.out _ (by omega))) (fun b hb _ _ _ => (hqB b (by have := HFB.out; omega) (by have := HFB.out; omega)).trans (HVB.out b (by have := HFB.out; omega)))
                    have hlj : ((x :: tl).take j).length = j := by rw [List.length_take, List.length_cons, Nat.min_eq_left hkl]
                    have hcl2 : (x.1.code l).length ≤ 4096 := by rw [length_code x.2]; have := x.2.code.2; omega
                    obtain ⟨W2, hrun, hgr2, hg2⟩ := Groups.upd hgq HX.out HP.out (by rw [hlj]; omega) FB (by omega) (by omega) (by omega) hrowk (by unfold maxLen; omega) (by unfold maxLen; omega)
                    rw [hlj] at hrun
                    have h2B : ∀ z, z < V.heap.size → z ≠ FB → z ≠ w2.heap.size → W2.heap[z]? = V.heap[z]? := fun z hz h1 h2 => (hg2.block z (by have := hfill.2.size; omega) (by intro e; cases e; exact h2 rfl)).trans (hqB z hz h1)
                    have hY2 : Boxed W2 (w.heap.size + 1) 23 (.slice (some ⟨blk, done.length, none⟩) (tl.length + 1) cap') := (h2B _ (by omega) (by omega) (by omega)).trans hYV
                    have cY2 := hY2.cell
                    have fY2 := hY2.frozen
                    have hsame2 : Same [W.heap.size, w.heap.size, B, g, D, blk] V W2 := fun z hz => h2B z (by have := hltF z hz; omega) (by have := hltF z hz; omega) (by have := hlt2 z hz; omega)
                    have hBW : Below w.heap.size w W2 := (hBV.grown hfill.2 hBV.size (by intro k hk; cases hk; omega)).grown hg2 (by have := hBV.size; have := hfill.2.size; omega) (by intro k hk; cases hk; have := hB2.size; omega)
                    have hsz3 : (w2.alloc (.map #[] 0)).heap.size ≤ W2.heap.size := by have := hfill.2.size; have := hg2.size; omega
                    have HFIN : Hid (∀ (n cap'' : Nat) (Af : Option Addr), n = (x :: tl).length - j → (x :: tl).length - j ≤ cap'' → (0 < (x :: tl).length - j → Af = some ⟨blk, done.length + j, none⟩) → LRel w.heap.size W.heap.size B g D blk w2.heap.size (w2.alloc (Obj.map #[] 0)) w (srt (sel M ys)) (W2.setCell ⟨w.heap.size + 1, 0, none⟩ (.slice Af n cap'')) ∧ lenAt (w.heap.size + 1) (W2.setCell ⟨w.heap.size + 1, 0, none⟩ (.slice Af n cap'')) < (x :: tl).length) := fun n cap'' Af e1 e2 e3 => by
                      rw [HS.out, ← HL0.out]
                      exact LRel.fin HSS.out hdis HP.out HST.out (by omega) hkl hY2 hneY hmbY (hsameV.trans hsame2) hsz3 hBW hgr2 hYr e1 e2 e3
                    clear hgq hgr2 hg2 h2B hsame2 hqB hqs
                    go_wp2
                    rw [HL0.out]
                    exact HFIN.out _ _ _ (by simp) (by simp only [List.length_cons]; omega) (fun h => by first | rfl | exact if_neg (by simp only [List.length_cons] at h; omega))
  case stop =>
    rintro D c pre W _ _ h _
    exact h.elim

end Go.Proofs.Qxb6609276a
