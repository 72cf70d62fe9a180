/-
  toTxn.
-/
import Derived.Test.Qxb6609425aBytes
namespace Go.Proofs.Qxb6609425a
open Go.RowKit
set_option linter.unusedSimpArgs false
set_option linter.unusedVariables false

/-- As ByteV, AclV, Fl: what they lead to lies in blocks that p lets in. -/
def ByteP (p : Nat → Prop) (W : World) (v : Value) : Option (List Value) → Prop
  | none => v = .slice none 0 0
  | some l => ∃ x c, v = .slice (some x) l.length c ∧ (∀ u ∈ l, u.oneCell' = true) ∧ ∀ j u, l[j]? = some u → p x.block ∧ W.cell? (x.add j) = some u
def AclP (p : Nat → Prop) (W : World) (v : Value) (ac : List Acl) : Prop :=
  ∃ a c, v = .slice a ac.length c ∧ (0 < ac.length → ∃ g o, a = some ⟨g, o, none⟩ ∧ p g ∧ ∀ j (h : j < ac.length), W.rangeAt g (o + j * 3) (aclCells ac[j]))
def FlP (p : Nat → Prop) (W : World) (cs : List Value) (f : Fd) : Prop :=
  ∃ vd va vp vo vk ak, cs = cells14 f vd va vp vo vk ak ∧ ByteP p W vd f.data ∧ AclP p W va f.acl ∧ ByteP p W vp f.pw ∧ IsSl vo ∧ IsSl vk

theorem cell_same {W W' : World} {b : Nat} (h : W'.heap[b]? = W.heap[b]?) {a : Addr} (ha : a.block = b) : W'.cell? a = W.cell? a := World.cell?_of_block (by rw [ha]; exact h)

theorem ByteP.kept {p q : Nat → Prop} {W W' : World} {v : Value} {o : Option (List Value)} (h : ByteP p W v o) (hp : ∀ b, p b → q b) (hb : ∀ b, p b → W'.heap[b]? = W.heap[b]?) : ByteP q W' v o := by
  cases o with
  | none => exact h
  | some l =>
    obtain ⟨x, c, h1, h2, h3⟩ := h
    refine ⟨x, c, h1, h2, fun j u hu => ?_⟩
    obtain ⟨h4, h5⟩ := h3 j u hu
    exact ⟨hp _ h4, (cell_same (hb _ h4) (add_block x j)).trans h5⟩
theorem AclP.kept {p q : Nat → Prop} {W W' : World} {v : Value} {ac : List Acl} (h : AclP p W v ac) (hp : ∀ b, p b → q b) (hb : ∀ b, p b → W'.heap[b]? = W.heap[b]?) : AclP q W' v ac := by
  obtain ⟨a, c, h1, h2⟩ := h
  refine ⟨a, c, h1, fun h => ?_⟩
  obtain ⟨g, o, h3, h4, h5⟩ := h2 h
  exact ⟨g, o, h3, hp _ h4, fun j hj k u hu => (cell_same (hb _ h4) rfl).trans (h5 j hj k u hu)⟩
theorem FlP.kept {p q : Nat → Prop} {W W' : World} {cs : List Value} {f : Fd} (h : FlP p W cs f) (hp : ∀ b, p b → q b) (hb : ∀ b, p b → W'.heap[b]? = W.heap[b]?) : FlP q W' cs f := by
  obtain ⟨vd, va, vp, vo, vk, ak, h1, h2, h3, h4, h5⟩ := h
  exact ⟨vd, va, vp, vo, vk, ak, h1, h2.kept hp hb, h3.kept hp hb, h4.kept hp hb, h5⟩
theorem ByteP.toV {n₀ : Nat} {W : World} {v : Value} {o : Option (List Value)} (h : ByteP (· < n₀) W v o) : ByteV n₀ W v o := by cases o <;> exact h
theorem ByteV.toP {n₀ : Nat} {W : World} {v : Value} {o : Option (List Value)} (h : ByteV n₀ W v o) : ByteP (· < n₀) W v o := by cases o <;> exact h
theorem FlP.toV {n₀ : Nat} {W : World} {cs : List Value} {f : Fd} (h : FlP (· < n₀) W cs f) : Fl n₀ W cs f := by
  obtain ⟨vd, va, vp, vo, vk, ak, h1, h2, h3, h4, h5⟩ := h
  exact ⟨vd, va, vp, vo, vk, ak, h1, h2.toV, h3, h4.toV, h5⟩

/-- make of a row of structs. -/
theorem mk_rows {t e : TypeId} (ht : Try.prog.underlying t = some (.slice e)) {z : Value} {s b : Nat} (hi : (Try.prog.info? e).map (fun i => (i.zero, i.size, i.bytes)) = some (some z, s, b)) (n : Nat) (hb : b * n ≤ 281474976710656) (hn : n ≤ 1048577) :
    ∃ arr : Array Value, arr.size = n * s ∧ ∀ W, (Instr.makeSlice t (.int .i64 n) (.int .i64 n)).run Try.prog W = .ok (.slice (some ⟨W.heap.size, 0, none⟩) n n) (W.alloc (.cells arr e)) := by
  obtain ⟨i, h1, h2, h3, h4⟩ := info_parts hi
  refine ⟨madeCells z.cells (n * s), size_madeCells _ _, fun W => ?_⟩
  have hb' : (i.bytes : Int) * (n : Int) ≤ 281474976710656 := by
    rw [h4]
    have h : ((b * n : Nat) : Int) ≤ 281474976710656 := by omega
    rwa [Int.natCast_mul] at h
  have hr := run_make (P := Try.prog) W t e i z ht h1 h2 .i64 .i64 n n (by omega) (Int.le_refl _) hb' (by omega)
  simp only [Int.toNat_natCast, h3] at hr
  exact hr

theorem row_any (W : World) (arr : Array Value) (t : TypeId) : ∃ f, (W.alloc (.cells arr t)).rowIs W.heap.size t arr.size f :=
  ⟨fun i => arr.getD i undef, World.rowIs_alloc W arr t _ (fun i hi => by simp [hi])⟩

theorem Try.info53 : (Try.prog.info? 53).map (fun i => (i.zero, i.size, i.bytes)) = some (some (.agg #[.int .i32 0, .string ⟨#[]⟩, .string ⟨#[]⟩]), 3, 40) := by kernel_rfl
theorem Try.info54 : (Try.prog.info? 54).map (fun i => (i.zero, i.size, i.bytes)) = some (some (.agg #[.string ⟨#[]⟩, .string ⟨#[]⟩]), 2, 32) := by kernel_rfl
def zero14 : Value := .agg #[.int .u64 0, .int .i64 0, .int .i32 0, .string ⟨#[]⟩, .slice none 0 0, .slice none 0 0, .int .i32 0, .int .i64 0, .int .i32 0, .slice none 0 0, .slice none 0 0, .bool false, .slice none 0 0, .int .i64 0]
theorem Try.info37 : (Try.prog.info? 37).map (fun i => (i.zero, i.size, i.bytes)) = some (some zero14, 14, 200) := by kernel_rfl
theorem Try.info28 : (Try.prog.info? 28).map (fun i => (i.zero, i.size, i.bytes)) = some (some zero14, 14, 200) := by kernel_rfl

/-- The first j entries are laid. -/
def ARow (W : World) (b : Nat) (ac : List Acl) (j : Nat) : Prop :=
  ∃ f, W.rowIs b 53 (ac.length * 3) f ∧ ∀ j' (h : j' < ac.length), j' < j → f (j' * 3) = .int .i32 ac[j'].p ∧ f (j' * 3 + 1) = .string ac[j'].s ∧ f (j' * 3 + 2) = .string ac[j'].i

theorem ARow.next {W : World} {b j : Nat} {ac : List Acl} (h : ARow W b ac j) (hj : j < ac.length) {a : Acl} (ha : a = ac[j]) :
    ARow (((W.setCell ⟨b, j * 3, none⟩ (.int .i32 a.p)).setCell ⟨b, j * 3 + 1, none⟩ (.string a.s)).setCell ⟨b, j * 3 + 2, none⟩ (.string a.i)) b ac (j + 1) := by
  obtain ⟨f, h1, h2⟩ := h
  refine ⟨_, ((h1.set _ _).set _ _).set _ _, fun j' hj' hlt => ?_⟩
  by_cases e : j' = j
  · subst e
    subst ha
    simp
  · have h3 := h2 j' hj' (by omega)
    simp only [show ¬ j' * 3 = j * 3 + 2 by omega, show ¬ j' * 3 = j * 3 + 1 by omega, show ¬ j' * 3 = j * 3 by omega, show ¬ j' * 3 + 1 = j * 3 + 2 by omega, show ¬ j' * 3 + 1 = j * 3 + 1 by omega, show ¬ j' * 3 + 1 = j * 3 by omega, show ¬ j' * 3 + 2 = j * 3 + 2 by omega, show ¬ j' * 3 + 2 = j * 3 + 1 by omega, show ¬ j' * 3 + 2 = j * 3 by omega, if_false]
    exact h3

theorem ARow.range {W : World} {b : Nat} {ac : List Acl} (h : ARow W b ac ac.length) (j : Nat) (hj : j < ac.length) : W.rangeAt b (0 + j * 3) (aclCells ac[j]) := by
  obtain ⟨f, h1, h2⟩ := h
  obtain ⟨e0, e1, e2⟩ := h2 j hj hj
  intro k u hu
  rw [Nat.zero_add]
  match k, hu with
  | 0, hu => rw [Nat.add_zero, h1.cell (by omega), e0]; simpa [aclCells] using hu
  | 1, hu => rw [h1.cell (by omega), e1]; simpa [aclCells] using hu
  | 2, hu => rw [h1.cell (by omega), e2]; simpa [aclCells] using hu
  | k + 3, hu => simp [aclCells] at hu

theorem ARow.drew {W : World} {b j : Nat} {ac : List Acl} (h : ARow W b ac j) : ARow W.drew b ac j := by
  obtain ⟨f, h1, h2⟩ := h
  exact ⟨f, h1.drew, h2⟩

theorem grown_set {V W : World} {b : Nat} (h : V.grownBy W (some b)) (o : Nat) (v : Value) : V.grownBy (W.setCell ⟨b, o, none⟩ v) (some b) :=
  ⟨h.os, h.tape, h.output, by rw [Deep.nblk_setCell]; exact h.size, fun k hk hn => (Deep.blk_setCell_other _ _ _ _ (fun e => hn (by rw [e]))).trans (h.block k hk hn)⟩
theorem grown_drw {V W : World} {r : Option Nat} (h : V.grownBy W r) : V.grownBy W.drew r := ⟨h.os, h.tape, h.output, h.size, h.block⟩

theorem acl_up {V1 wr : World} {AB j : Nat} {ac : List Acl} {al : Acl} (h : ARow wr AB ac j) (hg : V1.grownBy wr (some AB)) (hj : j < ac.length) (hal : al = ac[j]) :
    (∃ j' : Nat, Value.int IntKind.i64 ((j : Int) + 1) = Value.int IntKind.i64 j' ∧ j' ≤ ac.length ∧
      ARow (((wr.setCell ⟨AB, j * 3, none⟩ (.int .i32 al.p)).setCell ⟨AB, j * 3 + 1, none⟩ (.string al.s)).setCell ⟨AB, j * 3 + 2, none⟩ (.string al.i)).drew AB ac j' ∧
      V1.grownBy (((wr.setCell ⟨AB, j * 3, none⟩ (.int .i32 al.p)).setCell ⟨AB, j * 3 + 1, none⟩ (.string al.s)).setCell ⟨AB, j * 3 + 2, none⟩ (.string al.i)).drew (some AB)) ∧
      ac.length - (intOf (Value.int IntKind.i64 ((j : Int) + 1))).toNat < ac.length - (intOf (Value.int IntKind.i64 (j : Int))).toNat :=
  ⟨⟨j + 1, rfl, by omega, (h.next hj hal).drew, grown_drw (grown_set (grown_set (grown_set hg _ _) _ _) _ _)⟩, meas hj⟩

/-- A row of pairs, whatever it holds. -/
def KRow (W : World) (b n : Nat) : Prop := ∃ f, W.rowIs b 54 (n * 2) f

theorem ask_up {V1 wr : World} {AB j n : Nat} {s i : ByteArray} (h : KRow wr AB n) (hg : V1.grownBy wr (some AB)) (hj : j < n) :
    (∃ j' : Nat, Value.int IntKind.i64 ((j : Int) + 1) = Value.int IntKind.i64 j' ∧ j' ≤ n ∧ KRow ((wr.setCell ⟨AB, j * 2, none⟩ (.string s)).setCell ⟨AB, j * 2 + 1, none⟩ (.string i)).drew AB n ∧
      V1.grownBy ((wr.setCell ⟨AB, j * 2, none⟩ (.string s)).setCell ⟨AB, j * 2 + 1, none⟩ (.string i)).drew (some AB)) ∧
      n - (intOf (Value.int IntKind.i64 ((j : Int) + 1))).toNat < n - (intOf (Value.int IntKind.i64 (j : Int))).toNat := by
  obtain ⟨f, hf⟩ := h
  exact ⟨⟨j + 1, rfl, by omega, ⟨_, ((hf.set _ _).set _ _).drew⟩, grown_drw (grown_set (grown_set hg _ _) _ _)⟩, meas hj⟩

/-- Many cells stored into a row. -/
theorem row_sets {b t n : Nat} : ∀ (vs : List Value) (o : Nat) (W : World) (f : Nat → Value), W.rowIs b t n f → ∃ f', (W.setCells b o vs).rowIs b t n f' ∧ (∀ k u, vs[k]? = some u → f' (o + k) = u) ∧ ∀ i, i < o → f' i = f i
  | [], o, W, f, h => ⟨f, h, fun k u hu => by simp at hu, fun _ _ => rfl⟩
  | v :: vs, o, W, f, h => by
    obtain ⟨f', h1, h2, h3⟩ := row_sets vs (o + 1) _ _ (h.set o v)
    refine ⟨f', h1, fun k u hu => ?_, fun i hi => ?_⟩
    · cases k with
      | zero =>
        rw [Nat.add_zero, h3 o (by omega)]
        simpa using hu
      | succ k =>
        have := h2 k u (by simpa using hu)
        rwa [show o + (k + 1) = o + 1 + k by omega]
    · rw [h3 i (by omega), if_neg (by omega)]

theorem sets_size (b : Nat) : ∀ (vs : List Value) (o : Nat) (W : World), (W.setCells b o vs).heap.size = W.heap.size
  | [], _, _ => rfl
  | v :: vs, o, W => by show ((W.setCell _ v).setCells b (o + 1) vs).heap.size = _; rw [sets_size b vs, Deep.nblk_setCell]
theorem sets_grown {V : World} {b : Nat} : ∀ (vs : List Value) (o : Nat) (W : World), V.grownBy W (some b) → V.grownBy (W.setCells b o vs) (some b)
  | [], _, _, h => h
  | v :: vs, o, W, h => sets_grown vs (o + 1) _ (grown_set h o v)

def OpsP (p : Nat → Prop) (W : World) (v : Value) (fs : List Fd) : Prop :=
  ∃ a c, v = .slice a fs.length c ∧ (0 < fs.length → ∃ g, a = some ⟨g, 0, none⟩ ∧ p g ∧ ∀ j (h : j < fs.length), ∃ cs, FlP p W cs fs[j] ∧ W.rangeAt g (0 + j * 14) cs)
def TpP (p : Nat → Prop) (W : World) (cs : List Value) (f : Fd) (fs : List Fd) : Prop :=
  ∃ vd va vp vo vk ak, cs = cells14 f vd va vp vo vk ak ∧ ByteP p W vd f.data ∧ AclP p W va f.acl ∧ ByteP p W vp f.pw ∧ OpsP p W vo fs ∧ IsSl vk

theorem OpsP.kept {p q : Nat → Prop} {W W' : World} {v : Value} {fs : List Fd} (h : OpsP p W v fs) (hp : ∀ b, p b → q b) (hb : ∀ b, p b → W'.heap[b]? = W.heap[b]?) : OpsP q W' v fs := by
  obtain ⟨a, c, h1, h2⟩ := h
  refine ⟨a, c, h1, fun h => ?_⟩
  obtain ⟨g, h3, h4, h5⟩ := h2 h
  refine ⟨g, h3, hp _ h4, fun j hj => ?_⟩
  obtain ⟨cs, h6, h7⟩ := h5 j hj
  exact ⟨cs, h6.kept hp hb, fun k u hu => (cell_same (hb _ h4) rfl).trans (h7 k u hu)⟩
theorem TpP.fl {p : Nat → Prop} {W : World} {cs : List Value} {f : Fd} {fs : List Fd} (h : TpP p W cs f fs) : FlP p W cs f := by
  obtain ⟨vd, va, vp, vo, vk, ak, h1, h2, h3, h4, ⟨a, c, h5, _⟩, h6⟩ := h
  exact ⟨vd, va, vp, vo, vk, ak, h1, h2, h3, h4, ⟨_, _, _, h5⟩, h6⟩
theorem TpP.toV {p : Nat → Prop} {n₁ : Nat} {W : World} {cs : List Value} {f : Fd} {fs : List Fd} (h : TpP p W cs f fs) (hp : ∀ b, p b → b < n₁) : Tp n₁ W cs f fs := by
  obtain ⟨vd, va, vp, vo, vk, ak, h1, h2, h3, h4, ⟨a, c, h5, h7⟩, h6⟩ := h
  refine ⟨vd, va, vp, vo, vk, ak, h1, (h2.kept hp (fun _ _ => rfl)).toV, h3.kept hp (fun _ _ => rfl), (h4.kept hp (fun _ _ => rfl)).toV, ⟨a, c, h5, fun h => ?_⟩, h6⟩
  obtain ⟨g, e1, e2, e3⟩ := h7 h
  refine ⟨g, 0, e1, hp _ e2, fun j hj => ?_⟩
  obtain ⟨cs, e4, e5⟩ := e3 j hj
  exact ⟨cs, (e4.kept hp (fun _ _ => rfl)).toV, e5⟩

/-- The first j changes are laid. -/
def ORow (n₀ : Nat) (W : World) (b : Nat) (fs : List Fd) (j : Nat) : Prop :=
  ∃ f, W.rowIs b 37 (fs.length * 14) f ∧ ∀ j' (h : j' < fs.length), j' < j → ∃ cs, FlP (fun x => x < n₀ ∨ (b < x ∧ x < W.heap.size)) W cs fs[j'] ∧ ∀ k u, cs[k]? = some u → f (j' * 14 + k) = u

theorem FlP.len {p : Nat → Prop} {W : World} {cs : List Value} {f : Fd} (h : FlP p W cs f) : cs.length = 14 := by
  obtain ⟨vd, va, vp, vo, vk, ak, rfl, _⟩ := h
  rfl

theorem ORow.next {n₀ : Nat} {W W6 : World} {b j : Nat} {fs : List Fd} (h : ORow n₀ W b fs j) (hj : j < fs.length) (hn : n₀ ≤ b) (hb : b < W.heap.size) (hB : Below W.heap.size W W6) {cs : List Value} (hc : FlP (fun x => x < n₀ ∨ (W.heap.size ≤ x ∧ x < W6.heap.size)) W6 cs fs[j]) :
    ORow n₀ (W6.setCells b (j * 14) cs) b fs (j + 1) := by
  obtain ⟨f, h1, h2⟩ := h
  have h6 : W6.rowIs b 37 (fs.length * 14) f := h1.of_block (hB.block b hb)
  obtain ⟨f', e1, e2, e3⟩ := row_sets cs (j * 14) W6 f h6
  have hs := hB.size
  have hbl : ∀ x, x ≠ b → (W6.setCells b (j * 14) cs).heap[x]? = W6.heap[x]? := fun x hx => by
    by_cases hl : x < W6.heap.size
    · exact (sets_grown (V := W6) (b := b) cs (j * 14) W6 ⟨rfl, rfl, rfl, Nat.le_refl _, fun _ _ _ => rfl⟩).block x hl (by intro e; cases e; exact hx rfl)
    · rw [Array.getElem?_eq_none (by rw [sets_size]; omega), Array.getElem?_eq_none (by omega)]
  refine ⟨f', e1, fun j' hj' hlt => ?_⟩
  rw [sets_size]
  by_cases e : j' = j
  · subst e
    exact ⟨cs, hc.kept (fun x hx => by omega) (fun x hx => hbl x (by omega)), fun k u hu => e2 k u hu⟩
  · obtain ⟨cs', g1, g2⟩ := h2 j' hj' (by omega)
    have hl := g1.len
    refine ⟨cs', g1.kept (fun x hx => by omega) (fun x hx => (hbl x (by omega)).trans (hB.block x (by omega))), fun k u hu => ?_⟩
    have hk : k < 14 := by have := (List.getElem?_eq_some_iff.1 hu).1; omega
    rw [e3 _ (by omega)]
    exact g2 k u hu

theorem ORow.done {n₀ : Nat} {W : World} {b : Nat} {fs : List Fd} (h : ORow n₀ W b fs fs.length) (hb : b < W.heap.size) {lo : Nat} (hlo : lo ≤ b) : OpsP (fun x => x < n₀ ∨ (lo ≤ x ∧ x < W.heap.size)) W (.slice (some ⟨b, 0, none⟩) fs.length fs.length) fs := by
  obtain ⟨f, h1, h2⟩ := h
  refine ⟨_, _, rfl, fun _ => ⟨b, rfl, .inr ⟨hlo, hb⟩, fun j hj => ?_⟩⟩
  obtain ⟨cs, g1, g2⟩ := h2 j hj hj
  have hl := g1.len
  refine ⟨cs, g1.kept (fun x hx => by omega) (fun _ _ => rfl), fun k u hu => ?_⟩
  have hk : k < 14 := by have := (List.getElem?_eq_some_iff.1 hu).1; omega
  rw [Nat.zero_add, h1.cell (by omega), g2 k u hu]

theorem row_there {W : World} {b t n : Nat} {f : Nat → Value} (h : W.rowIs b t n f) {o k : Nat} (hk : o + k ≤ n) : W.there b o k := fun j hj => ⟨by rw [h.cell (by omega)]; rfl, h.frozen _⟩

theorem ByteP.one {p : Nat → Prop} {W : World} {v : Value} {o : Option (List Value)} (h : ByteP p W v o) : v.oneCell' = true := by
  cases o with
  | none => rw [show v = .slice none 0 0 from h]; rfl
  | some l => obtain ⟨x, c, rfl, _⟩ := h; rfl
theorem FlP.one {p : Nat → Prop} {W : World} {cs : List Value} {f : Fd} (h : FlP p W cs f) : ∀ u ∈ cs, u.oneCell' = true := by
  obtain ⟨vd, va, vp, vo, vk, ak, rfl, h2, ⟨a, c, rfl, _⟩, h4, ⟨_, _, _, rfl⟩, ⟨_, _, _, rfl⟩⟩ := h
  intro u hu
  simp only [cells14, List.mem_cons, List.not_mem_nil, or_false] at hu
  rcases hu with rfl | rfl | rfl | rfl | rfl | rfl | rfl | rfl | rfl | rfl | rfl | rfl | rfl | rfl
  all_goals first | rfl | exact h2.one | exact h4.one

theorem sets_all {W : World} {b t : Nat} {f : Nat → Value} {vs : List Value} (h : W.rowIs b t vs.length f) : (W.setCells b 0 vs).heap[b]? = some (.cells vs.toArray t (0, 0)) := by
  obtain ⟨f', ⟨c, e1, e2, e3⟩, e4, _⟩ := row_sets vs 0 W f h
  rw [e1]
  congr 2
  apply Array.ext
  · simpa using e2
  · intro i h1 h2
    have h3 := e3 i (by omega)
    have h4 := e4 i vs[i] (by simp at h2; simp [h2])
    rw [Array.getElem?_eq_getElem h1] at h3
    rw [Option.some.inj h3]
    rw [Nat.zero_add] at h4
    rw [h4]
    simp

theorem row_of_block {W : World} {b t : Nat} {arr : Array Value} (h : W.heap[b]? = some (.cells arr t (0, 0))) : ∃ f, W.rowIs b t arr.size f := ⟨fun i => arr.getD i undef, arr, h, rfl, fun i hi => by simp [hi]⟩

theorem sets_other {W : World} {b x o : Nat} {vs : List Value} (hx : x ≠ b) : (W.setCells b o vs).heap[x]? = W.heap[x]? := by
  by_cases hl : x < W.heap.size
  · exact (sets_grown (V := W) (b := b) vs o W ⟨rfl, rfl, rfl, Nat.le_refl _, fun _ _ _ => rfl⟩).block x hl (by intro e; cases e; exact hx rfl)
  · rw [Array.getElem?_eq_none (by rw [sets_size]; omega), Array.getElem?_eq_none (by omega)]
theorem grown_below {V W W' : World} {r : Option Nat} (h : V.grownBy W r) (hb : Below W.heap.size W W') : V.grownBy W' r :=
  ⟨hb.os.trans h.os, hb.tape.trans h.tape, hb.output.trans h.output, Nat.le_trans h.size hb.size, fun k hk hn => (hb.block k (Nat.lt_of_lt_of_le hk h.size)).trans (h.block k hk hn)⟩
theorem cells14_one (f : Fd) (a1 a2 a3 a4 a5 : Option Addr) (n1 n2 n3 n4 n5 c1 c2 c3 c4 c5 : Nat) (ak : Int) : (cells14 f (.slice a1 n1 c1) (.slice a2 n2 c2) (.slice a3 n3 c3) (.slice a4 n4 c4) (.slice a5 n5 c5) ak).toArray.all (·.oneCell') = true := by
  apply all_oneCell_toArray
  simp [cells14, Value.oneCell']
theorem size37 : (Try.prog.info? 37).map (·.size) = some 14 := by kernel_rfl
theorem size28 : (Try.prog.info? 28).map (·.size) = some 14 := by kernel_rfl

theorem to_close {n₀ : Nat} {f : Fd} {fs : List Fd} {w V W1 W2 wc : World} {vd va vp vo vk : Value} {ak : Int} (hn : n₀ ≤ w.heap.size) (hBV : Below w.heap.size w V) (hVs : w.heap.size + 2 = V.heap.size) (hB1 : Below V.heap.size V W1) (hB2 : Below W1.heap.size W1 W2) (hB3 : Below W2.heap.size W2 wc)
    (hvd : ByteV n₀ w vd f.data) (hvp : ByteV n₀ w vp f.pw) (hacl : AclP (fun b => V.heap.size ≤ b ∧ b < W1.heap.size) W1 va f.acl) (hops : OpsP (fun b => b < n₀ ∨ (W2.heap.size ≤ b ∧ b < wc.heap.size)) wc vo fs) (hk : IsSl vk) :
    TpP (fun b => b < n₀ ∨ (w.heap.size ≤ b ∧ b < (wc.setCells (w.heap.size + 1) 0 (cells14 f vd va vp vo vk ak)).heap.size)) (wc.setCells (w.heap.size + 1) 0 (cells14 f vd va vp vo vk ak)) (cells14 f vd va vp vo vk ak) f fs ∧ Below w.heap.size w (wc.setCells (w.heap.size + 1) 0 (cells14 f vd va vp vo vk ak)) := by
  have s1 := hB1.size
  have s2 := hB2.size
  have s3 := hB3.size
  rw [sets_size]
  have hold : ∀ b, b < w.heap.size → (wc.setCells (w.heap.size + 1) 0 (cells14 f vd va vp vo vk ak)).heap[b]? = w.heap[b]? := fun b hb =>
    (sets_other (by omega)).trans ((hB3.block b (by omega)).trans ((hB2.block b (by omega)).trans ((hB1.block b (by omega)).trans (hBV.block b hb))))
  refine ⟨⟨vd, va, vp, vo, vk, ak, rfl, hvd.toP.kept (fun b hb => .inl hb) (fun b hb => hold b (by omega)), hacl.kept (fun b hb => .inr ⟨by omega, by omega⟩) (fun b hb => (sets_other (by omega)).trans ((hB3.block b (by omega)).trans (hB2.block b hb.2))), hvp.toP.kept (fun b hb => .inl hb) (fun b hb => hold b (by omega)), hops.kept (fun b hb => by omega) (fun b hb => sets_other (by omega)), hk⟩, ?_⟩
  have hg := sets_grown (V := wc) (b := w.heap.size + 1) (cells14 f vd va vp vo vk ak) 0 wc ⟨rfl, rfl, rfl, Nat.le_refl _, fun _ _ _ => rfl⟩
  exact ⟨hg.os.trans (hB3.os.trans (hB2.os.trans (hB1.os.trans hBV.os))), hg.tape.trans (hB3.tape.trans (hB2.tape.trans (hB1.tape.trans hBV.tape))), hg.output.trans (hB3.output.trans (hB2.output.trans (hB1.output.trans hBV.output))), by rw [sets_size]; omega, hold⟩

end Go.Proofs.Qxb6609425a
