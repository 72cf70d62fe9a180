/-
  stripped.
-/
import Derived.Test.Qxb6609425aTo
namespace Go.Proofs.Qxb6609425a
open Go.RowKit
set_option linter.unusedSimpArgs false
set_option linter.unusedVariables false

theorem run_neq_nil' (w : World) (t e : TypeId) (a : Option Addr) (n c n' c' : Nat) (h : Try.prog.underlying t = some (.slice e)) :
    (binOp .neq t (.slice a n c) (.slice none n' c')).run Try.prog w = .ok (.bool (!a.isNone)) w := by
  simp only [binOp]
  simp [Op.equal, Op.maxDepth, Lib.run_equalIn_slice_nil w 9999 t e a n c n' c' h]

/-- f without its own mark. -/
def Fd.bare (f : Fd) : Fd := { f with seq := false }

/-- The cells of an op that is stripped. -/
def StOp (n₀ : Nat) (W : World) (cs : List Value) (f : Fd) : Prop :=
  ∃ vd va vp, cs = cells14 f vd va vp (.slice none 0 0) (.slice none 0 0) 0 ∧ ByteV n₀ W vd f.data ∧ AclV n₀ W va f.acl ∧ ByteV n₀ W vp f.pw ∧ Lim f [] 0

def SRow (n₀ : Nat) (w W : World) (b : Nat) (fs : List Fd) (j : Nat) : Prop :=
  ∃ f, W.rowIs b 28 (fs.length * 14) f ∧ ∀ j' (h : j' < fs.length), j' < j → ∃ cs, StOp n₀ w cs fs[j'] ∧ ∀ k u, cs[k]? = some u → f (j' * 14 + k) = u

theorem StOp.len {n₀ : Nat} {W : World} {cs : List Value} {f : Fd} (h : StOp n₀ W cs f) : cs.length = 14 := by
  obtain ⟨vd, va, vp, rfl, _⟩ := h
  rfl

theorem SRow.next {n₀ : Nat} {w W W6 : World} {b j : Nat} {fs : List Fd} (h : SRow n₀ w W b fs j) (hj : j < fs.length) (hB : W6.heap[b]? = W.heap[b]?) {cs : List Value} (hc : StOp n₀ w cs fs[j]) :
    SRow n₀ w (W6.setCells b (j * 14) cs) b fs (j + 1) := by
  obtain ⟨f, h1, h2⟩ := h
  obtain ⟨f', e1, e2, e3⟩ := row_sets cs (j * 14) W6 f (h1.of_block hB)
  refine ⟨f', e1, fun j' hj' hlt => ?_⟩
  by_cases e : j' = j
  · subst e
    exact ⟨cs, hc, fun k u hu => e2 k u hu⟩
  · obtain ⟨cs', g1, g2⟩ := h2 j' hj' (by omega)
    have hl := g1.len
    refine ⟨cs', g1, fun k u hu => ?_⟩
    have hk : k < 14 := by have := (List.getElem?_eq_some_iff.1 hu).1; omega
    rw [e3 _ (by omega)]
    exact g2 k u hu

/-- What stripped hands back. -/
def StripEnd (f : Fd) (fs : List Fd) (w : World) (e : Ending) (w' : World) : Prop :=
  ∃ cs t, e = .returned (.agg cs.toArray) ∧ In 2 w'.heap.size w' cs f.bare (if f.op = 14 then fs else []) t ∧ t ≤ 1048576 ∧ Below w.heap.size w w'

theorem ByteV.up {n₀ n₁ : Nat} {W : World} {v : Value} {o : Option (List Value)} (h : ByteV n₀ W v o) (hn : n₀ ≤ n₁) : ByteV n₁ W v o := (h.toP.kept (q := (· < n₁)) (fun b hb => by omega) (fun _ _ => rfl)).toV
theorem AclV.up {n₀ n₁ : Nat} {W : World} {v : Value} {ac : List Acl} (h : AclV n₀ W v ac) (hn : n₀ ≤ n₁) : AclV n₁ W v ac := AclP.kept (p := (· < n₀)) (q := (· < n₁)) h (fun b hb => by omega) (fun _ _ => rfl)

theorem ask_nil (n₀ : Nat) (W : World) : AskV n₀ W (.slice none 0 0) [] := ⟨none, 0, rfl, fun h => by simp at h⟩

/-- An op's own weight, stripped. -/
def wt (g : Fd) : Nat := own0 g 0 0 + aclS g.acl g.acl.length

theorem In.ge {d n₀ : Nat} {W : World} {cs : List Value} {f : Fd} {fs : List Fd} {t : Nat} (h : In d n₀ W cs f fs t) : wt f ≤ t := by
  cases d with
  | zero => exact h.elim
  | succ d =>
    obtain ⟨vd, va, vp, vk, ak, ks, ao, co, ts, _, _, _, _, _, _, _, ht, _⟩ := h
    rw [ht]
    unfold wt own0
    omega

theorem numS_map_le {fs : List Fd} {ts : List Nat} (hl : ts.length = fs.length) (h : ∀ j (h : j < fs.length) (h' : j < ts.length), wt fs[j] ≤ ts[j]) : ∀ k, k ≤ fs.length → numS (fs.map wt) k ≤ numS ts k
  | 0, _ => by simp [numS]
  | k + 1, hk => by
    rw [numS_succ (by simp; omega), numS_succ (by omega)]
    have := numS_map_le hl h k (by omega)
    have h2 := h k (by omega) (by omega)
    simp only [List.getElem_map]
    omega

theorem lim_bare {f : Fd} {ks : List (ByteArray × ByteArray)} {no no' : Nat} (h : Lim f ks no) (hn : no' ≤ no) : Lim f.bare [] no' := by
  obtain ⟨h1, h2, h3, h4, h5, h6, h7, h8⟩ := h
  exact ⟨h1, h2, h3, h4, by simp [maxLen], by omega, h7, by simp⟩
theorem lim_op {f : Fd} {ks : List (ByteArray × ByteArray)} {no : Nat} (h : Lim f ks no) : Lim f [] 0 := by
  obtain ⟨h1, h2, h3, h4, h5, h6, h7, h8⟩ := h
  exact ⟨h1, h2, h3, h4, by simp [maxLen], by simp [maxLen], h7, by simp⟩

theorem StOp.into {n₀ n₁ : Nat} {w W : World} {cs : List Value} {f : Fd} (h : StOp n₀ w cs f) (hB : Below n₀ w W) (hn : n₀ ≤ n₁) : In 1 n₁ W cs f [] (wt f) := by
  obtain ⟨vd, va, vp, rfl, h2, h3, h4, h5⟩ := h
  exact ⟨vd, va, vp, _, 0, [], none, 0, [], rfl, (h2.below hB).up hn, (h3.below hB).up hn, (h4.below hB).up hn, ask_nil _ _, h5, rfl, by simp [wt, askS, numS], fun h => by simp at h⟩

theorem strip_in {n₀ : Nat} {w W : World} {f : Fd} {vd va vp : Value} {ks : List (ByteArray × ByteArray)} {no : Nat} (fs' : List Fd) (ao : Option Addr) (co : Nat) (hvd : ByteV n₀ w vd f.data) (hva : AclV n₀ w va f.acl) (hvp : ByteV n₀ w vp f.pw) (hL : Lim f ks no) (hB : Below w.heap.size w W) (hn : n₀ ≤ w.heap.size)
    (hno : fs'.length ≤ no) (hsum : own0 f 0 fs'.length + aclS f.acl f.acl.length + numS (fs'.map wt) fs'.length ≤ 1048576)
    (hops : 0 < fs'.length → ∃ g o, ao = some ⟨g, o, none⟩ ∧ g < W.heap.size ∧ ∀ j (h : j < fs'.length), ∃ cs, StOp n₀ w cs fs'[j] ∧ W.rangeAt g (o + j * 14) cs) :
    ∃ t, In 2 W.heap.size W (cells14 f.bare vd va vp (.slice ao fs'.length co) (.slice none 0 0) 0) f.bare fs' t ∧ t ≤ 1048576 := by
  have hs := hB.size
  have hBn : Below n₀ w W := hB.mono hn
  refine ⟨own0 f 0 fs'.length + aclS f.acl f.acl.length + numS (fs'.map wt) fs'.length, ⟨vd, va, vp, _, 0, [], ao, co, fs'.map wt, rfl, (hvd.below hBn).up (by omega), (hva.below hBn).up (by omega), (hvp.below hBn).up (by omega), ask_nil _ _, lim_bare hL hno, by simp, ?_, fun h => ?_⟩, hsum⟩
  · simp only [List.length_map, List.length_nil, askS, List.take_nil, List.map_nil, List.sum_nil, Nat.add_zero]
    rfl
  · obtain ⟨g, o, e1, e2, e3⟩ := hops h
    refine ⟨g, o, e1, e2, fun j hj hj' => ?_⟩
    obtain ⟨cs, e4, e5⟩ := e3 j hj
    refine ⟨cs, [], ?_, e5⟩
    rw [List.getElem_map]
    exact e4.into hBn (by omega)

theorem three (w : World) (o1 o2 o3 : Obj) : (((w.alloc o1).alloc o2).alloc o3).heap[w.heap.size + 1]? = some o2 ∧ Below w.heap.size w (((w.alloc o1).alloc o2).alloc o3) ∧ (((w.alloc o1).alloc o2).alloc o3).heap.size = w.heap.size + 3 := by
  refine ⟨?_, (((Below.refl _ _).alloc (Nat.le_refl _) _).alloc (by simp) _).alloc (by simp; omega) _, by simp⟩
  have h1 := Deep.blk_alloc_new (w.alloc o1) o2
  rw [Deep.nblk_alloc] at h1
  exact (Deep.blk_alloc_lt _ _ _ (by simp)).trans h1

theorem four_ex (w : World) (o1 o2 o3 : Obj) (arr : Array Value) : ∃ V, (((w.alloc o1).alloc o2).alloc o3).alloc (.cells arr 28) = V ∧ V.heap[w.heap.size]? = some o1 ∧ V.heap[w.heap.size + 1]? = some o2 ∧ V.heap[w.heap.size + 1 + 1]? = some o3 ∧ (∃ f, V.rowIs (w.heap.size + 1 + 1 + 1) 28 arr.size f) ∧ Below w.heap.size w V ∧ V.heap.size = w.heap.size + 4 := by
  have h1 := Deep.blk_alloc_new w o1
  have h2 := Deep.blk_alloc_new (w.alloc o1) o2
  have h3 := Deep.blk_alloc_new ((w.alloc o1).alloc o2) o3
  simp only [Deep.nblk_alloc] at h2 h3
  have hr := row_any (((w.alloc o1).alloc o2).alloc o3) arr 28
  simp only [Deep.nblk_alloc] at hr
  refine ⟨_, rfl, ?_, ?_, ?_, hr, ((((Below.refl _ _).alloc (Nat.le_refl _) _).alloc (by simp only [Deep.nblk_alloc]; omega) _).alloc (by simp only [Deep.nblk_alloc]; omega) _).alloc (by simp only [Deep.nblk_alloc]; omega) _, by simp⟩
  · exact (Deep.blk_alloc_lt _ _ _ (by simp only [Deep.nblk_alloc]; omega)).trans ((Deep.blk_alloc_lt _ _ _ (by simp only [Deep.nblk_alloc]; omega)).trans ((Deep.blk_alloc_lt _ _ _ (by simp only [Deep.nblk_alloc]; omega)).trans h1))
  · exact (Deep.blk_alloc_lt _ _ _ (by simp only [Deep.nblk_alloc]; omega)).trans ((Deep.blk_alloc_lt _ _ _ (by simp only [Deep.nblk_alloc]; omega)).trans h2)
  · exact (Deep.blk_alloc_lt _ _ _ (by simp only [Deep.nblk_alloc]; omega)).trans h3

theorem SRow.alloc {n₀ : Nat} {w W : World} {b j : Nat} {fs : List Fd} (h : SRow n₀ w W b fs j) (o : Obj) : SRow n₀ w (W.alloc o) b fs j := by
  obtain ⟨f, h1, h2⟩ := h
  exact ⟨f, h1.alloc o, h2⟩
theorem SRow.lt {n₀ : Nat} {w W : World} {b j : Nat} {fs : List Fd} (h : SRow n₀ w W b fs j) : b < W.heap.size := by
  obtain ⟨f, h1, h2⟩ := h
  exact h1.lt
theorem SRow.range {n₀ : Nat} {w W W' : World} {b : Nat} {fs : List Fd} (h : SRow n₀ w W b fs fs.length) (hb : W'.heap[b]? = W.heap[b]?) (j : Nat) (hj : j < fs.length) : ∃ cs, StOp n₀ w cs fs[j] ∧ W'.rangeAt b (0 + j * 14) cs := by
  obtain ⟨f, h1, h2⟩ := h
  obtain ⟨cs, g1, g2⟩ := h2 j hj hj
  have hl := g1.len
  refine ⟨cs, g1, fun k u hu => ?_⟩
  have hk : k < 14 := by have := (List.getElem?_eq_some_iff.1 hu).1; omega
  rw [Nat.zero_add, (h1.of_block hb).cell (by omega), g2 k u hu]
theorem grown_alloc {V W : World} {r : Option Nat} (h : V.grownBy W r) (o : Obj) : V.grownBy (W.alloc o) r := grown_below h ((Below.refl _ _).alloc (Nat.le_refl _) _)

theorem In.parts {d n₀ : Nat} {W : World} {cs : List Value} {f : Fd} {fs : List Fd} {t : Nat} (h : In d n₀ W cs f fs t) :
    ∃ (ad aa ap ao ak' : Option Addr) (cd ca cp co ck : Nat) (ks : List (ByteArray × ByteArray)) (ak : Int), cs = cells14 f (.slice ad (lenO f.data) cd) (.slice aa f.acl.length ca) (.slice ap (lenO f.pw) cp) (.slice ao fs.length co) (.slice ak' ks.length ck) ak ∧
      StOp n₀ W (cells14 f (.slice ad (lenO f.data) cd) (.slice aa f.acl.length ca) (.slice ap (lenO f.pw) cp) (.slice none 0 0) (.slice none 0 0) 0) f := by
  cases d with
  | zero => exact h.elim
  | succ d =>
    obtain ⟨vd, va, vp, vk, ak, ks, ao, co, ts, rfl, hvd, hva, hvp, hvk, hlim, _⟩ := h
    have hva' := hva
    obtain ⟨ad, cd, rfl⟩ := hvd.slice
    obtain ⟨aa, ca, rfl, _⟩ := hva
    obtain ⟨ap, cp, rfl⟩ := hvp.slice
    obtain ⟨ak', ck, rfl, _⟩ := hvk
    exact ⟨ad, aa, ap, ao, ak', cd, ca, cp, co, ck, ks, ak, rfl, _, _, _, rfl, hvd, hva', hvp, lim_op hlim⟩

theorem strip_close {n₀ : Nat} {f : Fd} {w V wr : World} {vd va vp : Value} {ks : List (ByteArray × ByteArray)} (fs : List Fd) (xo : Addr) (AB : Nat) (v : Value) (hvd : ByteV n₀ w vd f.data) (hva : AclV n₀ w va f.acl) (hvp : ByteV n₀ w vp f.pw) (hL : Lim f ks fs.length) (hn : n₀ ≤ w.heap.size)
    (hsum : own0 f 0 fs.length + aclS f.acl f.acl.length + numS (fs.map wt) fs.length ≤ 1048576) (hop : f.op = 14) (hBV : Below w.heap.size w V) (hVs : V.heap.size = w.heap.size + 4) (hAB : AB = w.heap.size + 1 + 1 + 1) (hg : V.grownBy wr (some AB)) (har : SRow n₀ w wr AB fs fs.length) :
    StripEnd f fs w (.returned (.agg (cells14 f.bare vd va vp (.slice (some ⟨AB, 0, none⟩) fs.length fs.length) (.slice none 0 0) 0).toArray)) ((wr.setCell ⟨w.heap.size + 1 + 1, 10, none⟩ v).setCells (w.heap.size + 1) 0 (cells14 f.bare vd va vp (.slice (some ⟨AB, 0, none⟩) fs.length fs.length) (.slice none 0 0) 0)) := by
  obtain ⟨cs, hcs⟩ : ∃ cs, cs = cells14 f.bare vd va vp (.slice (some ⟨AB, 0, none⟩) fs.length fs.length) (.slice none 0 0) 0 := ⟨_, rfl⟩
  rw [← hcs]
  have hsz : ((wr.setCell ⟨w.heap.size + 1 + 1, 10, none⟩ v).setCells (w.heap.size + 1) 0 cs).heap.size = wr.heap.size := by rw [sets_size, Deep.nblk_setCell]
  have hs := hg.size
  have hbl : ∀ b, b ≠ w.heap.size + 1 → b ≠ w.heap.size + 1 + 1 → ((wr.setCell ⟨w.heap.size + 1 + 1, 10, none⟩ v).setCells (w.heap.size + 1) 0 cs).heap[b]? = wr.heap[b]? := fun b h1 h2 => (sets_other h1).trans (Deep.blk_setCell_other _ _ _ _ h2)
  have hgr := sets_grown (V := wr.setCell ⟨w.heap.size + 1 + 1, 10, none⟩ v) (b := w.heap.size + 1) cs 0 _ ⟨rfl, rfl, rfl, Nat.le_refl _, fun _ _ _ => rfl⟩
  have hB : Below w.heap.size w ((wr.setCell ⟨w.heap.size + 1 + 1, 10, none⟩ v).setCells (w.heap.size + 1) 0 cs) :=
    ⟨hgr.os.trans (hg.os.trans hBV.os), hgr.tape.trans (hg.tape.trans hBV.tape), hgr.output.trans (hg.output.trans hBV.output), by rw [hsz]; omega, fun b hb => (hbl b (by omega) (by omega)).trans ((hg.block b (by omega) (by intro e; cases e; omega)).trans (hBV.block b hb))⟩
  obtain ⟨t', hin, ht'⟩ := strip_in fs (some ⟨AB, 0, none⟩) fs.length hvd hva hvp hL hB hn (Nat.le_refl _) hsum (fun _ => ⟨AB, 0, rfl, by rw [hsz]; exact har.lt, fun j hj => har.range (hbl AB (by omega) (by omega)) j hj⟩)
  exact ⟨cs, t', rfl, by rw [if_pos hop, hcs]; rw [hcs] at hin; exact hin, ht', hB⟩

end Go.Proofs.Qxb6609425a
