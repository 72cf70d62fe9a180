/-
  ByReceiver: what its loops keep.
-/
import Derived.Test.Qxb6612463aLeafs
namespace Go.Proofs.Qxb6612463a
open Go.RowKit Go.Deep
set_option linter.unusedSimpArgs false
set_option linter.unusedVariables false

theorem keyS : Maps.Keyed Try.prog 9 := Maps.string_keyed Try.underlying9
theorem zero3 (w : World) : (zeroValue 3).run Try.prog w = .ok (.int .i64 0) w := by kernel_rfl
theorem key_of {x : Str} {s : ByteArray} (hs : Value.string s = encStr x) (hx : x.length ≤ 1048576) : keyOf Try.prog 9 (.string s) = some (litS x) := by
  rw [hs]
  exact WideMaps.keyOf_string_mk (P := Try.prog) Try.underlying9 (s := ⟨x.toArray⟩) (by show x.toArray.size ≤ maxLen; unfold maxLen; simp; omega)

theorem run_makeMap_hint (n : Int) (w : World) : (Instr.makeMap 33 (some (.int .i64 n))).run Try.prog w = .ok (.map (some w.heap.size)) (w.alloc (.map #[] 0)) := by
  simp [Instr.makeMap, run_underlying Try.underlying33, asInt, asIntOf, Result.andThen]

/-- The counts of the first i records. -/
def CountM (l : List Str) (i : Nat) (M : Str → Option Value) : Prop := ∀ x, M x = if cnt (l.take i) x = 0 then none else some (.int .i64 (cnt (l.take i) x : Nat))

theorem CountM.start (l : List Str) : CountM l 0 (fun _ => none) := fun x => by simp [cnt]
theorem CountM.get {l : List Str} {i : Nat} {M : Str → Option Value} (h : CountM l i M) (x : Str) : (M x).getD (.int .i64 0) = .int .i64 (cnt (l.take i) x : Nat) := by
  rw [h x]
  split
  · simp_all
  · rfl
theorem CountM.some {l : List Str} {i : Nat} {M : Str → Option Value} (h : CountM l i M) (x : Str) : (M x).isSome = true ↔ x ∈ l.take i := by
  rw [h x]
  have : cnt (l.take i) x = 0 ↔ x ∉ l.take i := by
    unfold cnt
    rw [List.countP_eq_zero]
    constructor
    · intro h hx; have := h x hx; simp at this
    · intro h y hy; simp; intro e; exact h (e ▸ hy)
  split
  · simp_all
  · simp_all
theorem CountM.next {l : List Str} {i : Nat} {M : Str → Option Value} (h : CountM l i M) (hi : i < l.length) : CountM l (i + 1) (put M l[i] (.int .i64 ((cnt (l.take i) l[i] : Nat) + 1))) := fun x => by
  rw [cnt_take_succ hi]
  unfold put
  by_cases e : x = l[i]
  · rw [if_pos e, if_pos e.symm, if_neg (by omega), e]
    simp
  · have e' : ¬ l[i] = x := fun h => e h.symm
    rw [if_neg e, h x]
    simp [e']

/-- The first loop. -/
def Cnts (l : List Str) (mb : Nat) (w : World) (i : Nat) (wq : World) : Prop := ∃ M sz, Raw litS wq Try.prog 9 mb i M sz ∧ CountM l i M ∧ sz ≤ i ∧ Below w.heap.size w wq

theorem Cnts.up {l : List Str} {mb i sz : Nat} {w wr w1 : World} {M : Str → Option Value} {c : Nat} (hi : i < l.length) (hM : CountM l i M) (hsz : sz ≤ i) (hc : c = cnt (l.take i) l[i])
    (hr : Raw litS w1 Try.prog 9 mb (i + 1) (put M l[i] (.int .i64 ((c : Int) + 1))) (if (M l[i]).isSome then sz else sz + 1)) (hB : Below w.heap.size w wr) (hmb : w.heap.size ≤ mb) (hg : wr.grownBy w1 (some mb)) :
    (∃ i' : Nat, Value.int IntKind.i64 ((i : Int) + 1) = Value.int IntKind.i64 i' ∧ i' ≤ l.length ∧ Cnts l mb w i' w1) ∧
      l.length - (intOf (Value.int IntKind.i64 ((i : Int) + 1))).toNat < l.length - (intOf (Value.int IntKind.i64 (i : Int))).toNat := by
  subst hc
  exact ⟨⟨i + 1, rfl, by omega, _, _, hr, hM.next hi, by split <;> omega, hB.grown hg hB.size (by intro k hk; cases hk; exact hmb)⟩, meas hi⟩

theorem nodup_of (l : List Str) : ∃ ss : List Str, ss.Nodup ∧ ∀ x, x ∈ ss ↔ x ∈ l := by
  induction l with
  | nil => exact ⟨[], List.nodup_nil, fun _ => Iff.rfl⟩
  | cons a l ih =>
    obtain ⟨ss, h1, h2⟩ := ih
    by_cases ha : a ∈ l
    · exact ⟨ss, h1, fun x => by rw [h2, List.mem_cons]; exact ⟨.inr, fun h => h.elim (fun e => e ▸ ha) id⟩⟩
    · exact ⟨a :: ss, List.nodup_cons.2 ⟨fun h => ha ((h2 a).1 h), h1⟩, fun x => by simp [h2]⟩

theorem keys_of_map {l : List Str} {w : World} {b n : Nat} {D : DataW Value} {M : Str → Option Value} (hown : w.ownsMap Try.prog 9 rawE b n D) (hhas : ∀ x, Maps.has D (litS x) = (M x).isSome) (hM : CountM l l.length M) {ss : List Str} (hS : ss.Perm (strKeys D)) :
    Keys l (ss.mergeSort (fun x y => decide (x ≤ y))) := by
  obtain ⟨ss0, h1, h2⟩ := nodup_of l
  obtain ⟨es, hD, hpw, _⟩ := hown.entries keyS
  obtain ⟨es', hD', hko⟩ := hown.keysOf
  obtain rfl : es = es' := by rw [hD] at hD'; simpa using hD'
  subst hD
  have hp := perm_strKeys hpw (fun p hp => by obtain ⟨v, hv⟩ := hko p hp; obtain ⟨x, _, hx, _⟩ := Maps.keyOf_str Try.underlying9 hv; exact ⟨x, hx⟩) h1 (fun x => by
    have h3 := hhas x
    show _ ↔ Maps.has (.map es) (litS x) = true
    rw [h3, hM.some, List.take_length, h2])
  have hp2 := hS.trans hp.symm
  exact keys_sorted (hp2.nodup_iff.2 h1) (fun x => (hp2.mem_iff).trans (h2 x))

theorem strs_of_owns {w : World} {base m : Nat} {v : Value} {xs : List Str} (h : w.ownsRow base 9 1 v m (xs.map encStr)) (hm : xs.length = m) : ∃ a c, v = .slice a xs.length c ∧ StrsAt w a xs := by
  rcases h.2 with ⟨rfl, h0⟩ | ⟨g, cap, cur, rfl, hb, hg, hrest⟩
  · subst hm
    exact ⟨none, 0, by rw [h0], fun h => by omega⟩
  · subst hm
    refine ⟨some ⟨g, 0, none⟩, cap, rfl, fun _ => ⟨g, 0, rfl, (h.lt g rfl).2, fun j hj => ?_⟩⟩
    have := World.ownsRow.cellAt h j (by omega)
    rw [Nat.zero_add, this]
    simp [hj]

/-- The second loop. -/
def EndM (l ks : List Str) (j : Nat) (M : Str → Option Value) : Prop := ∀ x, M x = if x ∈ ks.take j then some (.int .i64 (st l x : Nat)) else none
def Ends (l ks : List Str) (mb : Nat) (w : World) (j : Nat) (wq : World) : Prop := ∃ M sz, Raw litS wq Try.prog 9 mb j M sz ∧ EndM l ks j M ∧ Below w.heap.size w wq

theorem Ends.up {l ks : List Str} {mb j sz : Nat} {w wr w1 : World} {M : Str → Option Value} {p q : Nat} (hK : Keys l ks) (hj : j < ks.length) (hM : EndM l ks j M) (hp : p = S l ks j) (hq : q = cnt l ks[j])
    (hr : Raw litS w1 Try.prog 9 mb (j + 1) (put M ks[j] (.int .i64 (p : Int))) (if (M ks[j]).isSome then sz else sz + 1)) (hB : Below w.heap.size w wr) (hmb : w.heap.size ≤ mb) (hg : wr.grownBy w1 (some mb)) :
    (∃ j' : Nat, Value.int IntKind.i64 ((j : Int) + 1) = Value.int IntKind.i64 j' ∧ Value.int IntKind.i64 ((p : Int) + (q : Int)) = .int .i64 (S l ks j' : Nat) ∧ j' ≤ ks.length ∧ Ends l ks mb w j' w1) ∧
      ks.length - (intOf (Value.int IntKind.i64 ((j : Int) + 1))).toNat < ks.length - (intOf (Value.int IntKind.i64 (j : Int))).toNat := by
  refine ⟨⟨j + 1, rfl, ?_, by omega, _, _, hr, fun x => ?_, hB.grown hg hB.size (by intro k hk; cases hk; exact hmb)⟩, meas hj⟩
  · rw [S_succ hK hj, ← hp, ← hq]
    simp
  · unfold put
    have hm : x ∈ ks.take (j + 1) ↔ (x ∈ ks.take j ∨ x = ks[j]) := by rw [List.take_succ_eq_append_getElem hj, List.mem_append, List.mem_singleton]
    by_cases e : x = ks[j]
    · rw [if_pos e, if_pos (hm.2 (.inr e)), e, hp, S_st hK hj]
    · rw [if_neg e, hM x]
      simp only [hm, e, or_false]

/-- The third loop. -/
def EndI (l ks : List Str) (i : Nat) (M : Str → Option Value) : Prop := ∀ x, M x = if x ∈ ks then some (.int .i64 ((st l x + cnt (l.take i) x : Nat) : Int)) else none
def Plc (w : World) (PB : Nat) (l : List Str) (i : Nat) : Prop := ∃ f, w.rowIs PB 3 l.length f ∧ ∀ i', i' < i → f (pos l i') = .int .i64 (i' : Nat)
def Third (l ks : List Str) (mb PB : Nat) (w : World) (i : Nat) (wq : World) : Prop := ∃ M sz, Raw litS wq Try.prog 9 mb (ks.length + i) M sz ∧ EndI l ks i M ∧ Plc wq PB l i ∧ Below w.heap.size w wq

theorem EndI.start {l ks : List Str} {M : Str → Option Value} (h : EndM l ks ks.length M) : EndI l ks 0 M := fun x => by
  rw [h x, List.take_length]
  simp [cnt]

theorem EndI.get {l ks : List Str} {i : Nat} {M : Str → Option Value} (h : EndI l ks i M) {x : Str} (hx : x ∈ ks) : (M x).getD (.int .i64 0) = .int .i64 ((st l x + cnt (l.take i) x : Nat) : Int) := by
  rw [h x, if_pos hx]
  rfl

theorem Third.up {l ks : List Str} {mb PB i sz : Nat} {w wr w1 : World} {M : Str → Option Value} {p : Nat} (hK : Keys l ks) (hi : i < l.length) (hM : EndI l ks i M) (hP : Plc wr PB l i) (hp : p = pos l i)
    (hr : Raw litS w1 Try.prog 9 mb (ks.length + i + 1) (put M l[i] (.int .i64 ((p : Int) + 1))) (if (M l[i]).isSome then sz else sz + 1)) (hB : Below w.heap.size w wr) (hmb : w.heap.size ≤ mb) (hPB : w.heap.size ≤ PB) (hne : PB ≠ mb) (hg : (wr.setCell ⟨PB, p, none⟩ (.int .i64 (i : Int))).grownBy w1 (some mb)) :
    (∃ i' : Nat, Value.int IntKind.i64 ((i : Int) + 1) = Value.int IntKind.i64 i' ∧ i' ≤ l.length ∧ Third l ks mb PB w i' w1) ∧
      l.length - (intOf (Value.int IntKind.i64 ((i : Int) + 1))).toNat < l.length - (intOf (Value.int IntKind.i64 (i : Int))).toNat := by
  have hB1 : Below w.heap.size w (wr.setCell ⟨PB, p, none⟩ (.int .i64 (i : Int))) := hB.grown (grown_set (World.grownBy.refl _ _) p _) hB.size (by intro k hk; cases hk; exact hPB)
  refine ⟨⟨i + 1, rfl, by omega, _, _, hr, fun x => ?_, ?_, hB1.grown hg hB1.size (by intro k hk; cases hk; exact hmb)⟩, meas hi⟩
  · rw [cnt_take_succ hi]
    unfold put
    by_cases e : x = l[i]
    · rw [if_pos e, if_pos e.symm, if_pos (by rw [e]; exact (hK.2 _).2 (List.getElem_mem hi)), hp, pos_eq hi, e]
      simp
      omega
    · have e' : ¬ l[i] = x := fun h => e h.symm
      rw [if_neg e, hM x, if_neg e']
      simp
  · obtain ⟨f, h1, h2⟩ := hP
    have h3 := (h1.set p (.int .i64 (i : Int)))
    refine ⟨_, h3.of_block (hg.block PB (by have := h3.lt; exact this) (by intro e; cases e; exact hne rfl)), fun i' hi' => ?_⟩
    by_cases e : i' = i
    · subst e
      simp [hp]
    · have : pos l i' ≠ p := by rw [hp]; intro h; exact e (pos_inj (by omega) hi h)
      simp only [this, if_false]
      exact h2 i' (by omega)

/-- What ByReceiver hands back. -/
def grpV (PB : Nat) (l : List Str) (x : Str) : Value := .slice (some ⟨PB, st l x, none⟩) (cnt l x) (l.length - st l x)
def Groups (w : World) (GB PB : Nat) (l ks : List Str) : Prop := ∃ f, w.rowIs GB 29 ks.length f ∧ ∀ k (h : k < ks.length), f k = grpV PB l ks[k]
def Places (w : World) (PB : Nat) (l : List Str) : Prop := ∃ f, w.rowIs PB 3 l.length f ∧ ∀ i, i < l.length → f (pos l i) = .int .i64 (i : Nat)
def ByEnd (l : List Str) (w : World) (e : Ending) (w' : World) : Prop :=
  ∃ ks ka kc GB PB, e = .returned (.tuple #[.slice ka ks.length kc, .slice (some ⟨GB, 0, none⟩) ks.length ks.length]) ∧ Keys l ks ∧ StrsAt w' ka ks ∧ Groups w' GB PB l ks ∧ Places w' PB l ∧ Below w.heap.size w w'

/-- The fourth loop. -/
def Fourth (l ks : List Str) (PB GB : Nat) (V : World) (k : Nat) (wq : World) : Prop := V.grownBy wq (some GB) ∧ ∃ f, wq.rowIs GB 29 ks.length f ∧ ∀ k' (h : k' < ks.length), k' < k → f k' = grpV PB l ks[k']

theorem Fourth.up {l ks : List Str} {PB GB k : Nat} {V wr : World} (h : Fourth l ks PB GB V k wr) (hk : k < ks.length) :
    (∃ k' : Nat, Value.int IntKind.i64 ((k : Int) + 1) = Value.int IntKind.i64 k' ∧ k' ≤ ks.length ∧ Fourth l ks PB GB V k' (wr.setCell ⟨GB, k, none⟩ (grpV PB l ks[k]))) ∧
      ks.length - (intOf (Value.int IntKind.i64 ((k : Int) + 1))).toNat < ks.length - (intOf (Value.int IntKind.i64 (k : Int))).toNat := by
  obtain ⟨h1, f, h2, h3⟩ := h
  refine ⟨⟨k + 1, rfl, by omega, grown_set h1 _ _, _, h2.set k _, fun k' hk' hkk => ?_⟩, meas hk⟩
  by_cases e : k' = k
  · subst e; simp
  · simp only [e, if_false]
    exact h3 k' hk' (by omega)

theorem cell_same {W W' : World} {a : Addr} {v : Option Value} (h : W'.heap[a.block]? = W.heap[a.block]?) (hv : W.cell? a = v) : W'.cell? a = v := by
  rw [← hv]
  unfold World.cell?
  rw [h]

theorem Try.info29 : (Try.prog.info? 29).map (fun i => (i.zero, i.size, i.bytes)) = some (some (.slice none 0 0), 1, 24) := by kernel_rfl

set_option maxRecDepth 100000 in
set_option maxHeartbeats 6400000 in
theorem byReceiver_any (B : Nat) (a : Option Addr) (l : List Str) (c : Nat) (w : World) (hB : w.cell? ⟨B, 0, none⟩ = some (.slice a l.length c)) (hBl : B < w.heap.size) (hc : StrsAt w a l) (hn : l.length ≤ 65536) (hs : ∀ x ∈ l, x.length ≤ 1048576) :
    Calls Try.prog 11 #[.int .i64 l.length, .func (.func 12) #[] #[.pointer (some ⟨B, 0, none⟩)]] w (ByEnd l w) := by
  have HC : Hid (StrsAt w a l) := hc
  have HS : Hid (∀ x ∈ l, x.length ≤ 1048576) := hs
  have HB : Hid (w.cell? ⟨B, 0, none⟩ = some (.slice a l.length c)) := hB
  have hmm := @run_makeMap Try.prog
  clear hc hs hB
  go_enter Try.func11, Try.ntmps11
  go_wp2_with fail
  obtain ⟨V, hV, _, hBV, hVs⟩ := box_ex w (.map #[] 0)
  have hcn : Cnts l w.heap.size w 0 V := by subst hV; exact ⟨_, 0, Raw.made litS w Try.prog 9, CountM.start l, Nat.le_refl _, hBV⟩
  rw [hV]
  clear hV hmm hBV
  obtain ⟨mb, hmb⟩ : ∃ mb, mb = w.heap.size := ⟨_, rfl⟩
  have HMB : Hid (mb = w.heap.size) := hmb
  rw [← hmb] at hcn ⊢
  clear hmb hVs
  go_loopw [21] (fun vi wq => ∃ i : Nat, vi = .int .i64 i ∧ i ≤ l.length ∧ Cnts l mb w i wq) (fun vi _ => l.length - (intOf vi).toNat)
  case atStart => exact ⟨0, rfl, by omega, hcn⟩
  case round =>
    clear hcn
    obtain ⟨i, rfl, hi, M, sz, hraw, hM, hsz, hBq⟩ := hrel
    by_cases hlt : i < l.length
    · have hii : (i : Int) < (l.length : Int) := by omega
      obtain ⟨s, hse⟩ : ∃ s, Value.string s = encStr l[i] := ⟨_, rfl⟩
      have hkey := key_of hse (HS.out _ (List.getElem_mem hlt))
      obtain ⟨q, hq⟩ : ∃ q : Nat, q = cnt (l.take i) l[i] := ⟨_, rfl⟩
      have hqle : q ≤ 65536 := by
        have h1 : cnt (l.take i) l[i] ≤ (l.take i).length := List.countP_le_length
        simp at h1
        omega
      have hlook := hraw.look keyS Try.underlying33 (zero3 wr) hkey
      rw [hM.get, ← hq] at hlook
      obtain ⟨w1, hrun, hraw1, hg⟩ := hraw.update litS_inj keyS Try.underlying33 (by unfold maxLen; omega) (key := .string s) (.int .i64 ((q : Int) + 1)) hkey
      have hcl := closure_any B a l c i wr ((hBq.cell (p := ⟨B, 0, none⟩) hBl).trans HB.out) (HC.out.below hBq (Nat.le_refl _)) hn hlt
      rw [← hse] at hcl
      have HCL : Hid (Calls Try.prog 12 #[.int .i64 i, .pointer (some ⟨B, 0, none⟩)] wr (ReadEnd (.string s) wr)) := hcl
      have HUP : Hid ((∃ i' : Nat, Value.int IntKind.i64 ((i : Int) + 1) = Value.int IntKind.i64 i' ∧ i' ≤ l.length ∧ Cnts l mb w i' w1) ∧
          l.length - (intOf (Value.int IntKind.i64 ((i : Int) + 1))).toNat < l.length - (intOf (Value.int IntKind.i64 (i : Int))).toNat) := Cnts.up hlt hM hsz hq hraw1 hBq (by rw [HMB.out]; exact Nat.le_refl _) hg
      clear hcl hraw1 hg hq hkey hse hraw hM hsz hBq
      go_wp2_with fail
      refine HCL.out.mono ?_
      rintro e w2 ⟨rfl, h2⟩
      replace h2 := h2.symm
      subst h2
      go_wp2_with fail
      exact HUP.out
    · obtain rfl : i = l.length := by omega
      obtain ⟨D, hown, hat, hhas, hsize⟩ := id hraw
      have hmax : Maps.size D ≤ maxLen := by unfold maxLen; omega
      have hbytes : Maps.size D * 16 ≤ 140737488355328 := by omega
      have HOWN : Hid (wr.ownsMap Try.prog 9 rawE mb l.length D) := hown
      have HKY : Hid (∀ ss : List Str, ss.Perm (strKeys D) → Keys l (ss.mergeSort (fun x y => decide (x ≤ y)))) := fun ss hS => keys_of_map hown hhas hM hS
      have HCT : Hid (∃ n M sz, Raw litS wr Try.prog 9 mb n M sz ∧ CountM l l.length M) := ⟨_, _, _, hraw, hM⟩
      have HBq : Hid (Below w.heap.size w wr) := hBq
      have hmbl := hraw.lt
      clear hown hat hhas hsize hraw hM hsz hBq
      go_wp2_with fail
      refine (callsIn_wide.1 (Try.maps_Keys_14 (some mb) wr)).mono ?_
      rintro e W1 ⟨rfl, hW1⟩
      subst hW1
      go_wp2_with fail
      refine (callsIn_wide.1 (Try.slices_Sorted_keys_13_14 mb l.length D rawE wr HOWN.out hmax hbytes)).mono ?_
      rintro e W2 ⟨v, ss, rfl, hS, hrow, _, hB2⟩
      obtain ⟨ks, hks⟩ : ∃ ks, ks = ss.mergeSort (fun x y => decide (x ≤ y)) := ⟨_, rfl⟩
      have hK := HKY.out ss hS
      rw [← hks] at hK hrow
      have hlk : ks.length = ss.length := by rw [hks, List.length_mergeSort]
      obtain ⟨ka, kc, rfl, hstr⟩ := strs_of_owns hrow hlk
      have hBr2 : Below wr.heap.size wr W2 := ((Below.refl _ _).alloc (Nat.le_refl _) _).trans (hB2.mono (by simp))
      have hs2 := hBr2.size
      have HSTR : Hid (StrsAt W2 ka ks) := hstr
      have HK : Hid (Keys l ks) := hK
      have hkl : ks.length ≤ l.length := by
        have h1 := le_S hK ks.length (Nat.le_refl _)
        rw [S_len hK] at h1
        exact h1
      have HCT2 : Hid (∃ n M sz, Raw litS W2 Try.prog 9 mb n M sz ∧ CountM l l.length M) := by
        obtain ⟨n, M, sz, h1, h2⟩ := HCT.out
        exact ⟨n, M, sz, h1.of_block (hBr2.block mb hmbl), h2⟩
      have HBW : Hid (Below w.heap.size w W2) := HBq.out.trans (hBr2.mono HBq.out.size)
      have hmb2 : mb < W2.heap.size := by omega
      clear hks hrow hS hstr hK hlk hB2 hBr2 HOWN HKY HCT HBq hmbl hmax hbytes hs2
      have hmm := fun n => run_makeMap_hint n W2
      go_wp2_with fail
      obtain ⟨V2, hV2, _, hBV2, hVs2⟩ := box_ex W2 (.map #[] 0)
      have hen : Ends l ks W2.heap.size W2 0 V2 := by subst hV2; exact ⟨_, 0, Raw.made litS W2 Try.prog 9, fun x => by simp, hBV2⟩
      rw [hV2]
      clear hV2 hmm hBV2
      obtain ⟨me, hme⟩ : ∃ me, me = W2.heap.size := ⟨_, rfl⟩
      have HME : Hid (me = W2.heap.size) := hme
      rw [← hme] at hen ⊢
      clear hme hVs2
      go_loopw [10, 39] (fun vp vj wq => ∃ j : Nat, vj = .int .i64 j ∧ vp = .int .i64 (S l ks j : Nat) ∧ j ≤ ks.length ∧ Ends l ks me W2 j wq) (fun _ vj _ => ks.length - (intOf vj).toNat)
      case atStart => exact ⟨0, rfl, by rw [S_zero]; rfl, by omega, hen⟩
      case round =>
        clear hen
        obtain ⟨j, rfl, rfl, hj, M, sz, hraw, hM, hBq⟩ := hrel
        by_cases hlt : j < ks.length
        · have hji : (j : Int) < (ks.length : Int) := by omega
          obtain ⟨g, o, rfl, hg, hcell⟩ := HSTR.out (by omega)
          have hd := (hBq.cell (p := ⟨g, o + j, none⟩) hg).trans (hcell j hlt)
          obtain ⟨s, hse⟩ : ∃ s, Value.string s = encStr ks[j] := ⟨_, rfl⟩
          rw [← hse] at hd
          have hkey := key_of hse (HS.out _ ((HK.out.2 _).1 (List.getElem_mem hlt)))
          obtain ⟨n1, M1, sz1, hraw1, hM1⟩ := HCT2.out
          have hlook := (hraw1.of_block (hBq.block mb hmb2)).look keyS Try.underlying33 (zero3 wr) hkey
          rw [hM1.get, List.take_length] at hlook
          obtain ⟨q, hq⟩ : ∃ q : Nat, q = cnt l ks[j] := ⟨_, rfl⟩
          obtain ⟨p, hp⟩ : ∃ p : Nat, p = S l ks j := ⟨_, rfl⟩
          have hpq : p + q ≤ 65536 := by
            have h1 := S_succ HK.out hlt
            have h2 := S_le (l := l) (ks := ks) (j := j + 1)
            omega
          rw [← hq] at hlook
          rw [← hp]
          obtain ⟨w1, hrun, hraw2, hgr⟩ := hraw.update litS_inj keyS Try.underlying33 (by unfold maxLen; omega) (key := .string s) (.int .i64 (p : Int)) hkey
          have HUP : Hid ((∃ j' : Nat, Value.int IntKind.i64 ((j : Int) + 1) = Value.int IntKind.i64 j' ∧ Value.int IntKind.i64 ((p : Int) + (q : Int)) = .int .i64 (S l ks j' : Nat) ∧ j' ≤ ks.length ∧ Ends l ks me W2 j' w1) ∧
              ks.length - (intOf (Value.int IntKind.i64 ((j : Int) + 1))).toNat < ks.length - (intOf (Value.int IntKind.i64 (j : Int))).toNat) := Ends.up HK.out hlt hM hp hq hraw2 hBq (by rw [HME.out]; exact Nat.le_refl _) hgr
          clear hraw hraw1 hraw2 hM hM1 hgr hq hp hkey hse hcell hBq
          go_wp2_with fail
          all_goals exact HUP.out
        · obtain rfl : j = ks.length := by omega
          have hmel := hraw.lt
          have HRM : Hid (∃ M sz, Raw litS wr Try.prog 9 me (ks.length + 0) M sz ∧ EndI l ks 0 M) := ⟨M, sz, hraw, EndI.start hM⟩
          have HBq : Hid (Below W2.heap.size W2 wr) := hBq
          have hs3 := hBq.size
          clear hraw hM hBq
          have hmk := fun w => run_make_row' (P := Try.prog) 29 3 (.int .i64 0) 8 Try.underlying29 Try.info3 rfl .i64 .i64 l.length (by omega) (by omega) w
          go_wp2_with fail
          obtain ⟨V3, hV3, _, hBV3, hVs3⟩ := box_ex wr (.cells (madeCells #[Value.int .i64 0] l.length) 3)
          have hth : Third l ks me wr.heap.size W2 0 V3 := by
            obtain ⟨M, sz, h1, h2⟩ := HRM.out
            refine ⟨M, sz, h1.of_block (hBV3.block me hmel), h2, ⟨fun _ => .int .i64 0, ?_, fun i' h => by omega⟩, HBq.out.trans (hBV3.mono hs3)⟩
            subst hV3
            exact World.rowIs_made wr (.int .i64 0) l.length 3
          rw [hV3]
          clear hV3 hmk HRM HBq
          obtain ⟨PB, hPB⟩ : ∃ PB, PB = wr.heap.size := ⟨_, rfl⟩
          have hne : PB ≠ me := by omega
          have hPBl : W2.heap.size ≤ PB := by omega
          rw [← hPB] at hth ⊢
          clear hPB hBV3 hVs3 hs3 hmel
          go_loopw [55] (fun vi wq => ∃ i : Nat, vi = .int .i64 i ∧ i ≤ l.length ∧ Third l ks me PB W2 i wq) (fun vi _ => l.length - (intOf vi).toNat)
          case atStart => exact ⟨0, rfl, by omega, hth⟩
          case round =>
            clear hth
            obtain ⟨i, rfl, hi, M, sz, hraw, hM, hP, hBq⟩ := hrel
            by_cases hlt : i < l.length
            · have hii : (i : Int) < (l.length : Int) := by omega
              obtain ⟨s, hse⟩ : ∃ s, Value.string s = encStr l[i] := ⟨_, rfl⟩
              have hkey := key_of hse (HS.out _ (List.getElem_mem hlt))
              have hBw : Below w.heap.size w wr := HBW.out.trans (hBq.mono HBW.out.size)
              have hcl := closure_any B a l c i wr ((hBw.cell (p := ⟨B, 0, none⟩) hBl).trans HB.out) (HC.out.below hBw (Nat.le_refl _)) hn hlt
              rw [← hse] at hcl
              have HCL : Hid (Calls Try.prog 12 #[.int .i64 i, .pointer (some ⟨B, 0, none⟩)] wr (ReadEnd (.string s) wr)) := hcl
              obtain ⟨p, hp⟩ : ∃ p : Nat, p = pos l i := ⟨_, rfl⟩
              have hpl : p < l.length := by rw [hp]; exact pos_lt hlt
              have hmk := hM.get ((HK.out.2 _).2 (List.getElem_mem hlt))
              rw [← pos_eq hlt, ← hp] at hmk
              have hlook := hraw.look keyS Try.underlying33 (zero3 wr) hkey
              rw [hmk] at hlook
              have hraw2 := hraw.kept (grown_set (World.grownBy.refl wr (some PB)) p (.int .i64 (i : Int))) (by intro e; cases e; exact hne rfl)
              have hlook2 := hraw2.look keyS Try.underlying33 (zero3 _) hkey
              rw [hmk] at hlook2
              obtain ⟨w1, hrun, hraw3, hgr⟩ := hraw2.update litS_inj keyS Try.underlying33 (by unfold maxLen; omega) (key := .string s) (.int .i64 ((p : Int) + 1)) hkey
              obtain ⟨f, hrow, _⟩ := id hP
              have r0 := hrow.cell hpl
              have z0 := hrow.frozen p
              have HUP : Hid ((∃ i' : Nat, Value.int IntKind.i64 ((i : Int) + 1) = Value.int IntKind.i64 i' ∧ i' ≤ l.length ∧ Third l ks me PB W2 i' w1) ∧
                  l.length - (intOf (Value.int IntKind.i64 ((i : Int) + 1))).toNat < l.length - (intOf (Value.int IntKind.i64 (i : Int))).toNat) := Third.up HK.out hlt hM hP hp hraw3 hBq (by rw [HME.out]; exact Nat.le_refl _) hPBl hne hgr
              clear hraw hraw2 hraw3 hM hP hgr hp hkey hse hBq hBw hcl hmk hrow
              go_wp2_with fail
              refine HCL.out.mono ?_
              rintro e w2 ⟨rfl, h2⟩
              replace h2 := h2.symm
              subst h2
              go_wp2_with fail
              all_goals exact HUP.out
            · obtain rfl : i = l.length := by omega
              have hmel := hraw.lt
              have HRM : Hid (∃ n M sz, Raw litS wr Try.prog 9 me n M sz ∧ EndI l ks l.length M) := ⟨_, M, sz, hraw, hM⟩
              have HPL : Hid (Places wr PB l) := hP
              have HBq : Hid (Below W2.heap.size W2 wr) := hBq
              have hs4 := hBq.size
              have hPBl2 : PB < wr.heap.size := by obtain ⟨f, h, _⟩ := hP; exact h.lt
              clear hraw hM hP hBq
              have hmk := fun w => run_make_row' (P := Try.prog) 26 29 (.slice none 0 0) 24 Try.underlying26 Try.info29 rfl .i64 .i64 ks.length (by omega) (by omega) w
              go_wp2_with fail
              obtain ⟨V4, hV4, _, hBV4, hVs4⟩ := box_ex wr (.cells (madeCells #[Value.slice none 0 0] ks.length) 29)
              have hfo : Fourth l ks PB wr.heap.size V4 0 V4 := by
                refine ⟨World.grownBy.refl _ _, fun _ => .slice none 0 0, ?_, fun k _ h => by omega⟩
                subst hV4
                exact World.rowIs_made wr (.slice none 0 0) ks.length 29
              rw [hV4]
              clear hV4 hmk
              obtain ⟨GB, hGB⟩ : ∃ GB, GB = wr.heap.size := ⟨_, rfl⟩
              have HGB : Hid (GB = wr.heap.size) := hGB
              rw [← hGB] at hfo ⊢
              clear hGB
              obtain ⟨W3, hW3⟩ : ∃ W3, W3 = wr := ⟨_, rfl⟩
              rw [← hW3] at HRM HPL HBq hs4 hPBl2 hBV4 hVs4 HGB hmel
              clear hW3
              go_loopw [77] (fun vk wq => ∃ k : Nat, vk = .int .i64 k ∧ k ≤ ks.length ∧ Fourth l ks PB GB V4 k wq) (fun vk _ => ks.length - (intOf vk).toNat)
              case atStart => exact ⟨0, rfl, by omega, hfo⟩
              case round =>
                clear hfo
                obtain ⟨k, rfl, hk, hfo⟩ := hrel
                have hgb := HGB.out
                have hblk : ∀ b, b < W3.heap.size → wr.heap[b]? = W3.heap[b]? := fun b hb => (hfo.1.block b (by omega) (by intro e; cases e; omega)).trans (hBV4.block b hb)
                by_cases hlt : k < ks.length
                · have hki : (k : Int) < (ks.length : Int) := by omega
                  obtain ⟨g, o, rfl, hg, hcell⟩ := HSTR.out (by omega)
                  have hd : wr.cell? ⟨g, o + k, none⟩ = some (encStr ks[k]) := (cell_same (hblk g (by omega)) rfl).trans ((HBq.out.cell (p := ⟨g, o + k, none⟩) hg).trans (hcell k hlt))
                  obtain ⟨s, hse⟩ : ∃ s, Value.string s = encStr ks[k] := ⟨_, rfl⟩
                  rw [← hse] at hd
                  have hkl' : ks[k] ∈ l := (HK.out.2 _).1 (List.getElem_mem hlt)
                  have hkey := key_of hse (HS.out _ hkl')
                  obtain ⟨n1, M1, sz1, hraw1, hM1⟩ := HCT2.out
                  have hlook := ((hraw1.of_block (HBq.out.block mb hmb2)).of_block (hblk mb (by omega))).look keyS Try.underlying33 (zero3 wr) hkey
                  rw [hM1.get, List.take_length] at hlook
                  obtain ⟨n2, M2, sz2, hraw2, hM2⟩ := HRM.out
                  have hlook2 := (hraw2.of_block (hblk me hmel)).look keyS Try.underlying33 (zero3 wr) hkey
                  rw [hM2.get (List.getElem_mem hlt), List.take_length] at hlook2
                  have hqp := cnt_pos hkl'
                  have hle := st_cnt_len (l := l) (x := ks[k])
                  have HUP : Hid ((∃ k' : Nat, Value.int IntKind.i64 ((k : Int) + 1) = Value.int IntKind.i64 k' ∧ k' ≤ ks.length ∧ Fourth l ks PB GB V4 k' (wr.setCell ⟨GB, k, none⟩ (grpV PB l ks[k]))) ∧
                      ks.length - (intOf (Value.int IntKind.i64 ((k : Int) + 1))).toNat < ks.length - (intOf (Value.int IntKind.i64 (k : Int))).toNat) := Fourth.up hfo hlt
                  unfold grpV at HUP
                  obtain ⟨q, hq⟩ : ∃ q : Nat, q = cnt l ks[k] := ⟨_, rfl⟩
                  obtain ⟨p, hp⟩ : ∃ p : Nat, p = st l ks[k] := ⟨_, rfl⟩
                  rw [← hq, ← hp] at hlook2 HUP hle
                  rw [← hq] at hlook hqp
                  obtain ⟨f, hrow, _⟩ := id hfo.2
                  have r0 := hrow.cell hlt
                  have z0 := hrow.frozen k
                  clear hraw1 hraw2 hM1 hM2 hq hp hkey hse hcell hblk hfo hrow hgb hkl'
                  go_wp2_with fail
                  exact HUP.out
                · obtain rfl : k = ks.length := by omega
                  have HFIN : Hid (ByEnd l w (.returned (.tuple #[.slice ka ks.length kc, .slice (some ⟨GB, 0, none⟩) ks.length ks.length])) wr) := by
                    have hB3 : Below W3.heap.size W3 wr := hBV4.grown hfo.1 (by omega) (by intro k hk; cases hk; omega)
                    have hB2 : Below W2.heap.size W2 wr := HBq.out.trans (hB3.mono hs4)
                    obtain ⟨f, hrow, hf⟩ := hfo.2
                    obtain ⟨f2, hrow2, hf2⟩ := HPL.out
                    exact ⟨ks, ka, kc, GB, PB, rfl, HK.out, HSTR.out.below hB2 (Nat.le_refl _), ⟨f, hrow, fun k hk => hf k hk hk⟩, ⟨f2, hrow2.of_block (hB3.block PB hPBl2), hf2⟩, HBW.out.trans (hB2.mono HBW.out.size)⟩
                  clear hblk hgb hfo
                  go_wp2_with fail
                  go_ret2
                  exact HFIN.out

set_option maxHeartbeats 1600000 in
theorem zzbyReceiver_any (a : Option Addr) (l : List Str) (c : Nat) (w : World) (hc : StrsAt w a l) (hn : l.length ≤ 65536) (hs : ∀ x ∈ l, x.length ≤ 1048576) :
    Calls Try.prog 8 #[.slice a l.length c] w (ByEnd l w) := by
  have HC : Hid (StrsAt w a l) := hc
  have HS : Hid (∀ x ∈ l, x.length ≤ 1048576) := hs
  clear hc hs
  go_enter Try.func8, Try.ntmps8
  go_wp2_with fail
  obtain ⟨V, hV, hXV, hBV, hVs⟩ := box_ex w (.cells #[.slice a l.length c] 22)
  have hcell : V.cell? ⟨w.heap.size, 0, none⟩ = some (.slice a l.length c) := by simp [World.cell?, hXV]
  rw [hV]
  clear hV hXV
  refine (byReceiver_any w.heap.size a l c V hcell hVs (HC.out.below hBV (Nat.le_refl _)) hn HS.out).mono ?_
  rintro e w1 ⟨ks, ka, kc, GB, PB, rfl, h1, h2, h3, h4, h5⟩
  have HFIN : Hid (ByEnd l w (.returned (.tuple #[.slice ka ks.length kc, .slice (some ⟨GB, 0, none⟩) ks.length ks.length])) w1) := ⟨ks, ka, kc, GB, PB, rfl, h1, h2, h3, h4, hBV.trans (h5.mono (by omega))⟩
  clear h1 h2 h3 h4 h5
  go_wp2_with fail
  go_ret2
  exact HFIN.out

end Go.Proofs.Qxb6612463a
