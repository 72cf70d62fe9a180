/-
  The argument, opened: what the reading of a Change says of its cells.
-/
import Derived.Test.Qxb6609425aLaw
import Derived.ChangeSlices
import Derived.Deep.Slices
namespace Go.Proofs.Qxb6609425a
open Go.RowKit Go.ChangeShapes
set_option linter.unusedSimpArgs false
set_option linter.unusedVariables false

theorem list_of {α : Type} {p : Nat → α → Prop} : ∀ n : Nat, (∀ i, i < n → ∃ a, p i a) → ∃ l : List α, l.length = n ∧ ∀ i (h : i < l.length), p i l[i]
  | 0, _ => ⟨[], rfl, fun i h => absurd h (Nat.not_lt_zero i)⟩
  | n + 1, h => by
    obtain ⟨l, hl, hp⟩ := list_of n (fun i hi => h i (by omega))
    obtain ⟨a, ha⟩ := h n (by omega)
    refine ⟨l ++ [a], by simp [hl], fun i hi => ?_⟩
    by_cases hin : i < l.length
    · rw [List.getElem_append_left hin]
      exact hp i hin
    · have hi' : i = n := by simp at hi; omega
      subst hi'
      rw [List.getElem_append_right (by omega)]
      simpa using ha

theorem Try.cells2 : Try.prog.cellsOf 2 = 1 := by kernel_rfl
theorem Try.cells4 : Try.prog.cellsOf 4 = 1 := by kernel_rfl
theorem Try.cells9 : Try.prog.cellsOf 9 = 1 := by kernel_rfl
theorem Try.cells21 : Try.prog.cellsOf 21 = 1 := by kernel_rfl
theorem Try.cells22 : Try.prog.cellsOf 22 = 1 := by kernel_rfl
theorem Try.cells23 : Try.prog.cellsOf 23 = 1 := by kernel_rfl
theorem Try.cells24 : Try.prog.cellsOf 24 = 1 := by kernel_rfl
theorem Try.cells25 : Try.prog.cellsOf 25 = 1 := by kernel_rfl
theorem Try.cells26 : Try.prog.cellsOf 26 = 1 := by kernel_rfl
theorem Try.cells28 : Try.prog.cellsOf 28 = 14 := by kernel_rfl
theorem Try.cells46 : Try.prog.cellsOf 46 = 3 := by kernel_rfl
theorem Try.cells48 : Try.prog.cellsOf 48 = 2 := by kernel_rfl

section
variable {H : Type} {enc : TypeId × Value → H} {W : World}

theorem cells_get {a : Addr} {n : Nat} {cs : List Value} (h : W.cells? 0 a n = some cs) : cs.length = n ∧ ∀ j v, cs[j]? = some v → W.cell? (a.add j) = some v := by
  unfold World.cells? at h
  rw [if_pos (Nat.zero_le _)] at h
  have hl := mapM_some_length h
  rw [List.length_range] at hl
  refine ⟨hl, fun j v hv => ?_⟩
  have hj : j < n := by have := (List.getElem?_eq_some_iff.1 hv).1; omega
  rw [mapM_some_get h j j (by simp [hj])]
  exact hv

theorem spot_none {a : Addr} {i : Nat} {v : Value} (h : W.cell? ((a.add (0 * i)).add 0) = some v) : ∃ b o, a = ⟨b, o, none⟩ ∧ b < W.heap.size := by
  have e : (a.add (0 * i)).add 0 = a := by simp [Addr.add]
  rw [e] at h
  have hb := World.block_lt_of_cell? W _ h
  obtain ⟨b, o, sp⟩ := a
  cases sp with
  | none => exact ⟨b, o, rfl, hb⟩
  | some _ =>
    exfalso
    simp only [World.cell?] at h
    split at h
    · simp at h
    · cases h

theorem add_at1 (g o j : Nat) : (⟨g, o, none⟩ : Addr).add j = ⟨g, o + j, none⟩ := by unfold Addr.add; split <;> simp_all
theorem add_at2 (b o i j : Nat) : ((⟨b, o, none⟩ : Addr).add i).add j = ⟨b, o + i + j, none⟩ := by rw [add_at1, add_at1]

theorem acl_of {fuel : Nat} {cs : List Value} {x : DataW H × List MemPlace} (h : DataW.trod enc Try.prog W 0 (fun _ => true) true fuel 46 cs = some x) : ∃ a : Acl, cs = aclCells a ∧ a.s.size ≤ maxLen ∧ a.i.size ≤ maxLen := by
  obtain ⟨xs, n, _, _, hl, hlen, hf⟩ := DataW.trod_struct Try.underlying46 h
  rw [Try.cells46] at hl
  match cs, hl, xs, hlen with
  | [c0, c1, c2], _, [x0, x1, x2], _ =>
    have f0 : DataW.trod enc Try.prog W 0 (fun _ => true) true n 21 [c0] = some x0 := by simpa [Try.cells21] using hf 0 _ rfl
    have f1 : DataW.trod enc Try.prog W 0 (fun _ => true) true n 9 [c1] = some x1 := by simpa [Try.cells9] using hf 1 _ rfl
    have f2 : DataW.trod enc Try.prog W 0 (fun _ => true) true n 9 [c2] = some x2 := by simpa [Try.cells9] using hf 2 _ rfl
    obtain ⟨z, h0, _⟩ := DataW.trod_int Try.underlying21 f0
    obtain ⟨s, h1, _, hs⟩ := DataW.trod_string Try.underlying9 f1
    obtain ⟨i, h2, _, hi⟩ := DataW.trod_string Try.underlying9 f2
    cases h0
    cases h1
    cases h2
    exact ⟨⟨z, s, i⟩, rfl, hs, hi⟩

theorem ask_of {fuel : Nat} {cs : List Value} {x : DataW H × List MemPlace} (h : DataW.trod enc Try.prog W 0 (fun _ => true) true fuel 48 cs = some x) : ∃ k : ByteArray × ByteArray, cs = [.string k.1, .string k.2] ∧ k.1.size ≤ maxLen ∧ k.2.size ≤ maxLen := by
  obtain ⟨xs, n, _, _, hl, hlen, hf⟩ := DataW.trod_struct Try.underlying48 h
  rw [Try.cells48] at hl
  match cs, hl, xs, hlen with
  | [c1, c2], _, [x1, x2], _ =>
    have f1 : DataW.trod enc Try.prog W 0 (fun _ => true) true n 9 [c1] = some x1 := by simpa [Try.cells9] using hf 0 _ rfl
    have f2 : DataW.trod enc Try.prog W 0 (fun _ => true) true n 9 [c2] = some x2 := by simpa [Try.cells9] using hf 1 _ rfl
    obtain ⟨s, h1, _, hs⟩ := DataW.trod_string Try.underlying9 f1
    obtain ⟨i, h2, _, hi⟩ := DataW.trod_string Try.underlying9 f2
    cases h1
    cases h2
    exact ⟨⟨s, i⟩, rfl, hs, hi⟩

theorem bytes_of {fuel : Nat} {c : Value} {x : DataW H × List MemPlace} (h : DataW.trod enc Try.prog W 0 (fun _ => true) true fuel 23 [c] = some x) : ∃ o, ByteV W.heap.size W c o ∧ AllO o ∧ lenO o ≤ maxLen := by
  rcases open_ints Try.underlying23 Try.underlying5 (by kernel_rfl) h with ⟨hcs, _⟩ | ⟨a, len, cap, zs, hcs, _, hl, hm, hz, _, hcell, _⟩
  · cases hcs
    exact ⟨none, rfl, trivial, Nat.zero_le _⟩
  · cases hcs
    have hzl : zs.length = cap := by simpa using hz
    refine ⟨some ((zs.take len).map fun z => Value.int .u8 z), ⟨a, cap, ?_, ?_, ?_⟩, ?_, ?_⟩
    · simp; omega
    · intro u hu
      obtain ⟨z, _, rfl⟩ := List.mem_map.1 hu
      rfl
    · intro j u hu
      rw [List.getElem?_map] at hu
      obtain ⟨z, hz', rfl⟩ := Option.map_eq_some_iff.1 hu
      obtain ⟨hj, rfl⟩ := List.getElem?_eq_some_iff.1 hz'
      have hj' : j < zs.length := by simp at hj; omega
      have hc := hcell j hj'
      have hb := World.block_lt_of_cell? W _ hc
      rw [add_block] at hb
      refine ⟨hb, ?_⟩
      rw [hc]
      simp [hj']
    · intro u hu
      obtain ⟨z, _, rfl⟩ := List.mem_map.1 hu
      exact ⟨z, rfl⟩
    · simp [lenO]; omega

theorem acls_of {fuel : Nat} {c : Value} {x : DataW H × List MemPlace} (h : DataW.trod enc Try.prog W 0 (fun _ => true) true fuel 24 [c] = some x) : ∃ l, AclV W.heap.size W c l ∧ l.length ≤ maxLen ∧ ∀ a ∈ l, a.s.size ≤ maxLen ∧ a.i.size ≤ maxLen := by
  rcases DataW.trod_slice Try.underlying24 h with ⟨hcs, _⟩ | ⟨a, len, cap, elems, rest, n, _, hcs, _, hb, hl, hm, hlen, hel, _, _⟩
  · cases hcs
    exact ⟨[], ⟨none, 0, rfl, fun h => absurd h (Nat.lt_irrefl 0)⟩, Nat.zero_le _, fun a ha => by simp at ha⟩
  · cases hcs
    obtain ⟨l, hll, hp⟩ := list_of (α := Acl) (p := fun i ac => (∀ k u, (aclCells ac)[k]? = some u → W.cell? ((a.add (i * 3)).add k) = some u) ∧ ac.s.size ≤ maxLen ∧ ac.i.size ≤ maxLen) len (fun i hi => by
      have h1 := hel i hi
      rw [Try.cells46, List.getElem?_eq_getElem (by omega)] at h1
      obtain ⟨cs, h2, h3⟩ := Option.bind_eq_some_iff.1 h1
      obtain ⟨ac, rfl, h4⟩ := acl_of h3
      exact ⟨ac, (cells_get h2).2, h4⟩)
    refine ⟨l, ⟨some a, cap, by rw [hll], fun hpos => ?_⟩, by omega, fun ac hac => ?_⟩
    · obtain ⟨b, o, rfl, hb'⟩ := spot_none ((hp 0 hpos).1 0 _ rfl)
      exact ⟨b, o, rfl, hb', fun j hj k u hu => by rw [← add_at2]; exact (hp j hj).1 k u hu⟩
    · obtain ⟨i, hi, rfl⟩ := List.getElem_of_mem hac
      exact (hp i hi).2

theorem asks_of {fuel : Nat} {c : Value} {x : DataW H × List MemPlace} (h : DataW.trod enc Try.prog W 0 (fun _ => true) true fuel 26 [c] = some x) : ∃ l : List (ByteArray × ByteArray), AskV W.heap.size W c l ∧ l.length ≤ maxLen ∧ ∀ k ∈ l, k.1.size ≤ maxLen ∧ k.2.size ≤ maxLen := by
  rcases DataW.trod_slice Try.underlying26 h with ⟨hcs, _⟩ | ⟨a, len, cap, elems, rest, n, _, hcs, _, hb, hl, hm, hlen, hel, _, _⟩
  · cases hcs
    exact ⟨[], ⟨none, 0, rfl, fun h => absurd h (Nat.lt_irrefl 0)⟩, Nat.zero_le _, fun a ha => by simp at ha⟩
  · cases hcs
    obtain ⟨l, hll, hp⟩ := list_of (α := ByteArray × ByteArray) (p := fun i ac => (∀ k u, [Value.string ac.1, Value.string ac.2][k]? = some u → W.cell? ((a.add (i * 2)).add k) = some u) ∧ ac.1.size ≤ maxLen ∧ ac.2.size ≤ maxLen) len (fun i hi => by
      have h1 := hel i hi
      rw [Try.cells48, List.getElem?_eq_getElem (by omega)] at h1
      obtain ⟨cs, h2, h3⟩ := Option.bind_eq_some_iff.1 h1
      obtain ⟨ac, rfl, h4⟩ := ask_of h3
      exact ⟨ac, (cells_get h2).2, h4⟩)
    refine ⟨l, ⟨some a, cap, by rw [hll], fun hpos => ?_⟩, by omega, fun ac hac => ?_⟩
    · obtain ⟨b, o, rfl, hb'⟩ := spot_none ((hp 0 hpos).1 0 _ rfl)
      exact ⟨b, o, rfl, hb', fun j hj k u hu => by rw [← add_at2]; exact (hp j hj).1 k u hu⟩
    · obtain ⟨i, hi, rfl⟩ := List.getElem_of_mem hac
      exact (hp i hi).2

theorem in_of : ∀ (d fuel : Nat) (cs : List Value) (x : DataW H × List MemPlace), fuel ≤ d → DataW.trod enc Try.prog W 0 (fun _ => true) true fuel 28 cs = some x → ∃ f fs t, In d W.heap.size W cs f fs t ∧ Good f ∧ ∀ g ∈ fs, Good g
  | 0, fuel, cs, x, hd, h => by
    obtain ⟨xs, n, hfu, _⟩ := DataW.trod_struct Try.underlying28 h
    omega
  | d + 1, fuel, cs, x, hd, h => by
    obtain ⟨xs, n, hfu, _, hl, hlen, hf⟩ := DataW.trod_struct Try.underlying28 h
    rw [Try.cells28] at hl
    match cs, hl, xs, hlen with
    | [c0, c1, c2, c3, c4, c5, c6, c7, c8, c9, c10, c11, c12, c13], _, [x0, x1, x2, x3, x4, x5, x6, x7, x8, x9, x10, x11, x12, x13], _ =>
      have f0 : DataW.trod enc Try.prog W 0 (fun _ => true) true n 22 [c0] = some x0 := by simpa [Try.cells22] using hf 0 _ rfl
      have f1 : DataW.trod enc Try.prog W 0 (fun _ => true) true n 2 [c1] = some x1 := by simpa [Try.cells2] using hf 1 _ rfl
      have f2 : DataW.trod enc Try.prog W 0 (fun _ => true) true n 21 [c2] = some x2 := by simpa [Try.cells21] using hf 2 _ rfl
      have f3 : DataW.trod enc Try.prog W 0 (fun _ => true) true n 9 [c3] = some x3 := by simpa [Try.cells9] using hf 3 _ rfl
      have f4 : DataW.trod enc Try.prog W 0 (fun _ => true) true n 23 [c4] = some x4 := by simpa [Try.cells23] using hf 4 _ rfl
      have f5 : DataW.trod enc Try.prog W 0 (fun _ => true) true n 24 [c5] = some x5 := by simpa [Try.cells24] using hf 5 _ rfl
      have f6 : DataW.trod enc Try.prog W 0 (fun _ => true) true n 21 [c6] = some x6 := by simpa [Try.cells21] using hf 6 _ rfl
      have f7 : DataW.trod enc Try.prog W 0 (fun _ => true) true n 2 [c7] = some x7 := by simpa [Try.cells2] using hf 7 _ rfl
      have f8 : DataW.trod enc Try.prog W 0 (fun _ => true) true n 21 [c8] = some x8 := by simpa [Try.cells21] using hf 8 _ rfl
      have f9 : DataW.trod enc Try.prog W 0 (fun _ => true) true n 23 [c9] = some x9 := by simpa [Try.cells23] using hf 9 _ rfl
      have f10 : DataW.trod enc Try.prog W 0 (fun _ => true) true n 25 [c10] = some x10 := by simpa [Try.cells25] using hf 10 _ rfl
      have f11 : DataW.trod enc Try.prog W 0 (fun _ => true) true n 4 [c11] = some x11 := by simpa [Try.cells4] using hf 11 _ rfl
      have f12 : DataW.trod enc Try.prog W 0 (fun _ => true) true n 26 [c12] = some x12 := by simpa [Try.cells26] using hf 12 _ rfl
      have f13 : DataW.trod enc Try.prog W 0 (fun _ => true) true n 2 [c13] = some x13 := by simpa [Try.cells2] using hf 13 _ rfl
      clear hf h
      obtain ⟨zx, h0, _⟩ := DataW.trod_int Try.underlying22 f0
      obtain ⟨tm, h1, _⟩ := DataW.trod_int Try.underlying2 f1
      obtain ⟨op, h2, _⟩ := DataW.trod_int Try.underlying21 f2
      obtain ⟨path, h3, _, hpath⟩ := DataW.trod_string Try.underlying9 f3
      obtain ⟨ver, h6, _⟩ := DataW.trod_int Try.underlying21 f6
      obtain ⟨ses, h7, _⟩ := DataW.trod_int Try.underlying2 f7
      obtain ⟨tmo, h8, _⟩ := DataW.trod_int Try.underlying21 f8
      obtain ⟨sq, h11, _⟩ := DataW.trod_bool Try.underlying4 f11
      obtain ⟨ak, h13, _⟩ := DataW.trod_int Try.underlying2 f13
      cases h0; cases h1; cases h2; cases h3; cases h6; cases h7; cases h8; cases h11; cases h13
      obtain ⟨data, hvd, hgd, hld⟩ := bytes_of f4
      obtain ⟨pw, hvp, hgp, hlp⟩ := bytes_of f9
      obtain ⟨acl, hva, hla, hsa⟩ := acls_of f5
      obtain ⟨ks, hvk, hlk, hsk⟩ := asks_of f12
      rcases DataW.trod_slice Try.underlying25 f10 with ⟨hcs, _⟩ | ⟨a, len, cap, elems, rest, m, hmm, hcs, _, hb, hl, hm, hlen, hel, _, _⟩
      · cases hcs
        exact ⟨⟨zx, tm, op, path, data, acl, ver, ses, tmo, pw, sq⟩, [], _, ⟨c4, c5, c9, c12, ak, ks, none, 0, [], rfl, hvd, hva, hvp, hvk, ⟨hpath, hld, hlp, hla, hlk, Nat.zero_le _, hsa, hsk⟩, rfl, rfl, fun h => absurd h (Nat.lt_irrefl 0)⟩, ⟨hgd, hgp⟩, fun g hg => by simp at hg⟩
      · cases hcs
        obtain ⟨l, hll, hp⟩ := list_of (α := List Value × Fd × List Fd × Nat) (p := fun i q => (∀ k u, q.1[k]? = some u → W.cell? ((a.add (i * 14)).add k) = some u) ∧ In d W.heap.size W q.1 q.2.1 q.2.2.1 q.2.2.2 ∧ Good q.2.1) len (fun i hi => by
          have h1 := hel i hi
          rw [Try.cells28, List.getElem?_eq_getElem (by omega)] at h1
          obtain ⟨cs, h2, h3⟩ := Option.bind_eq_some_iff.1 h1
          obtain ⟨f, fs, t, h4, h5, _⟩ := in_of d m cs _ (by omega) h3
          exact ⟨(cs, f, fs, t), (cells_get h2).2, h4, h5⟩)
        refine ⟨⟨zx, tm, op, path, data, acl, ver, ses, tmo, pw, sq⟩, l.map (·.2.1), _, ⟨c4, c5, c9, c12, ak, ks, some a, cap, l.map (·.2.2.2), ?_, hvd, hva, hvp, hvk, ⟨hpath, hld, hlp, hla, hlk, by simp; omega, hsa, hsk⟩, by simp, rfl, fun hpos => ?_⟩, ⟨hgd, hgp⟩, fun g hg => ?_⟩
        · simp [cells14, hll]
        · have hpos' : 0 < l.length := by simpa using hpos
          obtain ⟨h6, h7, _⟩ := hp 0 hpos'
          have hlen0 : l[0].1.length = 14 := by
            obtain ⟨ad1, aa1, ap1, ao1, ak1', cd1, ca1, cp1, co1, ck1, ks1, ak1, hcs1⟩ := In.form h7
            rw [hcs1]; rfl
          obtain ⟨b, o, rfl, hb'⟩ := spot_none (h6 0 _ (List.getElem?_eq_getElem (by omega)))
          refine ⟨b, o, rfl, hb', fun j hj hj' => ?_⟩
          have hjl : j < l.length := by simpa using hj
          obtain ⟨h8, h9, _⟩ := hp j hjl
          refine ⟨l[j].1, l[j].2.2.1, ?_, fun k u hu => by rw [← add_at2]; exact h8 k u hu⟩
          simpa using h9
        · obtain ⟨q, hq, rfl⟩ := List.mem_map.1 hg
          obtain ⟨i, hi, rfl⟩ := List.getElem_of_mem hq
          exact (hp i hi).2.2

end
end Go.Proofs.Qxb6609425a
