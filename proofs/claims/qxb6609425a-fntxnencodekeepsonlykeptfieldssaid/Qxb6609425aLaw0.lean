/-
  What the law asks of the bytes: no Go in sight.
-/
import Derived.Test.Qxb6609425aStrip
namespace Go.Proofs.Qxb6609425a
open Go.RowKit
set_option linter.unusedSimpArgs false
set_option linter.unusedVariables false

theorem AllB.append {a b : List Value} (ha : AllB a) (hb : AllB b) : AllB (a ++ b) := fun u hu => (List.mem_append.1 hu).elim (ha u) (hb u)
theorem AllB.flatMap {α : Type} {l : List α} {f : α → List Value} (h : ∀ a ∈ l, AllB (f a)) : AllB (l.flatMap f) := fun u hu => by
  obtain ⟨a, ha, hu⟩ := List.mem_flatMap.1 hu
  exact h a ha u hu
theorem be32_b (x : Int) : AllB (be32 x) := by intro u hu; simp [be32] at hu; rcases hu with h | h | h | h <;> exact ⟨_, h⟩
theorem be64_b (x : Int) : AllB (be64 x) := by intro u hu; simp [be64] at hu; rcases hu with h | h | h | h | h | h | h | h <;> exact ⟨_, h⟩
theorem i32b_b (x : Int) : AllB (i32b x) := be32_b _
theorem i64b_b (x : Int) : AllB (i64b x) := be64_b _
theorem strB_b (s : ByteArray) : AllB (strB s) := by intro u hu; simp [strB, Lib.strCells] at hu; obtain ⟨b, _, rfl⟩ := hu; exact ⟨_, rfl⟩
theorem strb_b (s : ByteArray) : AllB (strb s) := (be32_b _).append (strB_b s)
theorem boolb_b (b : Bool) : AllB (boolb b) := by intro u hu; simp [boolb] at hu; exact ⟨_, hu⟩

/-- Its buffers hold bytes. -/
def AllO : Option (List Value) → Prop
  | none => True
  | some l => AllB l
def Good (f : Fd) : Prop := AllO f.data ∧ AllO f.pw

theorem bufb_b {o : Option (List Value)} (h : AllO o) : AllB (bufb o) := by
  cases o with
  | none => exact i32b_b _
  | some l => exact (i32b_b _).append h
theorem aclb_b (a : Acl) : AllB (aclb a) := ((i32b_b _).append (strb_b _)).append (strb_b _)
theorem aclsb_b (ac : List Acl) : AllB (aclsb ac) := (i32b_b _).append (AllB.flatMap fun a _ => aclb_b a)
theorem fieldsb_b {f : Fd} (h : Good f) : AllB (fieldsb f) :=
  (i32b_b _).append ((strb_b _).append ((bufb_b h.1).append ((aclsb_b _).append ((i32b_b _).append ((i64b_b _).append ((i32b_b _).append (bufb_b h.2)))))))
theorem opb_b {req : Bool} {g : Fd} (h : Good g) : AllB (opb req g) := by
  unfold opb
  refine (fieldsb_b h).append ?_
  cases req
  · intro u hu; simp at hu
  · exact boolb_b _
theorem encb_b {req : Bool} {f : Fd} {fs : List Fd} (h : Good f) (hs : f.op = 14 → ∀ g ∈ fs, Good g) : AllB (encb req f fs) := by
  unfold encb opsb
  refine (i64b_b _).append ((i64b_b _).append ((fieldsb_b h).append ?_))
  split
  · rename_i e
    exact (i32b_b _).append (AllB.flatMap fun g hg => opb_b (hs e g hg))
  · intro u hu; simp at hu

theorem acl_flat (l : List Acl) : (l.flatMap aclb).length = 12 * l.length + aclS l l.length := by
  have : ∀ j, j ≤ l.length → ((l.take j).flatMap aclb).length = 12 * j + aclS l j := by
    intro j
    induction j with
    | zero => intro _; simp [aclS]
    | succ j ih =>
      intro h
      rw [aclb_take (by omega), List.length_append, ih (by omega), aclS_succ (by omega), aclb_length]
      omega
  have h := this l.length (Nat.le_refl _)
  rwa [List.take_length] at h

theorem fieldsb_le (f : Fd) : (fieldsb f).length ≤ 36 + wt f := by
  rw [fieldsb_length, acl_flat]
  unfold wt own0
  omega

theorem opb_len (req : Bool) (g : Fd) : (opb req g).length = (fieldsb g).length + (if req then 1 else 0) := by
  unfold opb
  cases req <;> simp [boolb]

theorem flat_len (req : Bool) (fs : List Fd) : (fs.flatMap (opb req)).length = (fs.map fun g => (fieldsb g).length).sum + (if req then fs.length else 0) := by
  induction fs with
  | nil => cases req <;> simp
  | cons g fs ih =>
    rw [List.flatMap_cons, List.length_append, ih, opb_len]
    cases req <;> simp <;> omega

theorem sum_le_wt (fs : List Fd) : (fs.map fun g => (fieldsb g).length).sum ≤ 36 * fs.length + numS (fs.map wt) fs.length := by
  have h : numS (fs.map wt) fs.length = (fs.map wt).sum := by unfold numS; rw [List.take_of_length_le (by simp)]
  rw [h]
  induction fs with
  | nil => simp
  | cons g fs ih =>
    have := fieldsb_le g
    have ih := ih (by unfold numS; rw [List.take_of_length_le (by simp)])
    simp
    omega

theorem encb_len (req : Bool) (f : Fd) (fs : List Fd) : (encb req f fs).length = 16 + (fieldsb f).length + (if f.op = 14 then 4 + (fs.map fun g => (fieldsb g).length).sum + (if req then fs.length else 0) else 0) := by
  unfold encb opsb
  by_cases h : f.op = 14
  · simp only [h, if_true, List.length_append, i64b_length, i32b_length, flat_len]
    omega
  · simp only [h, if_false, List.length_append, i64b_length, List.length_nil]
    omega

theorem mem_aclS {l : List Acl} {a : Acl} (h : a ∈ l) : a.s.size + a.i.size ≤ aclS l l.length := by
  obtain ⟨i, hi, rfl⟩ := List.getElem_of_mem h
  have h1 := aclS_succ hi
  have h2 : aclS l (i + 1) ≤ aclS l l.length := by
    unfold aclS
    rw [List.take_length]
    conv => rhs; rw [← List.take_append_drop (i + 1) l, List.map_append, List.sum_append]
    omega
  omega

theorem sm_of_wt {f : Fd} (h : wt f ≤ 1048576) : Sm f := by
  unfold wt own0 at h
  refine ⟨by omega, by omega, by omega, by omega, fun a ha => ?_⟩
  have := mem_aclS ha
  omega

/-- All that the encoder asks. -/
theorem fits_of {req : Bool} {f : Fd} {fs : List Fd} (h : own0 f 0 fs.length + aclS f.acl f.acl.length + numS (fs.map wt) fs.length ≤ 1048576) : Fits req f fs := by
  have h0 : wt f ≤ 1048576 := by unfold wt; unfold own0 at h ⊢; omega
  have hn : fs.length * 200 ≤ 1048576 := by unfold own0 at h; omega
  refine ⟨sm_of_wt h0, fun _ => ⟨by omega, fun g hg => sm_of_wt ?_⟩, ?_⟩
  · obtain ⟨i, hi, rfl⟩ := List.getElem_of_mem hg
    have h1 := numS_succ (l := fs.map wt) (j := i) (by simpa using hi)
    have h2 := numS_le (fs.map wt) (i + 1)
    simp only [List.getElem_map, List.length_map] at h1 h2
    omega
  · rw [encb_len]
    have h1 := fieldsb_le f
    have h2 := sum_le_wt fs
    split
    · split <;> omega
    · omega

theorem In.fits {d n₀ : Nat} {W : World} {cs : List Value} {f : Fd} {fs : List Fd} {t : Nat} (h : In d n₀ W cs f fs t) (ht : t ≤ 1048576) : own0 f 0 fs.length + aclS f.acl f.acl.length + numS (fs.map wt) fs.length ≤ 1048576 := by
  cases d with
  | zero => exact h.elim
  | succ d =>
    obtain ⟨vd, va, vp, vk, ak, ks, ao, co, ts, _, _, _, _, _, _, htl, he, hops⟩ := h
    have h1 := numS_map_le (ts := ts) htl (fun j hj hj' => by
      obtain ⟨g, o, _, _, h⟩ := hops (by omega)
      obtain ⟨cs, gs, h, _⟩ := h j hj hj'
      exact h.ge) fs.length (Nat.le_refl _)
    have h2 := numS_le ts fs.length
    have h4 : own0 f 0 fs.length ≤ own0 f ks.length fs.length := by unfold own0; omega
    omega

theorem encb_bare (req : Bool) (f : Fd) (fs : List Fd) : encb req f.bare (if f.op = 14 then fs else []) = encb req f fs := by
  by_cases h : f.op = 14
  · rw [if_pos h]; rfl
  · rw [if_neg h]
    unfold encb opsb
    rw [if_neg h, if_neg (show ¬ f.bare.op = 14 from h)]
    rfl

end Go.Proofs.Qxb6609425a
