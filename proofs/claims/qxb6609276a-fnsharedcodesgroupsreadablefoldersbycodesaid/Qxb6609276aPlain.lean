/-
  The plain functions of the road of FnSharedCodesGroupsReadableFoldersByCode: no Go in sight.
-/
import Derived.Lib.VarintDec
namespace Go.Proofs.Qxb6609276a

set_option linter.unusedSimpArgs false
set_option linter.unusedVariables false

/-- i bytes are read, each with the bit 128; 'acc' is what their seven bits spell: a minimal uvarint of at most three bytes: its value, and how many bytes it takes. -/
def uvFrom (i acc : Nat) : List UInt8 → Option (Nat × Nat)
  | [] => none
  | b :: r =>
    if i = 3 then none
    else if b.toNat < 128 then
      if 0 < i ∧ b.toNat = 0 then none else some (acc + b.toNat * 2 ^ (7 * i), i + 1)
    else uvFrom (i + 1) (acc + b.toNat % 128 * 2 ^ (7 * i)) r

def uv (l : List UInt8) : Option (Nat × Nat) := uvFrom 0 0 l

theorem uvFrom_three (acc : Nat) (l : List UInt8) : uvFrom 3 acc l = none := by cases l <;> simp [uvFrom]

/-- What it says is what encoding/binary reads there. -/
theorem uvFrom_dec : ∀ (l : List UInt8) (i acc v c : Nat), i ≤ 3 → uvFrom i acc l = some (v, c) → Lib.uvarintFrom i acc l = (v, (c : Int))
  | [], _, _, _, _, _, h => by simp [uvFrom] at h
  | b :: r, i, acc, v, c, hi, h => by
    unfold uvFrom at h
    by_cases h3 : i = 3
    · simp [h3] at h
    · rw [if_neg h3] at h
      unfold Lib.uvarintFrom
      rw [if_neg (by omega)]
      by_cases hb : b.toNat < 128
      · rw [if_pos hb] at h ⊢
        rw [if_neg (by omega)]
        split at h
        · cases h
        · cases h
          simp
      · rw [if_neg hb] at h ⊢
        exact uvFrom_dec r (i + 1) _ v c (by omega) h

theorem uv_dec {l : List UInt8} {v c : Nat} (h : uv l = some (v, c)) : Lib.uvarintDec l = (v, (c : Int)) := uvFrom_dec l 0 0 v c (by omega) h

theorem uvFrom_bounds : ∀ (l : List UInt8) (i acc v c : Nat), i ≤ 3 → acc < 2 ^ (7 * i) → uvFrom i acc l = some (v, c) → v < 2097152 ∧ i + 1 ≤ c ∧ c ≤ 3 ∧ c ≤ i + l.length
  | [], _, _, _, _, _, _, h => by simp [uvFrom] at h
  | b :: r, i, acc, v, c, hi, ha, h => by
    have q := b.toNat_lt
    unfold uvFrom at h
    by_cases h3 : i = 3
    · simp [h3] at h
    · rw [if_neg h3] at h
      have hs : i = 0 ∨ i = 1 ∨ i = 2 := by omega
      by_cases hb : b.toNat < 128
      · rw [if_pos hb] at h
        split at h
        · cases h
        · cases h
          rcases hs with rfl | rfl | rfl <;> simp at ha ⊢ <;> omega
      · rw [if_neg hb] at h
        have ih := uvFrom_bounds r (i + 1) _ v c (by omega) (by rcases hs with rfl | rfl | rfl <;> simp at ha ⊢ <;> omega) h
        simp
        omega

theorem uv_bounds {l : List UInt8} {v c : Nat} (h : uv l = some (v, c)) : v < 2097152 ∧ 1 ≤ c ∧ c ≤ 3 ∧ c ≤ l.length := by
  have := uvFrom_bounds l 0 0 v c (by omega) (by simp) h
  omega

/-- A record: where it starts; where its name lies and how long it is; where its code lies and how long that is. -/
structure Rc where
  off : Nat
  na : Nat
  n : Nat
  ca : Nat
  m : Nat

/-- Where the next record starts. -/
def Rc.nxt (r : Rc) : Nat := r.ca + r.m

/-- The bytes from a on, n of them. -/
def sub (l : List UInt8) (a n : Nat) : List UInt8 := (l.drop a).take n

def Rc.name (l : List UInt8) (r : Rc) : List UInt8 := sub l r.na r.n
/-- Where the code lies (the name where the record bears none), and how long it is. -/
def Rc.cp (r : Rc) : Nat := if r.m = 0 then r.na else r.ca
def Rc.cl (r : Rc) : Nat := if r.m = 0 then r.n else r.m
/-- The code; the name where the record bears none. -/
def Rc.code (l : List UInt8) (r : Rc) : List UInt8 := sub l r.cp r.cl

/-- r is the record that l bears at r.off. -/
structure RecAt (l : List UInt8) (r : Rc) : Prop where
  u1 : ∃ c, uv (l.drop r.off) = some (r.n, c) ∧ r.na = r.off + c
  h1 : 1 ≤ r.n
  h2 : r.na + r.n ≤ l.length
  u2 : ∃ c, uv (l.drop (r.na + r.n)) = some (r.m, c) ∧ r.ca = r.na + r.n + c
  h3 : r.ca + r.m ≤ l.length

theorem RecAt.lt {l : List UInt8} {r : Rc} (h : RecAt l r) : r.off < r.na ∧ r.na < r.ca ∧ r.off < r.nxt ∧ r.nxt ≤ l.length := by
  obtain ⟨c, e, hna⟩ := h.u1
  obtain ⟨c2, e2, hca⟩ := h.u2
  have b := uv_bounds e
  have b2 := uv_bounds e2
  have := h.h1
  have := h.h3
  unfold Rc.nxt
  omega

theorem RecAt.code {l : List UInt8} {r : Rc} (h : RecAt l r) : 1 ≤ r.cl ∧ r.cp + r.cl ≤ l.length := by
  have h1 := h.h1
  have h2 := h.h2
  have h3 := h.h3
  unfold Rc.cp Rc.cl
  by_cases hm : r.m = 0
  · simp [hm]; omega
  · simp [hm]; omega

theorem length_sub {l : List UInt8} {a n : Nat} (h : a + n ≤ l.length) : (sub l a n).length = n := by
  simp [sub]; omega

/-- The records from a on up to z, one behind the other. -/
def Chain (l : List UInt8) : Nat → List Rc → Nat → Prop
  | a, [], z => a = z
  | a, r :: rs, z => r.off = a ∧ RecAt l r ∧ Chain l r.nxt rs z

theorem Chain.snoc {l : List UInt8} : ∀ {a : Nat} {rs : List Rc} {z : Nat} {r : Rc}, Chain l a rs z → r.off = z → RecAt l r → Chain l a (rs ++ [r]) r.nxt
  | _, [], _, _, h, ho, hr => by
    cases h
    exact ⟨ho, hr, rfl⟩
  | _, _ :: _, _, _, h, ho, hr => ⟨h.1, h.2.1, Chain.snoc h.2.2 ho hr⟩

theorem Chain.le {l : List UInt8} : ∀ {a : Nat} {rs : List Rc} {z : Nat}, Chain l a rs z → a + rs.length ≤ z
  | _, [], _, h => by cases h; simp
  | a, r :: rs, z, h => by
    have := Chain.le h.2.2
    have := h.2.1.lt
    have := h.1
    simp
    omega

theorem Chain.mem {l : List UInt8} : ∀ {a : Nat} {rs : List Rc} {z : Nat}, Chain l a rs z → ∀ r ∈ rs, RecAt l r ∧ a ≤ r.off ∧ r.off < z
  | _, [], _, _, r, hr => by cases hr
  | a, r :: rs, z, h, x, hx => by
    have hl := h.2.1.lt
    have hz := Chain.le h.2.2
    have h1 := h.1
    rcases List.mem_cons.1 hx with rfl | hx
    · exact ⟨h.2.1, by omega, by omega⟩
    · obtain ⟨m1, m2, m3⟩ := Chain.mem h.2.2 x hx
      exact ⟨m1, by omega, m3⟩

theorem Chain.sorted {l : List UInt8} : ∀ {a : Nat} {rs : List Rc} {z : Nat}, Chain l a rs z → rs.Pairwise (fun r s => r.off < s.off)
  | _, [], _, _ => List.Pairwise.nil
  | a, r :: rs, z, h => by
    refine List.pairwise_cons.2 ⟨fun s hs => ?_, Chain.sorted h.2.2⟩
    have := (Chain.mem h.2.2 s hs).2.1
    have := h.2.1.lt
    omega

/-- At one place there is one record. -/
theorem RecAt.eq {l : List UInt8} {r s : Rc} (hr : RecAt l r) (hs : RecAt l s) (h : r.off = s.off) : r = s := by
  obtain ⟨c, e, hna⟩ := hr.u1
  obtain ⟨c2, e2, hca⟩ := hr.u2
  obtain ⟨d, f, hnb⟩ := hs.u1
  obtain ⟨d2, f2, hcb⟩ := hs.u2
  cases r with
  | mk o na n ca m =>
    cases s with
    | mk o' na' n' ca' m' =>
      simp only at *
      subst h
      rw [e] at f
      obtain ⟨rfl, rfl⟩ : n = n' ∧ c = d := by simpa using f
      subst hna
      subst hnb
      rw [e2] at f2
      obtain ⟨rfl, rfl⟩ : m = m' ∧ c2 = d2 := by simpa using f2
      subst hca
      subst hcb
      rfl

end Go.Proofs.Qxb6609276a
