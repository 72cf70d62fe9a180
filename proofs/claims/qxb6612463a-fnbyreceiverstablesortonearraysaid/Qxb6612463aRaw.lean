/-
  A map whose elements are whatever values, by a plain function from keys to values.
-/
import Derived.Maps.OwnSet
namespace Go.Proofs.Qxb6612463a
open Go.Maps (Keyed)
set_option linter.unusedSimpArgs false
set_option linter.unusedVariables false

/-- An element reads as itself. -/
def rawE (v : Value) : Option (DataW Value × List MemPlace) := some (.held v, [])

/-- M with val at x. -/
def put {κ : Type} [DecidableEq κ] (M : κ → Option Value) (x : κ) (val : Value) : κ → Option Value := fun y => if y = x then some val else M y

/-- Block b is a map of at most n entries, which holds M x at each key x (lit x: how the key x is written); sz entries. -/
def Raw {κ : Type} (lit : κ → Lit) (w : World) (P : Program) (k : TypeId) (b n : Nat) (M : κ → Option Value) (sz : Nat) : Prop :=
  ∃ D : DataW Value, w.ownsMap P k rawE b n D ∧ (∀ x z, D.atKey (lit x) (.held z) = .held ((M x).getD z)) ∧ (∀ x, Maps.has D (lit x) = (M x).isSome) ∧ Maps.size D = sz

section
variable {κ : Type} {lit : κ → Lit} {P : Program} {k : TypeId} {w : World} {b n sz : Nat} {M : κ → Option Value}

theorem Raw.made (lit : κ → Lit) (w : World) (P : Program) (k : TypeId) : Raw lit (w.alloc (.map #[] 0)) P k w.heap.size 0 (fun _ => none) 0 :=
  ⟨_, World.ownsMap_made w P k rawE, fun _ _ => rfl, fun _ => rfl, rfl⟩

theorem Raw.kept {w' : World} {row : Option Nat} (h : Raw lit w P k b n M sz) (hg : w.grownBy w' row) (hne : some b ≠ row) : Raw lit w' P k b n M sz := by
  obtain ⟨D, h1, h2⟩ := h
  exact ⟨D, h1.kept hg hne, h2⟩

theorem Raw.of_block {w' : World} (h : Raw lit w P k b n M sz) (hb : w'.heap[b]? = w.heap[b]?) : Raw lit w' P k b n M sz := by
  obtain ⟨D, ⟨es, clock, h0, h1⟩, h2⟩ := h
  exact ⟨D, ⟨es, clock, hb.trans h0, h1⟩, h2⟩

theorem Raw.lt (h : Raw lit w P k b n M sz) : b < w.heap.size := by
  obtain ⟨D, h1, _⟩ := h
  exact h1.lt

theorem Raw.mono {n' : Nat} (h : Raw lit w P k b n M sz) (hn : n ≤ n') : Raw lit w P k b n' M sz := by
  obtain ⟨D, h1, h2⟩ := h
  exact ⟨D, h1.mono hn, h2⟩

theorem Raw.look {t e : TypeId} (h : Raw lit w P k b n M sz) (K : Keyed P k) (ht : P.underlying t = some (.map k e)) {z : Value} (hz : (zeroValue e).run P w = .ok z w)
    {key : Value} {x : κ} (hkey : keyOf P k key = some (lit x)) : (Instr.lookup t (.map (some b)) key false).run P w = .ok ((M x).getD z) w := by
  obtain ⟨D, h1, h2, _⟩ := h
  obtain ⟨v, ps, hrun, hv⟩ := h1.lookup K ht hz (zd := .held z) (zp := []) rfl hkey
  rw [h2] at hv
  simp only [rawE, Option.some.injEq, Prod.mk.injEq, DataW.held.injEq] at hv
  rw [hrun, hv.1]

theorem Raw.look_ok {t e : TypeId} (h : Raw lit w P k b n M sz) (K : Keyed P k) (ht : P.underlying t = some (.map k e)) {z : Value} (hz : (zeroValue e).run P w = .ok z w)
    {key : Value} {x : κ} (hkey : keyOf P k key = some (lit x)) : (Instr.lookup t (.map (some b)) key true).run P w = .ok (.tuple #[(M x).getD z, .bool (M x).isSome]) w := by
  obtain ⟨D, h1, h2, h3, _⟩ := h
  obtain ⟨v, ps, hrun, hv⟩ := h1.look_ok K ht hz (zd := .held z) (zp := []) rfl hkey
  rw [h2] at hv
  simp only [rawE, Option.some.injEq, Prod.mk.injEq, DataW.held.injEq] at hv
  rw [hrun, hv.1, h3]

theorem Raw.len {t e : TypeId} (h : Raw lit w P k b n M sz) (ht : P.underlying t = some (.map k e)) (ty : TypeId) : (Builtin.len_ #[t] ty #[.map (some b)]).run P w = .ok (.int .i64 sz) w := by
  obtain ⟨D, h1, _, _, h4⟩ := h
  rw [h1.len ht ty, h4]

theorem Raw.update [DecidableEq κ] {t e : TypeId} (h : Raw lit w P k b n M sz) (hinj : ∀ a b, lit a = lit b → a = b) (K : Keyed P k) (ht : P.underlying t = some (.map k e)) (hn : n < maxLen)
    {key : Value} (val : Value) {x : κ} (hkey : keyOf P k key = some (lit x)) :
    ∃ w', (Instr.mapUpdate t (.map (some b)) key val).run P w = .ok () w' ∧ Raw lit w' P k b (n + 1) (put M x val) (if (M x).isSome then sz else sz + 1) ∧ w.grownBy w' (some b) := by
  obtain ⟨D, h1, h2, h3, h4⟩ := h
  obtain ⟨w', hrun, hown, hg⟩ := h1.update K ht hn hkey (val := val) (d := .held val) (ps := []) rfl
  have hk : WideAt.IsKeyLit (lit x) := K.key hkey
  refine ⟨w', hrun, ⟨_, hown, fun y z => ?_, fun y => ?_, ?_⟩, hg⟩
  · by_cases e : y = x
    · subst e
      rw [Maps.atKey_put_same h1.isMap hk]
      simp [put]
    · rw [Maps.atKey_put_other (fun h => e (hinj _ _ h)), h2]
      simp [put, e]
  · by_cases e : y = x
    · subst e
      rw [Maps.has_put_same h1.isMap hk]
      simp [put]
    · rw [Maps.has_put_other (fun h => e (hinj _ _ h)), h3]
      simp [put, e]
  · rw [Maps.size_put (h1.tidy K), h3, h4]

end

def litI (z : Int) : Lit := .int .i64 z
theorem litI_inj (a b : Int) (h : litI a = litI b) : a = b := by simpa [litI] using h
def litS (s : List UInt8) : Lit := .string s
theorem litS_inj (a b : List UInt8) (h : litS a = litS b) : a = b := by simpa [litS] using h

end Go.Proofs.Qxb6612463a
