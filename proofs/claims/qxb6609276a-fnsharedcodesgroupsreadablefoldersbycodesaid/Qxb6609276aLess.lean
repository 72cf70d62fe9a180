/-
  The closure that compares two records: by their codes, then by where they start.
-/
import Derived.Test.Qxb6609276aCmp
import Derived.Deep.RegionHeld3
import Derived.Deep.DrawnRows
namespace Go.Proofs.Qxb6609276a
open Go.RowKit
set_option linter.unusedSimpArgs false
set_option linter.unusedVariables false
attribute [local go_sem ↓] Go.wp_at_zero Go.wp_at_succ

theorem BytesAt.sub {w : World} {g : Nat} {l : List UInt8} (h : BytesAt w g 0 l) {a n : Nat} (hl : a + n ≤ l.length) : BytesAt w g a (sub l a n) := by
  intro j hj
  rw [length_sub hl] at hj
  have := h (a + j) (by omega)
  rw [Nat.zero_add] at this
  rw [this]
  simp [Qxb6609276a.sub]

theorem length_code {l : List UInt8} {r : Rc} (h : RecAt l r) : (r.code l).length = r.cl := length_sub h.code.2

/-- What the closures read. -/
structure Ctx (w : World) (F B g : Nat) (l : List UInt8) : Prop where
  f : w.cell? ⟨F, 0, none⟩ = some (.pointer (some ⟨B, 0, none⟩))
  b : w.cell? ⟨B, 0, none⟩ = some (.slice (some ⟨g, 0, none⟩) l.length l.length)
  c : BytesAt w g 0 l

def lessC (l : List UInt8) (r s : Rc) : Int := orI (cmpB (r.code l) (s.code l)) (cmpI r.off s.off)

set_option maxRecDepth 100000 in
set_option maxHeartbeats 1600000 in
theorem less_any (C F B g : Nat) (l : List UInt8) (r s : Rc) (w : World) (hn : l.length ≤ 4096) (hr : RecAt l r) (hs : RecAt l s) (hX : Ctx w F B g l)
    (hC : w.cell? ⟨C, 0, none⟩ = some (.func (.func 15) #[] #[.pointer (some ⟨F, 0, none⟩)])) :
    Calls Try.prog 18 #[.int .i64 r.off, .int .i64 s.off, .pointer (some ⟨C, 0, none⟩)] w fun e w' => e = .returned (.int .i64 (lessC l r s)) ∧ ∃ q o, w' = (w.alloc o).drewN q := by
  go_enter Try.func18, Try.ntmps18
  go_wp2
  go_region_held3 (fun w' => w'.cell? ⟨C, 0, none⟩ = some (.func (.func 15) #[] #[.pointer (some ⟨F, 0, none⟩)])) (go_keep)
    (first
      | (go_at_call_of 15 (Value.int .i64 (r.off : Int)); refine (codeAt_any F B g l r _ hn hr ?_ ?_ ?_).mono ?_; (exact hX.f); (exact hX.b); (exact hX.c); rintro e w' ⟨cap1, rfl, rfl⟩)
      | (go_at_call_of 15 (Value.int .i64 (s.off : Int)); refine (codeAt_any F B g l s _ hn hs ?_ ?_ ?_).mono ?_; (exact hX.f); (exact hX.b); (exact hX.c); rintro e w' ⟨cap2, rfl, rfl⟩)
      | (go_at_call 20; refine (bytesCompare_any g r.cp g s.cp _ _ r.cl s.cl (r.code l) (s.code l) _ (length_code hr) (length_code hs) ?_ ?_).mono ?_; (exact BytesAt.sub hX.c hr.code.2); (exact BytesAt.sub hX.c hs.code.2); rintro e w' ⟨rfl, rfl⟩)
      | (go_at_call 21; refine (cmpCompare_any _ _ _).mono ?_; rintro e w' ⟨rfl, rfl⟩)
      | (go_at_call 19; refine (orInt_any _ _ (cmpB (r.code l) (s.code l)) (cmpI r.off s.off) _ ?_ ?_).mono ?_; (go_simp); (go_simp); rintro e w' ⟨rfl, rfl⟩))
  all_goals go_wp2
  go_ret
  exact ⟨rfl, 1, _, rfl⟩

end Go.Proofs.Qxb6609276a
