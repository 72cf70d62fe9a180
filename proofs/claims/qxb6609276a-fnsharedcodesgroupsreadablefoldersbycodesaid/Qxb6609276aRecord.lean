/-
  (*bookFolders).record, and the closure codeAt.
-/
import Derived.Test.Qxb6609276aUvar
import Derived.Test.Qxb6609276aBook
namespace Go.Proofs.Qxb6609276a
open Go.RowKit
set_option linter.unusedSimpArgs false
set_option linter.unusedVariables false

/-- The bytes l lie in block g, at the head. -/
theorem BytesAt.drop {w : World} {g o : Nat} {l : List UInt8} (h : BytesAt w g o l) (k : Nat) : BytesAt w g (o + k) (l.drop k) := by
  intro j hj
  have hj' : k + j < l.length := by simp at hj; omega
  have := h (k + j) hj'
  rw [show o + (k + j) = o + k + j by omega] at this
  rw [this]
  simp

theorem uvarint_at (g c off : Nat) (l : List UInt8) (v k : Nat) (w : World) (hn : l.length ≤ 4096) (hu : uv (l.drop off) = some (v, k)) (hc : BytesAt w g 0 l) :
    Calls Try.prog 25 #[.slice (some ⟨g, off, none⟩) (l.length - off) c] w fun e w' => e = .returned (.tuple #[.int .u64 v, .int .i64 k]) ∧ w' = w := by
  have h := uvarint_uv g off c (l.drop off) v k w (by simp; omega) hu (by simpa using hc.drop off)
  rwa [List.length_drop] at h

/-- What record hands back; nothing turns. -/
def RecEnd (g na n ca m : Nat) (w : World) (e : Ending) (w' : World) : Prop :=
  ∃ A cp1 cp2, e = .returned (.tuple #[.slice (some ⟨g, na, none⟩) n cp1, .slice A m cp2, .int .i64 ((ca + m : Nat) : Int)]) ∧ (0 < m → A = some ⟨g, ca, none⟩) ∧ w' = w

theorem rec_ret {A1 A1' A2 : Option Addr} {n1 n2 p1 p2 : Nat} {a b : Int} (h1 : A1 = A1') (h : a = b) : Ending.returned (.tuple #[.slice A1 n1 p1, .slice A2 n2 p2, .int .i64 a]) = .returned (.tuple #[.slice A1' n1 p1, .slice A2 n2 p2, .int .i64 b]) := by rw [h1, h]

set_option maxRecDepth 100000 in
set_option maxHeartbeats 1600000 in
theorem record_any (B g : Nat) (l : List UInt8) (r : Rc) (w : World) (hn : l.length ≤ 4096) (hr : RecAt l r) (hB : w.cell? ⟨B, 0, none⟩ = some (.slice (some ⟨g, 0, none⟩) l.length l.length)) (hc : BytesAt w g 0 l) :
    Calls Try.prog 16 #[.pointer (some ⟨B, 0, none⟩), .int .i64 r.off] w (RecEnd g r.na r.n r.ca r.m w) := by
  obtain ⟨c1, e1, hna⟩ := hr.u1
  obtain ⟨c2, e2, hca⟩ := hr.u2
  have b1 := uv_bounds e1
  have b2 := uv_bounds e2
  have l1 := hr.lt
  have l2 := hr.h1
  have l3 := hr.h2
  have l4 := hr.h3
  obtain ⟨off, na, n, ca, m⟩ := r
  simp only [Rc.nxt] at *
  subst hna
  subst hca
  have E1 : Hid (uv (l.drop off) = some (n, c1)) := e1
  have E2 : Hid (uv (l.drop (off + (c1 + n))) = some (m, c2)) := by rw [Nat.add_assoc] at e2; exact e2
  clear e1 e2 hr
  rw [List.length_drop] at b1 b2
  go_enter Try.func16, Try.ntmps16
  go_wp2_with fail
  refine (uvarint_at g _ off l n c1 w hn E1.out hc).mono ?_
  rintro e w' ⟨rfl, rfl⟩
  go_wp2_with fail
  refine (uvarint_at g _ (off + (c1 + n)) l m c2 w' hn E2.out hc).mono ?_
  rintro e w1 ⟨rfl, rfl⟩
  go_wp2
  all_goals
    go_ret3
    exact ⟨_, _, _, rec_ret rfl (by omega), fun h => by first | (exfalso; omega) | (congr 2; omega), rfl⟩

/-- What codeAt hands back: a slice over the code's bytes; nothing turns. -/
def CodeEnd (g cp cl : Nat) (w : World) (e : Ending) (w' : World) : Prop := ∃ cap, e = .returned (.slice (some ⟨g, cp, none⟩) cl cap) ∧ w' = w

set_option maxRecDepth 100000 in
set_option maxHeartbeats 1600000 in
theorem codeAt_any (F B g : Nat) (l : List UInt8) (r : Rc) (w : World) (hn : l.length ≤ 4096) (hr : RecAt l r) (hF : w.cell? ⟨F, 0, none⟩ = some (.pointer (some ⟨B, 0, none⟩))) (hB : w.cell? ⟨B, 0, none⟩ = some (.slice (some ⟨g, 0, none⟩) l.length l.length)) (hc : BytesAt w g 0 l) :
    Calls Try.prog 15 #[.int .i64 r.off, .pointer (some ⟨F, 0, none⟩)] w (CodeEnd g r.cp r.cl w) := by
  have HB : Hid (w.cell? ⟨B, 0, none⟩ = some (.slice (some ⟨g, 0, none⟩) l.length l.length)) := hB
  clear hB
  by_cases hm : r.m = 0
  · have HE : Hid (r.cp = r.na ∧ r.cl = r.n) := by show _ ∧ _; simp [Rc.cp, Rc.cl, hm]
    have hm' : ((r.m : Int) == 0) = true := by simp [hm]
    have HM : Hid (r.m = 0) := hm
    clear hm
    go_enter Try.func15, Try.ntmps15
    go_wp2_with (go_at_call 16; refine (record_any B g l r _ hn hr HB.out hc).mono ?_; rintro e w' ⟨A, cp1, cp2, rfl, hA, rfl⟩)
    go_ret
    exact ⟨_, by rw [HE.out.1, HE.out.2]; rfl, rfl⟩
  · have HE : Hid (r.cp = r.ca ∧ r.cl = r.m) := by show _ ∧ _; simp [Rc.cp, Rc.cl, hm]
    have hm' : ((r.m : Int) == 0) = false := by simp [hm]
    have HM : Hid (0 < r.m) := by show 0 < r.m; omega
    clear hm
    go_enter Try.func15, Try.ntmps15
    go_wp2_with (go_at_call 16; refine (record_any B g l r _ hn hr HB.out hc).mono ?_; rintro e w' ⟨A, cp1, cp2, rfl, hA, rfl⟩)
    go_ret
    exact ⟨_, by rw [HE.out.1, HE.out.2, ← hA HM.out]; rfl, rfl⟩

end Go.Proofs.Qxb6609276a
