/-
  cmp.Or, cmp.Compare, bytes.Compare, bytes.Equal, and the closure that compares two records.
-/
import Derived.Test.Qxb6609276aRecord
import Derived.Lib.Bytealg
import Derived.Lib.BytesEntry
import Derived.WalkLawsBesides
namespace Go.Proofs.Qxb6609276a
open Go.RowKit
set_option linter.unusedSimpArgs false
set_option linter.unusedVariables false

def orI (x y : Int) : Int := if x = 0 then y else x

set_option maxHeartbeats 800000 in
theorem orInt_any (b c : Nat) (x y : Int) (w : World) (h0 : w.cell? ⟨b, 0, none⟩ = some (.int .i64 x)) (h1 : w.cell? ⟨b, 1, none⟩ = some (.int .i64 y)) :
    Calls Try.prog 19 #[.slice (some ⟨b, 0, none⟩) 2 c] w fun e w' => e = .returned (.int .i64 (orI x y)) ∧ w' = w := by
  by_cases hx : x = 0
  · subst hx
    have HR : Hid (orI 0 y = y) := by show orI 0 y = y; simp [orI]
    by_cases hy : y = 0
    · subst hy
      go_enter Try.func19, Try.ntmps19
      go_wp2
      refine wp_loop_rounds 3 ?_
      rw [rounds_succ]
      go_wp2
      rw [rounds_succ]
      go_wp2
      rw [rounds_succ]
      go_wp2
      go_ret
      exact ⟨by rw [HR.out]; rfl, rfl⟩
    · have hy' : (y != 0) = true := by simpa using hy
      go_enter Try.func19, Try.ntmps19
      go_wp2
      refine wp_loop_rounds 3 ?_
      rw [rounds_succ]
      go_wp2
      rw [rounds_succ]
      go_wp2
      go_ret
      exact ⟨by rw [HR.out]; rfl, rfl⟩
  · have HR : Hid (orI x y = x) := by show orI x y = x; simp [orI, hx]
    have hx' : (x != 0) = true := by simpa using hx
    go_enter Try.func19, Try.ntmps19
    go_wp2
    refine wp_loop_rounds 3 ?_
    rw [rounds_succ]
    go_wp2
    go_ret
    exact ⟨by rw [HR.out]; rfl, rfl⟩

def cmpI (x y : Int) : Int := if x < y then -1 else if y < x then 1 else 0

set_option maxHeartbeats 800000 in
theorem isNaN_any (x : Int) (w : World) : Calls Try.prog 29 #[.int .i64 x] w fun e w' => e = .returned (.bool false) ∧ w' = w := by
  go_enter Try.func29, Try.ntmps29
  go_wp2
  go_ret
  exact ⟨rfl, rfl⟩

theorem ret_int {k : IntKind} {a b : Int} (h : a = b) : Ending.returned (.int k a) = .returned (.int k b) := by rw [h]

set_option maxHeartbeats 800000 in
theorem cmpCompare_any (x y : Int) (w : World) : Calls Try.prog 21 #[.int .i64 x, .int .i64 y] w fun e w' => e = .returned (.int .i64 (cmpI x y)) ∧ w' = w := by
  have hc : (x < y ∧ cmpI x y = -1) ∨ (¬ x < y ∧ y < x ∧ cmpI x y = 1) ∨ (¬ x < y ∧ ¬ y < x ∧ cmpI x y = 0) := by
    unfold cmpI
    by_cases h1 : x < y
    · simp [h1]
    · by_cases h2 : y < x
      · simp [h1, h2]
      · simp [h1, h2]
  rcases hc with ⟨h1, hr⟩ | ⟨h1, h2, hr⟩ | ⟨h1, h2, hr⟩
  all_goals
    have HR : Hid (cmpI x y = _) := hr
    clear hr
    go_enter Try.func21, Try.ntmps21
    go_wp2_with (go_at_call 29; refine (isNaN_any _ _).mono ?_; rintro e w' ⟨rfl, rfl⟩)
    go_ret
    exact ⟨by rw [HR.out]; rfl, rfl⟩

/-- The bytes as a string. -/
def bs (l : List UInt8) : ByteArray := ⟨l.toArray⟩
theorem bs_data (l : List UInt8) : (bs l).data.toList = l := rfl
theorem bs_toList (l : List UInt8) : (bs l).toList = l := by
  rw [Lib.toList_data]; rfl
theorem bs_size (l : List UInt8) : (bs l).size = l.length := rfl

theorem add_at (g o j : Nat) : (⟨g, o, none⟩ : Addr).add j = ⟨g, o + j, none⟩ := by unfold Addr.add; split <;> simp_all
theorem BytesAt.add {w : World} {g o : Nat} {l : List UInt8} (h : BytesAt w g o l) : ∀ j (hj : j < l.length), w.cell? ((⟨g, o, none⟩ : Addr).add j) = some (.int .u8 (l[j].toNat : Int)) := fun j hj => by rw [add_at]; exact h j hj

theorem convert_bs {w : World} {g o : Nat} {l : List UInt8} (cap : Nat) (h : BytesAt w g o l) : (convert 22 9 (.slice (some ⟨g, o, none⟩) l.length cap)).run Try.prog w = .ok (.string (bs l)) w :=
  run_convert_bytes_back w 22 9 5 ⟨g, o, none⟩ cap l Try.underlying22 Try.underlying5 Try.underlying9 h.add

theorem loadBytes_bs {w : World} {g o : Nat} {l : List UInt8} (h : BytesAt w g o l) : (Extern.Bytes.loadBytes ⟨g, o, none⟩ l.length .empty).run Try.prog w = .ok (bs l) w := by
  have hl := Lib.run_loadBytesX (P := Try.prog) w (l.map fun b => (b.toNat : Int)) ⟨g, o, none⟩ .empty (fun j x hj => by
    rw [List.getElem?_map] at hj
    obtain ⟨b, hb, rfl⟩ := Option.map_eq_some_iff.1 hj
    obtain ⟨hlt, rfl⟩ := List.getElem?_eq_some_iff.1 hb
    exact h.add j hlt)
  rw [List.length_map] at hl
  rw [hl]
  congr 1
  apply ByteArray.ext
  have e : Lib.bytesOf (l.map fun b => (b.toNat : Int)) = l := by
    simp [Lib.bytesOf, List.map_map, Function.comp_def]
  show (#[] : Array UInt8) ++ (Lib.bytesOf (l.map fun b => (b.toNat : Int))).toArray = l.toArray
  rw [e]
  simp

theorem compare_bs {w : World} {g1 o1 g2 o2 c1 c2 : Nat} {l1 l2 : List UInt8} (h1 : BytesAt w g1 o1 l1) (h2 : BytesAt w g2 o2 l2) :
    (Extern.BytealgCompare.compare #[.slice (some ⟨g1, o1, none⟩) l1.length c1, .slice (some ⟨g2, o2, none⟩) l2.length c2]).run Try.prog w = .ok (.int .i64 (Lib.compareBytes l1 l2)) w := by
  change Sem.run Try.prog (do pure (goInt (Extern.BytealgCompare.cmp (← Extern.Bytes.bytesOf (.slice (some ⟨g1, o1, none⟩) l1.length c1)) (← Extern.Bytes.bytesOf (.slice (some ⟨g2, o2, none⟩) l2.length c2))))) w = _
  simp only [Extern.Bytes.bytesOf, Sem.run_bind, Sem.run_pure, loadBytes_bs h1, loadBytes_bs h2, Result.andThen]
  rw [Lib.cmp_eq]
  rfl

theorem call28 (args : Array Value) (w : World) : (callFunc 28 args).run Try.prog w = ((Extern.BytealgCompare.compare args).run Try.prog w).andThen fun v w' => .ok (.value v) w' :=
  run_callFunc_extern Try.func28 (by kernel_rfl) (by kernel_rfl) (by kernel_rfl) (e := Extern.BytealgCompare.compare) (by kernel_rfl) args w

def cmpB (l1 l2 : List UInt8) : Int := Lib.compareBytes l1 l2

set_option maxHeartbeats 800000 in
theorem bytesCompare_any (g1 o1 g2 o2 c1 c2 n1 n2 : Nat) (l1 l2 : List UInt8) (w : World) (hl1 : l1.length = n1) (hl2 : l2.length = n2) (h1 : BytesAt w g1 o1 l1) (h2 : BytesAt w g2 o2 l2) :
    Calls Try.prog 20 #[.slice (some ⟨g1, o1, none⟩) n1 c1, .slice (some ⟨g2, o2, none⟩) n2 c2] w fun e w' => e = .returned (.int .i64 (cmpB l1 l2)) ∧ w' = w := by
  have hc := call28
  have hr := compare_bs (c1 := c1) (c2 := c2) h1 h2
  rw [hl1, hl2] at hr
  have hd : Lib.compareBytes l1 l2 = cmpB l1 l2 := rfl
  rw [hd] at hr
  clear hd h1 h2 hl1 hl2
  go_enter Try.func20, Try.ntmps20
  go_wp2
  go_ret
  exact ⟨rfl, rfl⟩

def eqB (l1 l2 : List UInt8) : Bool := l1 == l2

set_option maxHeartbeats 800000 in
theorem bytesEqual_any (g1 o1 g2 o2 c1 c2 n1 n2 : Nat) (l1 l2 : List UInt8) (w : World) (hl1 : l1.length = n1) (hl2 : l2.length = n2) (h1 : BytesAt w g1 o1 l1) (h2 : BytesAt w g2 o2 l2) :
    Calls Try.prog 22 #[.slice (some ⟨g1, o1, none⟩) n1 c1, .slice (some ⟨g2, o2, none⟩) n2 c2] w fun e w' => e = .returned (.bool (eqB l1 l2)) ∧ w' = w := by
  have k1 := convert_bs c1 h1
  have k2 := convert_bs c2 h2
  rw [hl1] at k1
  rw [hl2] at k2
  clear h1 h2 hl1 hl2
  go_enter Try.func22, Try.ntmps22
  go_wp2
  go_ret
  exact ⟨ret_bool (by rw [bs_toList, bs_toList]; rfl), rfl⟩

def orS (x y : List UInt8) : List UInt8 := if x = [] then y else x

set_option maxHeartbeats 800000 in
theorem orStr_any (b c : Nat) (x y : List UInt8) (w : World) (h0 : w.cell? ⟨b, 0, none⟩ = some (.string (bs x))) (h1 : w.cell? ⟨b, 1, none⟩ = some (.string (bs y))) :
    Calls Try.prog 24 #[.slice (some ⟨b, 0, none⟩) 2 c] w fun e w' => e = .returned (.string (bs (orS x y))) ∧ w' = w := by
  by_cases hx : x = []
  · have HR : Hid (orS x y = y) := by show orS x y = y; simp [orS, hx]
    have hx' : (bs x).toList.isEmpty = true := by rw [bs_toList, hx]; rfl
    clear hx
    by_cases hy : y = []
    · have hy' : (bs y).toList.isEmpty = true := by rw [bs_toList, hy]; rfl
      have HY : Hid (y = []) := hy
      clear hy
      go_enter Try.func24, Try.ntmps24
      go_wp2
      refine wp_loop_rounds 3 ?_
      rw [rounds_succ]
      go_wp2
      rw [rounds_succ]
      go_wp2
      rw [rounds_succ]
      go_wp2
      go_ret
      exact ⟨by rw [HR.out, HY.out]; rfl, rfl⟩
    · have hy' : (bs y).toList.isEmpty = false := by rw [bs_toList]; simpa using hy
      go_enter Try.func24, Try.ntmps24
      go_wp2
      refine wp_loop_rounds 3 ?_
      rw [rounds_succ]
      go_wp2
      rw [rounds_succ]
      go_wp2
      go_ret
      exact ⟨by rw [HR.out]; rfl, rfl⟩
  · have HR : Hid (orS x y = x) := by show orS x y = x; simp [orS, hx]
    have hx' : (bs x).toList.isEmpty = false := by rw [bs_toList]; simpa using hx
    go_enter Try.func24, Try.ntmps24
    go_wp2
    refine wp_loop_rounds 3 ?_
    rw [rounds_succ]
    go_wp2
    go_ret
    exact ⟨by rw [HR.out]; rfl, rfl⟩

end Go.Proofs.Qxb6609276a
