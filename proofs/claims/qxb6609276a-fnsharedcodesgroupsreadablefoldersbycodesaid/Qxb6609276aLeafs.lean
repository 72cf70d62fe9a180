/-
  The small functions of the law's own package: zzBytes, zzContainsInt, zzUvarint.
-/
import Derived.Test.Qxb6609276aRows
import Derived.Test.Qxb6609276aPlain
import Derived.WalkKit
import Derived.WalkSpells
import Derived.Lib.EndianBits
namespace Go.Proofs.Qxb6609276a
open Go.RowKit
set_option linter.unusedSimpArgs false
set_option linter.unusedVariables false

set_option maxHeartbeats 800000 in
/-- zzBytes_..: some bool; nothing turns. -/
theorem zzBytes_any (a0 a1 : Option Addr) (n0 c0 n1 c1 : Nat) (k : Int) (w : World) (h0 : n0 ≤ maxLen) (h1 : n1 ≤ maxLen) :
    Calls Try.prog 4 #[.slice a0 n0 c0, .slice a1 n1 c1, .int .i64 k] w fun e w' => (∃ b, e = .returned (.bool b)) ∧ w' = w := by
  unfold maxLen at h0 h1
  go_enter Try.func4, Try.ntmps4
  go_wp2
  all_goals (go_ret; exact ⟨⟨_, rfl⟩, rfl⟩)

/-- The numbers zs lie from ⟨g, o⟩ on. -/
def IntsAt (w : World) (g o : Nat) (zs : List Int) : Prop := ∀ j (h : j < zs.length), w.cell? ⟨g, o + j, none⟩ = some (.int .i64 zs[j])

set_option maxHeartbeats 800000 in
/-- zzContainsInt at a slice of no element. -/
theorem contains_none (a : Option Addr) (c : Nat) (v : Int) (w : World) :
    Calls Try.prog 10 #[.slice a 0 c, .int .i64 v] w fun e w' => e = .returned (.bool false) ∧ w' = w := by
  go_enter Try.func10, Try.ntmps10
  go_wp2
  refine wp_loop_rounds 1 ?_
  rw [rounds_succ]
  go_wp2
  go_ret
  exact ⟨rfl, rfl⟩

def hasI (zs : List Int) (v : Int) : Bool := decide (v ∈ zs)
theorem ret_bool {a b : Bool} (h : a = b) : Ending.returned (.bool a) = .returned (.bool b) := by rw [h]

set_option maxHeartbeats 800000 in
theorem contains_some (g o c : Nat) (zs : List Int) (v : Int) (w : World) (hn : zs.length ≤ 4096) (hc : IntsAt w g o zs) :
    Calls Try.prog 10 #[.slice (some ⟨g, o, none⟩) zs.length c, .int .i64 v] w fun e w' => e = .returned (.bool (hasI zs v)) ∧ w' = w := by
  go_enter Try.func10, Try.ntmps10
  go_wp2
  go_loop [5] (fun i => ∃ k : Nat, k ≤ zs.length ∧ i = .int .i64 k ∧ hasI (zs.take k) v = false) (fun i => zs.length - (intOf i).toNat)
  case atStart => exact ⟨0, Nat.zero_le _, rfl, by simp [hasI]⟩
  case round =>
    obtain ⟨k, hk, rfl, hno⟩ := hrel
    have HN : Hid (hasI (zs.take k) v = false) := hno
    clear hno
    by_cases hlt : k < zs.length
    · have hcell := hc k hlt
      by_cases hv : zs[k] = v
      · have HT : Hid (hasI zs v = true) := by
          show hasI zs v = true
          have : v ∈ zs := by rw [← hv]; exact List.getElem_mem hlt
          simp [hasI, this]
        have hv' : (zs[k] == v) = true := by simpa using hv
        clear hc hv
        go_wp2
        go_ret
        exact ⟨ret_bool HT.out.symm, rfl⟩
      · have HT : Hid (hasI (zs.take (k + 1)) v = false) := by
          show hasI (zs.take (k + 1)) v = false
          rw [List.take_succ_eq_append_getElem hlt]
          have := HN.out
          simp only [hasI, decide_eq_false_iff_not, List.mem_append, List.mem_singleton, not_or] at this ⊢
          exact ⟨this, fun e => hv e.symm⟩
        have hv' : (zs[k] == v) = false := by simpa using hv
        clear hc hv
        go_wp2
        go_round
        case rel => exact ⟨k + 1, by omega, by go_num, HT.out⟩
        case measure => simp [intOf]; omega
    · have : k = zs.length := by omega
      subst this
      have HT : Hid (hasI zs v = false) := by
        have := HN.out
        rw [List.take_length] at this
        exact this
      clear hc
      go_wp2
      go_ret
      exact ⟨ret_bool HT.out.symm, rfl⟩

/-- The bytes l lie from ⟨g, o⟩ on. -/
def BytesAt (w : World) (g o : Nat) (l : List UInt8) : Prop := ∀ j (h : j < l.length), w.cell? ⟨g, o + j, none⟩ = some (.int .u8 (l[j].toNat : Int))

def uvRes (off : Nat) : Option (Nat × Nat) → Value
  | none => .tuple #[.int .i64 0, .int .i64 0, .bool false]
  | some (v, k) => .tuple #[.int .i64 v, .int .i64 ((off + k : Nat) : Int), .bool true]

theorem wraps_i64 (n : Int) (h0 : 0 ≤ n) (h1 : n < 2 ^ 63) : IntKind.i64.wrap n = n := by
  simp [IntKind.wrap, IntKind.bits, IntKind.signed]; omega

theorem i64_or (i : Nat) (y x : Int) (hy₀ : 0 ≤ y) (hy : y < 2 ^ i) (hy₁ : y < 2 ^ 63) (hx₀ : 0 ≤ x) (hx : x % 2 ^ i = 0) (hx₁ : x < 2 ^ 63) : bits .or .i64 y x = y + x :=
  bits_join_low .i64 63 (by decide) wraps_i64 i y x hy₀ hy hy₁ hx₀ hx hx₁
theorem i64_and127 (x : Int) (h₀ : 0 ≤ x) (h₁ : x < 2 ^ 63) : bits .and .i64 x 127 = x % 128 := bits_mask .i64 63 (by decide) wraps_i64 7 (by decide) x h₀ h₁

set_option maxRecDepth 100000 in
set_option maxHeartbeats 1600000 in
theorem zzUvarint_any (g o c off : Nat) (l : List UInt8) (w : World) (hn : l.length ≤ 4096) (hoff : off ≤ l.length) (hc : BytesAt w g o l) :
    Calls Try.prog 11 #[.slice (some ⟨g, o, none⟩) l.length c, .int .i64 off] w fun e w' => e = .returned (uvRes off (uv (l.drop off))) ∧ w' = w := by
  go_enter Try.func11, Try.ntmps11
  go_wp2
  go_loop [7, 8, 9] (fun x s i => ∃ k acc : Nat, k ≤ 3 ∧ off + k ≤ l.length ∧ acc < 2 ^ (7 * k) ∧ i = .int .i64 k ∧ s = .int .i64 ((7 * k : Nat) : Int) ∧ x = .int .i64 acc ∧ uv (l.drop off) = uvFrom k acc (l.drop (off + k)))
    (fun _ _ i => 3 - (intOf i).toNat)
  case atStart => exact ⟨0, 0, by omega, by omega, by simp, rfl, rfl, rfl, rfl⟩
  case round =>
    obtain ⟨k, acc, hk3, hkl, hacc, rfl, rfl, rfl, hu⟩ := hrel
    have HU : Hid (uv (l.drop off) = uvFrom k acc (l.drop (off + k))) := hu
    clear hu
    by_cases hk : k < 3
    · by_cases hlt : off + k < l.length
      · have hcell := hc (off + k) hlt
        have hd : l.drop (off + k) = l[off + k] :: l.drop (off + k + 1) := List.drop_eq_getElem_cons hlt
        have HU2 : Hid (uv (l.drop off) = uvFrom k acc (l[off + k] :: l.drop (off + k + 1))) := by
          show uv (l.drop off) = uvFrom k acc (l[off + k] :: l.drop (off + k + 1))
          rw [← hd]; exact HU.out
        have hb : l[off + k].toNat < 256 := l[off + k].toNat_lt
        have HU3 : Hid (uv (l.drop off) = if l[off + k].toNat < 128 then (if 0 < k ∧ l[off + k].toNat = 0 then none else some (acc + l[off + k].toNat * 2 ^ (7 * k), k + 1)) else uvFrom (k + 1) (acc + l[off + k].toNat % 128 * 2 ^ (7 * k)) (l.drop (off + k + 1))) := by
          show uv (l.drop off) = _
          rw [HU2.out]
          conv => lhs; unfold uvFrom
          rw [if_neg (by omega)]
        clear hd hc HU HU2
        generalize l[off + k].toNat = x at *
        have hks : k = 0 ∨ k = 1 ∨ k = 2 := by omega
        rcases hks with rfl | rfl | rfl
        · simp only [Nat.add_zero] at hcell hlt
          obtain rfl : acc = 0 := by simpa using hacc
          clear hacc hk3 hk hkl
          have e1 : bits .or .i64 0 (x : Int) = (x : Int) := by rw [i64_or 0 _ _ (by omega) (by omega) (by omega) (by omega) (by omega) (by omega)]; omega
          have e2 : bits .and .i64 (x : Int) 127 = ((x % 128 : Nat) : Int) := by rw [i64_and127 _ (by omega) (by omega)]; omega
          have e3 : bits .or .i64 0 ((x % 128 : Nat) : Int) = ((x % 128 : Nat) : Int) := by rw [i64_or 0 _ _ (by omega) (by omega) (by omega) (by omega) (by omega) (by omega)]; omega
          have b3 : ((x % 128 : Nat) : Int) < 128 := by omega
          generalize x % 128 = y at *
          by_cases hb1 : x < 128
          · have HR : Hid (uv (l.drop off) = some (x, 1)) := by show uv (l.drop off) = _; rw [HU3.out]; simp [hb1]
            go_wp2
            go_ret3
            exact ⟨by rw [HR.out]; rfl, rfl⟩
          · have HR : Hid (uv (l.drop off) = uvFrom 1 y (l.drop (off + 1))) := by show uv (l.drop off) = _; rw [HU3.out]; simp [hb1]
            go_wp2
            go_round
            case rel => exact ⟨1, y, by omega, by omega, by omega, rfl, rfl, rfl, HR.out⟩
            case measure => simp [intOf]
        · have b0 : (acc : Int) < 128 := by omega
          clear hacc hk3 hk hkl
          have e2 : bits .and .i64 (x : Int) 127 = ((x % 128 : Nat) : Int) := by rw [i64_and127 _ (by omega) (by omega)]; omega
          have e3 : bits .or .i64 (acc : Int) ((x % 128 : Nat) * 128 : Int) = ((acc + x % 128 * 128 : Nat) : Int) := by rw [i64_or 7 _ _ (by omega) (by omega) (by omega) (by omega) (by omega) (by omega)]; omega
          have b3 : ((x % 128 : Nat) : Int) < 128 := by omega
          by_cases hb1 : x < 128
          · by_cases hz : x = 0
            · have HR : Hid (uv (l.drop off) = none) := by show uv (l.drop off) = _; rw [HU3.out]; simp [hz]
              clear e2 e3 b3
              go_wp2
              go_ret3
              exact ⟨by rw [HR.out]; rfl, rfl⟩
            · have HR : Hid (uv (l.drop off) = some (acc + x * 128, 2)) := by show uv (l.drop off) = _; rw [HU3.out]; simp [hb1, hz]
              have e1 : bits .or .i64 (acc : Int) ((x : Int) * 128) = ((acc + x * 128 : Nat) : Int) := by rw [i64_or 7 _ _ (by omega) (by omega) (by omega) (by omega) (by omega) (by omega)]; omega
              clear e2 e3 b3
              go_wp2
              go_ret3
              exact ⟨by rw [HR.out]; rfl, rfl⟩
          · have HR : Hid (uv (l.drop off) = uvFrom 2 (acc + x % 128 * 128) (l.drop (off + 2))) := by show uv (l.drop off) = _; rw [HU3.out]; simp [hb1, Nat.add_assoc]
            generalize x % 128 = y at *
            go_wp2
            go_round
            case rel => exact ⟨2, acc + y * 128, by omega, by omega, by omega, rfl, rfl, rfl, HR.out⟩
            case measure => simp [intOf]
        · have b0 : (acc : Int) < 16384 := by omega
          clear hacc hk3 hk hkl
          have e2 : bits .and .i64 (x : Int) 127 = ((x % 128 : Nat) : Int) := by rw [i64_and127 _ (by omega) (by omega)]; omega
          have e3 : bits .or .i64 (acc : Int) ((x % 128 : Nat) * 16384 : Int) = ((acc + x % 128 * 16384 : Nat) : Int) := by rw [i64_or 14 _ _ (by omega) (by omega) (by omega) (by omega) (by omega) (by omega)]; omega
          have b3 : ((x % 128 : Nat) : Int) < 128 := by omega
          by_cases hb1 : x < 128
          · by_cases hz : x = 0
            · have HR : Hid (uv (l.drop off) = none) := by show uv (l.drop off) = _; rw [HU3.out]; simp [hz]
              clear e2 e3 b3
              go_wp2
              go_ret3
              exact ⟨by rw [HR.out]; rfl, rfl⟩
            · have HR : Hid (uv (l.drop off) = some (acc + x * 16384, 3)) := by show uv (l.drop off) = _; rw [HU3.out]; simp [hb1, hz]
              have e1 : bits .or .i64 (acc : Int) ((x : Int) * 16384) = ((acc + x * 16384 : Nat) : Int) := by rw [i64_or 14 _ _ (by omega) (by omega) (by omega) (by omega) (by omega) (by omega)]; omega
              clear e2 e3 b3
              go_wp2
              go_ret3
              exact ⟨by rw [HR.out]; rfl, rfl⟩
          · have HR : Hid (uv (l.drop off) = uvFrom 3 (acc + x % 128 * 16384) (l.drop (off + 3))) := by show uv (l.drop off) = _; rw [HU3.out]; simp [hb1, Nat.add_assoc]
            generalize x % 128 = y at *
            go_wp2
            go_round
            case rel => exact ⟨3, acc + y * 16384, by omega, by omega, by omega, rfl, rfl, rfl, HR.out⟩
            case measure => simp [intOf]
      · have HR : Hid (uv (l.drop off) = none) := by
          show uv (l.drop off) = _
          rw [HU.out, List.drop_of_length_le (by omega)]
          rfl
        clear hacc hc HU
        have hks : k = 0 ∨ k = 1 ∨ k = 2 := by omega
        rcases hks with rfl | rfl | rfl
        all_goals
          go_wp2
          go_ret3
          exact ⟨by rw [HR.out]; rfl, rfl⟩
    · obtain rfl : k = 3 := by omega
      have HR : Hid (uv (l.drop off) = none) := by
        show uv (l.drop off) = _
        rw [HU.out, uvFrom_three]
      clear hacc hc HU
      go_wp2
      go_ret3
      exact ⟨by rw [HR.out]; rfl, rfl⟩

end Go.Proofs.Qxb6609276a
