/-
  encoding/binary.Uvarint where a minimal uvarint of at most three bytes stands.
-/
import Derived.Test.Qxb6609276aLeafs
import Derived.Lib.VarintBits
namespace Go.Proofs.Qxb6609276a
open Go.RowKit
set_option linter.unusedSimpArgs false
set_option linter.unusedVariables false

set_option maxRecDepth 100000 in
set_option maxHeartbeats 1600000 in
theorem uvarint_uv (g o c : Nat) (l : List UInt8) (v k : Nat) (w : World) (hn : l.length ≤ 4096) (hu : uv l = some (v, k)) (hc : BytesAt w g o l) :
    Calls Try.prog 25 #[.slice (some ⟨g, o, none⟩) l.length c] w fun e w' => e = .returned (.tuple #[.int .u64 v, .int .i64 k]) ∧ w' = w := by
  have HU0 : Hid (uv l = some (v, k)) := hu
  clear hu
  go_enter Try.func25, Try.ntmps25
  go_wp2
  go_loop [4, 5, 10] (fun x s i => ∃ j acc : Nat, acc < 2 ^ (7 * j) ∧ i = .int .i64 j ∧ s = .int .u64 ((7 * j : Nat) : Int) ∧ x = .int .u64 acc ∧ j ≤ 3 ∧ uvFrom j acc (l.drop j) = some (v, k))
    (fun _ _ i => 3 - (intOf i).toNat)
  case atStart => exact ⟨0, 0, by simp, rfl, rfl, rfl, by omega, HU0.out⟩
  case round =>
    obtain ⟨j, acc, hacc, rfl, rfl, rfl, hj3, hu⟩ := hrel
    have hj : j < 3 := by
      rcases Nat.lt_or_ge j 3 with h | h
      · exact h
      · obtain rfl : j = 3 := by omega
        rw [uvFrom_three] at hu
        cases hu
    have hlt : j < l.length := by
      rcases Nat.lt_or_ge j l.length with h | h
      · exact h
      · rw [List.drop_eq_nil_of_le h] at hu
        simp [uvFrom] at hu
    have hcell := hc j hlt
    rw [List.drop_eq_getElem_cons hlt] at hu
    unfold uvFrom at hu
    rw [if_neg (by omega)] at hu
    have hb : l[j].toNat < 256 := l[j].toNat_lt
    have HU : Hid ((if l[j].toNat < 128 then (if 0 < j ∧ l[j].toNat = 0 then none else some (acc + l[j].toNat * 2 ^ (7 * j), j + 1)) else uvFrom (j + 1) (acc + l[j].toNat % 128 * 2 ^ (7 * j)) (l.drop (j + 1))) = some (v, k)) := hu
    clear hu hc HU0
    generalize l[j].toNat = x at *
    have hjs : j = 0 ∨ j = 1 ∨ j = 2 := by omega
    rcases hjs with rfl | rfl | rfl
    · obtain rfl : acc = 0 := by simpa using hacc
      clear hacc hj3 hj
      simp only [Nat.add_zero] at hcell
      have e1 : bits .or .u64 0 (x : Int) = (x : Int) := by rw [u64_orv0 _ _ (by omega) (by omega) (by omega) (by omega) (by omega)]; omega
      have e2 : bits .and .u8 (x : Int) 127 = ((x % 128 : Nat) : Int) := by rw [u8_and127 _ (by omega) (by omega)]; omega
      have e3 : bits .or .u64 0 ((x % 128 : Nat) : Int) = ((x % 128 : Nat) : Int) := by rw [u64_orv0 _ _ (by omega) (by omega) (by omega) (by omega) (by omega)]; omega
      have b3 : ((x % 128 : Nat) : Int) < 128 := by omega
      by_cases hb1 : x < 128
      · obtain ⟨rfl, rfl⟩ : x = v ∧ 1 = k := by simpa [hb1] using HU.out
        go_wp2
        go_ret2
        exact ⟨rfl, rfl⟩
      · have HR : Hid (uvFrom 1 (x % 128) (l.drop 1) = some (v, k)) := by show _ = _; have := HU.out; simpa [hb1] using this
        generalize x % 128 = y at *
        go_wp2
        go_round
        case rel => exact ⟨1, y, by omega, rfl, rfl, rfl, by omega, HR.out⟩
        case measure => simp [intOf]
    · have b0 : (acc : Int) < 128 := by omega
      clear hacc hj3 hj
      have e2 : bits .and .u8 (x : Int) 127 = ((x % 128 : Nat) : Int) := by rw [u8_and127 _ (by omega) (by omega)]; omega
      have e3 : bits .or .u64 (acc : Int) (((x % 128 : Nat) : Int) * 128) = ((acc + x % 128 * 128 : Nat) : Int) := by rw [u64_orv7 _ _ (by omega) (by omega) (by omega) (by omega) (by omega)]; omega
      have b3 : ((x % 128 : Nat) : Int) < 128 := by omega
      by_cases hb1 : x < 128
      · have hz : x ≠ 0 := by
          intro hz
          have := HU.out
          simp [hz] at this
        obtain ⟨rfl, rfl⟩ : acc + x * 128 = v ∧ 2 = k := by simpa [hb1, hz] using HU.out
        have e1 : bits .or .u64 (acc : Int) ((x : Int) * 128) = ((acc + x * 128 : Nat) : Int) := by rw [u64_orv7 _ _ (by omega) (by omega) (by omega) (by omega) (by omega)]; omega
        clear e2 e3 b3
        go_wp2
        go_ret2
        exact ⟨rfl, rfl⟩
      · have HR : Hid (uvFrom 2 (acc + x % 128 * 128) (l.drop 2) = some (v, k)) := by show _ = _; have := HU.out; simpa [hb1] using this
        generalize x % 128 = y at *
        go_wp2
        go_round
        case rel => exact ⟨2, acc + y * 128, by omega, rfl, rfl, rfl, by omega, HR.out⟩
        case measure => simp [intOf]
    · have b0 : (acc : Int) < 16384 := by omega
      clear hacc hj3 hj
      have e2 : bits .and .u8 (x : Int) 127 = ((x % 128 : Nat) : Int) := by rw [u8_and127 _ (by omega) (by omega)]; omega
      have e3 : bits .or .u64 (acc : Int) (((x % 128 : Nat) : Int) * 16384) = ((acc + x % 128 * 16384 : Nat) : Int) := by rw [u64_orv14 _ _ (by omega) (by omega) (by omega) (by omega) (by omega)]; omega
      have b3 : ((x % 128 : Nat) : Int) < 128 := by omega
      by_cases hb1 : x < 128
      · have hz : x ≠ 0 := by
          intro hz
          have := HU.out
          simp [hz] at this
        obtain ⟨rfl, rfl⟩ : acc + x * 16384 = v ∧ 3 = k := by simpa [hb1, hz] using HU.out
        have e1 : bits .or .u64 (acc : Int) ((x : Int) * 16384) = ((acc + x * 16384 : Nat) : Int) := by rw [u64_orv14 _ _ (by omega) (by omega) (by omega) (by omega) (by omega)]; omega
        clear e2 e3 b3
        go_wp2
        go_ret2
        exact ⟨rfl, rfl⟩
      · have HR : Hid (uvFrom 3 (acc + x % 128 * 16384) (l.drop 3) = some (v, k)) := by show _ = _; have := HU.out; simpa [hb1] using this
        generalize x % 128 = y at *
        go_wp2
        go_round
        case rel => exact ⟨3, acc + y * 16384, by omega, rfl, rfl, rfl, by omega, HR.out⟩
        case measure => simp [intOf]

end Go.Proofs.Qxb6609276a
