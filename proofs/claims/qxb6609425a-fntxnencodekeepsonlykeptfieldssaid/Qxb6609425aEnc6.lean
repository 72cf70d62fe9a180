/-
  encodeTxn; sameBytes; fieldsSize; addLen, addCount.
-/
import Derived.Test.Qxb6609425aEnc5
namespace Go.Proofs.Qxb6609425a
open Go.RowKit
set_option linter.unusedSimpArgs false
set_option linter.unusedVariables false

set_option maxHeartbeats 800000 in
theorem newEncoder_any (w : World) : Calls Try.prog 12 #[.slice none 0 0] w fun e w' => e = .returned (.pointer (some ⟨w.heap.size, 0, none⟩)) ∧ w' = w.alloc (.cells #[.slice none 0 0] 56) := by
  go_enter Try.func12, Try.ntmps12
  go_wp2
  go_ret
  exact ⟨rfl, rfl⟩

set_option maxHeartbeats 800000 in
theorem encoderBytes_any (E : Nat) (a : Option Addr) (n c : Nat) (w : World) (h : w.cell? ⟨E, 0, none⟩ = some (.slice a n c)) : Calls Try.prog 14 #[.pointer (some ⟨E, 0, none⟩)] w fun e w' => e = .returned (.slice a n c) ∧ w' = w := by
  go_enter Try.func14, Try.ntmps14
  go_wp2
  go_ret
  exact ⟨rfl, rfl⟩

theorem below_alloc (n₀ : Nat) (W : World) (o : Obj) (h : n₀ ≤ W.heap.size) : Below n₀ W (W.alloc o) := (Below.refl _ _).alloc h _

/-- What of a change is short enough. -/
def Fits (req : Bool) (f : Fd) (fs : List Fd) : Prop := Sm f ∧ (f.op = 14 → fs.length ≤ 1048576 ∧ ∀ g ∈ fs, Sm g) ∧ (encb req f fs).length ≤ 268435456

set_option maxRecDepth 100000 in
set_option maxHeartbeats 1600000 in
theorem zzEncode_any (n₀ E : Nat) (cs : List Value) (f : Fd) (fs : List Fd) (req : Bool) (w : World) (hf : Tp n₀ w cs f fs) (hs : Fits req f fs) (hb : Enc n₀ E w []) (hn : n₀ ≤ w.heap.size) :
    Calls Try.prog 13 #[.agg cs.toArray, .pointer (some ⟨E, 0, none⟩), .bool req] w (EncEnd n₀ E [] (encb req f fs) w) := by
  have HTP : Hid (Tp n₀ w cs f fs) := hf
  obtain ⟨vd, va, vp, vo, vk, ak, rfl, hvd, hva, hvp, hvo, ⟨ak', nk, ck, rfl⟩⟩ := hf
  have HB : Hid (Enc n₀ E w []) := hb
  have HS : Hid (Fits req f fs) := hs
  obtain ⟨ad, cd, rfl⟩ := hvd.slice
  obtain ⟨aa, ca, rfl⟩ := hva.slice
  obtain ⟨ap, cp, rfl⟩ := hvp.slice
  obtain ⟨ao, co, rfl, hops⟩ := hvo
  clear hb hvd hva hvp hs hops
  simp only [cells14] at HTP ⊢
  go_enter Try.func13, Try.ntmps13
  go_wp2_with fail
  refine (encode_any n₀ E [] _ f fs req _ (Tp.below HTP.out (below_alloc _ _ _ hn)) HS.out.1 HS.out.2.1 (Enc.alloc HB.out _) (by simp; omega) (by simpa using HS.out.2.2)).mono ?_
  rintro e w1 ⟨rfl, hb1, hk1⟩
  go_wp2_with fail
  go_end0
  exact ⟨rfl, hb1, ((KeepE.refl n₀ E w).alloc _).trans hk1⟩

def EncTxnEnd (xs : List Value) (w : World) (e : Ending) (w' : World) : Prop := ∃ v, e = .returned v ∧ Buf w.heap.size w' v xs ∧ Below w.heap.size w w'

set_option maxRecDepth 100000 in
set_option maxHeartbeats 1600000 in
theorem encodeTxn_any (cs : List Value) (f : Fd) (fs : List Fd) (req : Bool) (w : World) (hf : Tp w.heap.size w cs f fs) (hs : Fits req f fs) :
    Calls Try.prog 5 #[.agg cs.toArray, .bool req] w (EncTxnEnd (encb req f fs) w) := by
  have HTP : Hid (Tp w.heap.size w cs f fs) := hf
  obtain ⟨vd, va, vp, vo, vk, ak, rfl, hvd, hva, hvp, hvo, ⟨ak', nk, ck, rfl⟩⟩ := hf
  have HS : Hid (Fits req f fs) := hs
  obtain ⟨ad, cd, rfl⟩ := hvd.slice
  obtain ⟨aa, ca, rfl⟩ := hva.slice
  obtain ⟨ap, cp, rfl⟩ := hvp.slice
  obtain ⟨ao, co, rfl, hops⟩ := hvo
  clear hvd hva hvp hs hops
  simp only [cells14] at HTP ⊢
  go_enter Try.func5, Try.ntmps5
  go_wp2_with fail
  refine (newEncoder_any _).mono ?_
  rintro e w1 ⟨rfl, rfl⟩
  go_wp2_with fail
  refine (zzEncode_any w.heap.size _ _ f fs req _ (Tp.below HTP.out ((below_alloc _ _ _ (Nat.le_refl _)).alloc (by simp) _)) HS.out ?_ (by simp; omega)).mono ?_
  · refine ⟨by simp, .slice none 0 0, ?_, World.ownsRow_nil _ _ _ _⟩
    have := Deep.blk_alloc_new (w.alloc (.cells #[.int .u64 f.zx, .int .i64 f.tm, .int .i32 f.op, .string f.path, .slice ad (lenO f.data) cd, .slice aa f.acl.length ca, .int .i32 f.ver, .int .i64 f.ses, .int .i32 f.tmo, .slice ap (lenO f.pw) cp, .slice ao fs.length co, .bool f.seq, .slice ak' nk ck, .int .i64 ak] 37)) (.cells #[.slice none 0 0] 56)
    rw [Deep.nblk_alloc] at this
    exact this
  rintro e w2 ⟨rfl, ⟨h0, v, hE, hbuf⟩, hk⟩
  obtain ⟨a, c, rfl⟩ := hbuf.slice
  have cE := heap_cell hE 0
  simp only [List.getElem?_toArray, List.getElem?_cons_zero, World.size_alloc] at cE
  have HBU : Hid (Buf w.heap.size w2 (.slice a ([] ++ encb req f fs).length c) ([] ++ encb req f fs)) := hbuf
  have HBE : Hid (Below w.heap.size w w2) := ((below_alloc _ _ _ (Nat.le_refl _)).alloc (by simp) _).trans (hk.below (by simp; omega) h0)
  clear hbuf hE hk
  go_wp2_with fail
  refine (encoderBytes_any _ a _ c _ cE).mono ?_
  rintro e w3 ⟨rfl, hw3⟩
  replace hw3 := hw3.symm
  subst hw3
  go_wp2_with fail
  go_ret
  exact ⟨_, rfl, HBU.out, HBE.out⟩

/-- Each is a byte. -/
def AllB (xs : List Value) : Prop := ∀ u ∈ xs, ∃ n, u = .int .u8 n

set_option maxHeartbeats 800000 in
/-- Two rows of the same cells. -/
theorem same_some (g1 o1 c1 g2 o2 c2 : Nat) (xs : List Value) (w : World) (hl : xs.length ≤ 268435456) (ha : AllB xs) (h1 : ∀ j (h : j < xs.length), w.cell? ⟨g1, o1 + j, none⟩ = some xs[j]) (h2 : ∀ j (h : j < xs.length), w.cell? ⟨g2, o2 + j, none⟩ = some xs[j]) :
    Calls Try.prog 9 #[.slice (some ⟨g1, o1, none⟩) xs.length c1, .slice (some ⟨g2, o2, none⟩) xs.length c2] w fun e w' => e = .returned (.bool true) ∧ Below w.heap.size w w' := by
  have H1 : Hid (∀ j (h : j < xs.length), w.cell? ⟨g1, o1 + j, none⟩ = some xs[j]) := h1
  have H2 : Hid (∀ j (h : j < xs.length), w.cell? ⟨g2, o2 + j, none⟩ = some xs[j]) := h2
  have HA : Hid (AllB xs) := ha
  clear h1 h2 ha
  go_enter Try.func9, Try.ntmps9
  go_wp2_with fail
  go_loopw [5] (fun vj wq => ∃ j q : Nat, vj = .int .i64 j ∧ j ≤ xs.length ∧ wq = w.drewN q) (fun vj _ => xs.length - (intOf vj).toNat)
  case atStart => exact ⟨0, 0, rfl, by omega, rfl⟩
  case round =>
    obtain ⟨j, q, rfl, hj, rfl⟩ := hrel
    by_cases hlt : j < xs.length
    · have hji : (j : Int) < (xs.length : Int) := by omega
      have d1 := H1.out j hlt
      have d2 := H2.out j hlt
      obtain ⟨n, hn⟩ := HA.out xs[j] (List.getElem_mem hlt)
      rw [hn] at d1 d2
      clear hn
      go_wp2_with fail
      go_quiet (fail)
      go_wp2_with fail
      refine ⟨⟨j + 1, _, rfl, by omega, rfl⟩, ?_⟩
      have hwr : (j : Int) + 1 = ((j + 1 : Nat) : Int) := rfl
      rw [hwr]
      simp only [intOf, Int.toNat_natCast]
      omega
    · obtain rfl : j = xs.length := by omega
      go_wp2_with fail
      go_ret
      exact ⟨rfl, ⟨rfl, rfl, rfl, Nat.le_refl _, fun _ _ => rfl⟩⟩

/-- Two buffers of the same bytes. -/
theorem same_any (n1 n2 : Nat) (v1 v2 : Value) (xs : List Value) (w : World) (hl : xs.length ≤ 268435456) (hp : 0 < xs.length) (ha : AllB xs) (h1 : Buf n1 w v1 xs) (h2 : Buf n2 w v2 xs) :
    Calls Try.prog 9 #[v1, v2] w fun e w' => e = .returned (.bool true) ∧ Below w.heap.size w w' := by
  have form : ∀ {n : Nat} {v : Value}, Buf n w v xs → ∃ g c, v = .slice (some ⟨g, 0, none⟩) xs.length c ∧ ∀ j (h : j < xs.length), w.cell? ⟨g, 0 + j, none⟩ = some xs[j] := fun {n v} h => by
    rcases h.2 with ⟨_, h0⟩ | ⟨g, cap, cur, rfl, _⟩
    · omega
    · refine ⟨g, cap, rfl, fun j hj => ?_⟩
      rw [Nat.zero_add, World.ownsRow.cellAt h j (by omega)]
      simp
  obtain ⟨g1, c1, rfl, d1⟩ := form h1
  obtain ⟨g2, c2, rfl, d2⟩ := form h2
  exact same_some g1 0 c1 g2 0 c2 xs w hl ha d1 d2

/-- The law's count, cut off above the limit. -/
def sat (x : Nat) : Nat := if x ≤ 1048576 then x else 1048577

theorem sat_le (x : Nat) : sat x ≤ 1048577 := by unfold sat; split <;> omega
theorem sat_add (x n : Nat) : sat (sat x + n) = sat (x + n) := by
  unfold sat
  by_cases h : x ≤ 1048576
  · rw [if_pos h]
  · rw [if_neg h, if_neg (by omega), if_neg (by omega)]

set_option maxHeartbeats 800000 in
theorem addLen_any (x n : Nat) (w : World) (hn : n ≤ maxLen) : Calls Try.prog 10 #[.int .i64 (sat x : Nat), .int .i64 n] w fun e w' => e = .returned (.int .i64 (sat (x + n) : Nat)) ∧ w' = w := by
  unfold maxLen at hn
  have hs := sat_le x
  rw [← sat_add]
  generalize sat x = y at *
  have hy : y ≤ 1048577 := hs
  by_cases h1 : y = 1048577
  · subst h1
    have e : sat (1048577 + n) = 1048577 := by unfold sat; split <;> omega
    rw [e]
    go_enter Try.func10, Try.ntmps10
    go_wp2
    go_ret
    exact ⟨rfl, rfl⟩
  · have h1i : decide ((1048576 : Int) < (y : Int)) = false := by simp; omega
    by_cases h2 : y + n ≤ 1048576
    · have h2i : decide ((1048576 : Int) - (y : Int) < (n : Int)) = false := by simp; omega
      have e : sat (y + n) = y + n := by unfold sat; split <;> omega
      rw [e]
      go_enter Try.func10, Try.ntmps10
      go_wp2
      go_ret
      exact ⟨rfl, rfl⟩
    · have h2i : (1048576 : Int) - (y : Int) < (n : Int) := by omega
      have e : sat (y + n) = 1048577 := by unfold sat; split <;> omega
      rw [e]
      go_enter Try.func10, Try.ntmps10
      go_wp2
      go_ret
      exact ⟨rfl, rfl⟩

set_option maxHeartbeats 800000 in
theorem addCount40 (x n : Nat) (w : World) (hn : n ≤ maxLen) : Calls Try.prog 11 #[.int .i64 (sat x : Nat), .int .i64 n, .int .i64 40] w fun e w' => e = .returned (.int .i64 (sat (x + n * 40) : Nat)) ∧ w' = w := by
  unfold maxLen at hn
  have hs := sat_le x
  by_cases h1 : sat x = 1048577
  · have e : sat (x + n * 40) = 1048577 := by rw [← sat_add, h1]; unfold sat; split <;> omega
    rw [e, h1]
    go_enter Try.func11, Try.ntmps11
    go_wp2
    go_ret
    exact ⟨rfl, rfl⟩
  · have h1i : decide ((1048576 : Int) < ((sat x : Nat) : Int)) = false := by simp; omega
    by_cases h2 : n ≤ 26214
    · have h2i : decide ((26214 : Int) < (n : Int)) = false := by simp; omega
      clear h1
      go_enter Try.func11, Try.ntmps11
      go_wp2_with fail
      refine (addLen_any x (n * 40) w (by unfold maxLen; omega)).mono ?_
      rintro e w' ⟨rfl, rfl⟩
      go_wp2_with fail
      go_ret
      exact ⟨rfl, rfl⟩
    · have h2i : (26214 : Int) < (n : Int) := by omega
      have e : sat (x + n * 40) = 1048577 := by unfold sat; split <;> omega
      rw [e]
      clear h1
      go_enter Try.func11, Try.ntmps11
      go_wp2
      go_ret
      exact ⟨rfl, rfl⟩

set_option maxHeartbeats 800000 in
theorem addCount32 (x n : Nat) (w : World) (hn : n ≤ maxLen) : Calls Try.prog 11 #[.int .i64 (sat x : Nat), .int .i64 n, .int .i64 32] w fun e w' => e = .returned (.int .i64 (sat (x + n * 32) : Nat)) ∧ w' = w := by
  unfold maxLen at hn
  have hs := sat_le x
  by_cases h1 : sat x = 1048577
  · have e : sat (x + n * 32) = 1048577 := by rw [← sat_add, h1]; unfold sat; split <;> omega
    rw [e, h1]
    go_enter Try.func11, Try.ntmps11
    go_wp2
    go_ret
    exact ⟨rfl, rfl⟩
  · have h1i : decide ((1048576 : Int) < ((sat x : Nat) : Int)) = false := by simp; omega
    by_cases h2 : n ≤ 32768
    · have h2i : decide ((32768 : Int) < (n : Int)) = false := by simp; omega
      clear h1
      go_enter Try.func11, Try.ntmps11
      go_wp2_with fail
      refine (addLen_any x (n * 32) w (by unfold maxLen; omega)).mono ?_
      rintro e w' ⟨rfl, rfl⟩
      go_wp2_with fail
      go_ret
      exact ⟨rfl, rfl⟩
    · have h2i : (32768 : Int) < (n : Int) := by omega
      have e : sat (x + n * 32) = 1048577 := by unfold sat; split <;> omega
      rw [e]
      clear h1
      go_enter Try.func11, Try.ntmps11
      go_wp2
      go_ret
      exact ⟨rfl, rfl⟩

set_option maxHeartbeats 800000 in
theorem addCount200 (x n : Nat) (w : World) (hn : n ≤ maxLen) : Calls Try.prog 11 #[.int .i64 (sat x : Nat), .int .i64 n, .int .i64 200] w fun e w' => e = .returned (.int .i64 (sat (x + n * 200) : Nat)) ∧ w' = w := by
  unfold maxLen at hn
  have hs := sat_le x
  by_cases h1 : sat x = 1048577
  · have e : sat (x + n * 200) = 1048577 := by rw [← sat_add, h1]; unfold sat; split <;> omega
    rw [e, h1]
    go_enter Try.func11, Try.ntmps11
    go_wp2
    go_ret
    exact ⟨rfl, rfl⟩
  · have h1i : decide ((1048576 : Int) < ((sat x : Nat) : Int)) = false := by simp; omega
    by_cases h2 : n ≤ 5242
    · have h2i : decide ((5242 : Int) < (n : Int)) = false := by simp; omega
      clear h1
      go_enter Try.func11, Try.ntmps11
      go_wp2_with fail
      refine (addLen_any x (n * 200) w (by unfold maxLen; omega)).mono ?_
      rintro e w' ⟨rfl, rfl⟩
      go_wp2_with fail
      go_ret
      exact ⟨rfl, rfl⟩
    · have h2i : (5242 : Int) < (n : Int) := by omega
      have e : sat (x + n * 200) = 1048577 := by unfold sat; split <;> omega
      rw [e]
      clear h1
      go_enter Try.func11, Try.ntmps11
      go_wp2
      go_ret
      exact ⟨rfl, rfl⟩

end Go.Proofs.Qxb6609425a
