/-
  The law FnByReceiverPartition.
-/
import Derived.Test.Qxb6612463aBy
import Derived.BigQuiet
import Derived.WalkSmall
namespace Go.Proofs.Qxb6612463a
open Go.RowKit Go.Deep
set_option linter.unusedSimpArgs false
set_option linter.unusedVariables false

def LawEnd (w : World) (e : Ending) (w' : World) : Prop := e = .returned (.bool true) ∧ Below w.heap.size w w'

/-- What a group's cells hold. -/
theorem Places.at {W : World} {PB : Nat} {l : List Str} (h : Places W PB l) {i : Nat} (hi : i < l.length) : W.cell? ⟨PB, pos l i, none⟩ = some (.int .i64 (i : Nat)) := by
  obtain ⟨f, h1, h2⟩ := h
  rw [h1.cell (pos_lt hi), h2 i hi]

theorem Places.find {W : World} {PB : Nat} {l : List Str} (h : Places W PB l) {x : Str} {j : Nat} (hj : j < cnt l x) :
    ∃ i, ∃ hi : i < l.length, l[i] = x ∧ cnt (l.take i) x = j ∧ W.cell? ⟨PB, st l x + j, none⟩ = some (.int .i64 (i : Nat)) := by
  obtain ⟨i, hi, h1, h2⟩ := cnt_find hj
  refine ⟨i, hi, h1, h2, ?_⟩
  have := h.at hi
  rw [pos_eq hi, h1, h2] at this
  exact this

set_option maxRecDepth 100000 in
set_option maxHeartbeats 6400000 in
theorem partition_any (a : Option Addr) (l : List Str) (c : Nat) (w : World) (hn : l.length ≤ maxLen) (hs : ∀ x ∈ l, x.length ≤ maxLen) (hc : StrsAt w a l) :
    Calls Try.prog 3 #[.slice a l.length c] w (LawEnd w) := by
  have HZ : Hid (Calls Try.prog 5 #[.slice a l.length c] w (ZzEnd l w)) := zzBytes_any5 a l c w hn hs hc
  have HC : Hid (StrsAt w a l) := hc
  unfold maxLen at hn
  clear hc hs
  go_enter Try.func3, Try.ntmps3
  go_wp2_with fail
  refine HZ.out.mono ?_
  rintro e w1 ⟨b, rfl, h1, hsm⟩
  replace h1 := h1.symm
  subst h1
  cases b with
  | false =>
    clear hsm
    go_wp2_with fail
    go_ret
    exact ⟨rfl, Below.refl _ _⟩
  | true =>
    have HS : Hid (∀ x ∈ l, x.length ≤ 1048576) := hsm rfl
    clear hsm
    by_cases h16 : l.length ≤ 65536
    case neg =>
      go_wp2_with fail
      go_ret
      exact ⟨rfl, Below.refl _ _⟩
    go_wp2_with fail
    refine (stringBytes_any a l c w h16 HS.out HC.out).mono ?_
    rintro e w1 ⟨z, rfl, h1⟩
    replace h1 := h1.symm
    subst h1
    by_cases hz : z ≤ 1048576
    case neg =>
      go_wp2_with fail
      go_ret
      exact ⟨rfl, Below.refl _ _⟩
    go_wp2_with fail
    refine (cloneStrings_any a l c w h16 HC.out).mono ?_
    rintro e w1 ⟨ra, rc, rfl, hra, hB1⟩
    have HRA : Hid (StrsAt w1 ra l) := hra
    clear hra
    go_wp2_with fail
    refine (zzbyReceiver_any ra l rc w1 HRA.out h16 HS.out).mono ?_
    rintro e W ⟨ks, ka, kc, GB, PB, rfl, hK, hka, hG, hP, hB2⟩
    have HK : Hid (Keys l ks) := hK
    have HKA : Hid (StrsAt W ka ks) := hka
    have HG : Hid (Groups W GB PB l ks) := hG
    have HP : Hid (Places W PB l) := hP
    have HR : Hid (StrsAt W ra l) := HRA.out.below hB2 (Nat.le_refl _)
    have HBW : Hid (Below w.heap.size w W) := hB1.trans (hB2.mono hB1.size)
    have hkl : ks.length ≤ l.length := by
      have h1 := le_S hK ks.length (Nat.le_refl _)
      rw [S_len hK] at h1
      exact h1
    clear hK hka hG hP hB1 hB2 HRA HC HZ
    go_wp2_with fail
    go_loopw [6] (fun vk wq => ∃ k q : Nat, vk = .int .i64 k ∧ 1 ≤ k ∧ wq = W.drewN q) (fun vk _ => ks.length - (intOf vk).toNat)
    case atStart => exact ⟨1, 0, rfl, by omega, rfl⟩
    case round =>
      obtain ⟨k, q, rfl, hk, hwq⟩ := hrel
      subst hwq
      by_cases hlt : k < ks.length
      · have hki : (k : Int) < (ks.length : Int) := by omega
        obtain ⟨j, rfl⟩ : ∃ j, k = j + 1 := ⟨k - 1, by omega⟩
        obtain ⟨g, o, rfl, hg, hcell⟩ := HKA.out (by omega)
        have d0 := hcell j (by omega)
        have d1 := hcell (j + 1) hlt
        have hbl : Op.bytesLess ks[j] ks[j + 1] = true := by rw [bytesLess_eq]; simpa using HK.out.lt (i := j) (by omega) hlt
        clear hcell
        go_wp2_with fail
        go_quiet (fail)
        go_wp2_with fail
        exact ⟨⟨j + 1 + 1, _, rfl, by omega, rfl⟩, meas hlt⟩
      · go_wp2_with fail
        go_loopw [7, 8] (fun vt vk wq => ∃ k q : Nat, vk = .int .i64 k ∧ vt = .int .i64 (S l ks k : Nat) ∧ k ≤ ks.length ∧ wq = W.drewN q) (fun _ vk _ => ks.length - (intOf vk).toNat)
        case atStart => exact ⟨0, q, rfl, by rw [S_zero]; rfl, by omega, rfl⟩
        case round =>
          obtain ⟨k', q', rfl, rfl, hk', hwq⟩ := hrel
          subst hwq
          by_cases hlt' : k' < ks.length
          · have hki : (k' : Int) < (ks.length : Int) := by omega
            obtain ⟨f, hrow, hf⟩ := HG.out
            have gc := hrow.cell hlt'
            rw [hf k' hlt'] at gc
            unfold grpV at gc
            obtain ⟨g, o, rfl, hg, hcell⟩ := HKA.out (by omega)
            have dk := hcell k' hlt'
            obtain ⟨x, hx⟩ : ∃ x, x = ks[k'] := ⟨_, rfl⟩
            have hxl : x ∈ l := by rw [hx]; exact (HK.out.2 _).1 (List.getElem_mem hlt')
            have hS := S_succ HK.out hlt'
            have hSl := S_le (l := l) (ks := ks) (j := k' + 1)
            rw [← hx] at gc dk hS
            have hle := st_cnt_len (l := l) (x := x)
            have hpos := cnt_pos hxl
            have HFD : Hid (∀ j, j < cnt l x → ∃ i, ∃ hi : i < l.length, l[i] = x ∧ cnt (l.take i) x = j ∧ W.cell? ⟨PB, st l x + j, none⟩ = some (.int .i64 (i : Nat))) := fun j hj => HP.out.find hj
            obtain ⟨s, hse⟩ : ∃ s, Value.string s = encStr x := ⟨_, rfl⟩
            rw [← hse] at dk
            obtain ⟨rg, ro, rfl, _, hrs⟩ := HR.out (by omega)
            have HRS : Hid (∀ i (hi : i < l.length), l[i] = x → W.cell? ⟨rg, ro + i, none⟩ = some (.string s)) := fun i hi e => by rw [hrs i hi, e, hse]
            obtain ⟨p, hp⟩ : ∃ p, p = st l x := ⟨_, rfl⟩
            obtain ⟨n, hnn⟩ : ∃ n, n = cnt l x := ⟨_, rfl⟩
            obtain ⟨T, hT⟩ : ∃ T, T = S l ks k' := ⟨_, rfl⟩
            rw [← hp, ← hnn] at gc hle HFD
            rw [← hnn] at hpos
            have HST : Hid (S l ks (k' + 1) = T + n) := by show _ = _; rw [hS, hT, hnn]
            have hTn : T + n ≤ 65536 := by omega
            rw [← hT]
            have HMO : Hid (∀ i i' (hi : i < l.length), cnt (l.take i') x < cnt (l.take i) x → i' < i) := fun i i' hi h => by
              rcases Nat.lt_or_ge i' i with h' | h'
              · exact h'
              · have := cnt_take_mono (l := l) h' x; omega
            have hn0 : ((n : Int) == 0) = false := beq_eq_false_iff_ne.2 (by omega)
            clear hcell hrow hf hS hSl hse hp hnn hT hx hrs
            go_wp2_with fail
            go_loopw [10] (fun vj wq => ∃ j q : Nat, vj = .int .i64 j ∧ j ≤ n ∧ wq = W.drewN q) (fun vj _ => n - (intOf vj).toNat)
            case atStart => exact ⟨0, q', rfl, by omega, rfl⟩
            case round =>
              obtain ⟨j, q2, rfl, hj, hwq⟩ := hrel
              subst hwq
              by_cases hjn : j < n
              · have hji : (j : Int) < (n : Int) := by omega
                obtain ⟨i, hi, hix, hic, hci⟩ := HFD.out j hjn
                have hcr := HRS.out i hi hix
                have hii : (i : Int) < (l.length : Int) := by omega
                have HIX : Hid (l[i] = x ∧ cnt (l.take i) x = j) := ⟨hix, hic⟩
                clear hix hic
                cases j with
                | zero =>
                  rw [Nat.add_zero] at hci
                  go_wp2_with fail
                  go_quiet (fail)
                  go_wp2_with fail
                  exact ⟨⟨1, _, rfl, by omega, rfl⟩, meas hjn⟩
                | succ j' =>
                  obtain ⟨i', hi', hix', hic', hci'⟩ := HFD.out j' (by omega)
                  have hlt2 : i' < i := HMO.out i i' hi (by rw [hic', HIX.out.2]; omega)
                  have hii2 : (i' : Int) < (i : Int) := by omega
                  clear hix' hic'
                  go_wp2_with fail
                  go_quiet (fail)
                  go_wp2_with fail
                  exact ⟨⟨j' + 1 + 1, _, rfl, by omega, rfl⟩, meas hjn⟩
              · obtain rfl : j = n := by omega
                go_wp2_with fail
                exact ⟨⟨k' + 1, q2, rfl, int_eq (by rw [HST.out]; simp), by omega, rfl⟩, meas hlt'⟩
          · obtain rfl : k' = ks.length := by omega
            rw [S_len HK.out]
            go_wp2_with fail
            go_ret
            exact ⟨by simp, below_drewN HBW.out _⟩

end Go.Proofs.Qxb6612463a
