/-
  The law FnByReceiverStableSortOneArray.
-/
import Derived.Test.Qxb6612463aBy
import Derived.Test.Qxb6612463aOrder
import Derived.Lib.SlicesS
namespace Go.Proofs.Qxb6612463a
open Go.RowKit Go.Deep
set_option linter.unusedSimpArgs false
set_option linter.unusedVariables false

def LawEnd (w : World) (e : Ending) (w' : World) : Prop := e = .returned (.bool true) ∧ Below w.heap.size w w'

theorem Groups.below {W W' : World} {GB PB : Nat} {l ks : List Str} (h : Groups W GB PB l ks) (hb : Below W.heap.size W W') : Groups W' GB PB l ks := by
  obtain ⟨f, h1, h2⟩ := h
  exact ⟨f, h1.of_block (hb.block GB h1.lt), h2⟩
theorem Places.below {W W' : World} {PB : Nat} {l : List Str} (h : Places W PB l) (hb : Below W.heap.size W W') : Places W' PB l := by
  obtain ⟨f, h1, h2⟩ := h
  exact ⟨f, h1.of_block (hb.block PB h1.lt), h2⟩

/-- What the order says of group k. -/
theorem order_at {l ks : List Str} {F : Nat → Nat} (hF : ∀ a, a < l.length → F a < l.length ∧ pos l (F a) = a) {x : Str} {j : Nat} (hj : j < cnt l x) :
    ∃ h : F (st l x + j) < l.length, l[F (st l x + j)] = x := by
  obtain ⟨i, hi, h1, h2⟩ := cnt_find hj
  have hp : pos l i = st l x + j := by rw [pos_eq hi, h1, h2]
  have hlt : st l x + j < l.length := by rw [← hp]; exact pos_lt hi
  obtain ⟨h3, h4⟩ := hF _ hlt
  have e : F (st l x + j) = i := pos_inj h3 hi (h4.trans hp.symm)
  exact ⟨h3, by simp only [e]; exact h1⟩

theorem places_at {W : World} {PB : Nat} {l : List Str} {F : Nat → Nat} (h : Places W PB l) (hF : ∀ a, a < l.length → F a < l.length ∧ pos l (F a) = a) {a : Nat} (ha : a < l.length) : W.cell? ⟨PB, a, none⟩ = some (.int .i64 (F a : Nat)) := by
  obtain ⟨f, h1, h2⟩ := h
  obtain ⟨h3, h4⟩ := hF a ha
  have := h2 (F a) h3
  rw [h4] at this
  rw [h1.cell ha, this]

theorem S_lt {l ks : List Str} (h : Keys l ks) {k : Nat} (hk : k ≤ ks.length) : S l ks k < l.length ↔ k < ks.length := by
  constructor
  · intro h1
    rcases Nat.lt_or_ge k ks.length with h2 | h2
    · exact h2
    · obtain rfl : k = ks.length := by omega
      rw [S_len h] at h1
      omega
  · intro h1
    have h2 := S_succ h h1
    have h3 := S_le (l := l) (ks := ks) (j := k + 1)
    have h4 := cnt_pos ((h.2 ks[k]).1 (List.getElem_mem h1))
    omega

set_option maxRecDepth 100000 in
set_option maxHeartbeats 6400000 in
theorem stable_any (a : Option Addr) (l : List Str) (c : Nat) (w : World) (hn : l.length ≤ maxLen) (hs : ∀ x ∈ l, x.length ≤ maxLen) (hc : StrsAt w a l) :
    Calls Try.prog 4 #[.slice a l.length c] w (LawEnd w) := by
  have HZ : Hid (Calls Try.prog 9 #[.slice a l.length c] w (ZzEnd l w)) := zzBytes_any9 a l c w hn hs hc
  have HC : Hid (StrsAt w a l) := hc
  unfold maxLen at hn
  clear hc hs
  go_enter Try.func4, Try.ntmps4
  go_wp2_with fail
  refine HZ.out.mono ?_
  rintro e w1 ⟨b, rfl, h1, hsm⟩
  replace h1 := h1.symm
  subst h1
  cases b with
  | false =>
    clear hsm
    go_wp2_with fail
    go_ret
    exact ⟨rfl, Below.refl _ _⟩
  | true =>
    have HS : Hid (∀ x ∈ l, x.length ≤ 1048576) := hsm rfl
    clear hsm
    by_cases h16 : l.length ≤ 65536
    case neg =>
      go_wp2_with fail
      go_ret
      exact ⟨rfl, Below.refl _ _⟩
    go_wp2_with fail
    refine (stringBytes_any a l c w h16 HS.out HC.out).mono ?_
    rintro e w1 ⟨z, rfl, h1⟩
    replace h1 := h1.symm
    subst h1
    by_cases hz : z ≤ 1048576
    case neg =>
      go_wp2_with fail
      go_ret
      exact ⟨rfl, Below.refl _ _⟩
    go_wp2_with fail
    refine (cloneStrings_any a l c w h16 HC.out).mono ?_
    rintro e w1 ⟨ra, rc, rfl, hra, hB1⟩
    have HRA : Hid (StrsAt w1 ra l) := hra
    clear hra
    go_wp2_with fail
    refine (zzbyReceiver_any ra l rc w1 HRA.out h16 HS.out).mono ?_
    rintro e w2 ⟨ks, ka, kc, GB, PB, rfl, hK, hka, hG, hP, hB2⟩
    have HK : Hid (Keys l ks) := hK
    have HKA2 : Hid (StrsAt w2 ka ks) := hka
    have HG2 : Hid (Groups w2 GB PB l ks) := hG
    have HP2 : Hid (Places w2 PB l) := hP
    have HR2 : Hid (StrsAt w2 ra l) := HRA.out.below hB2 (Nat.le_refl _)
    have HBW2 : Hid (Below w.heap.size w w2) := hB1.trans (hB2.mono hB1.size)
    have hkl : ks.length ≤ l.length := by
      have h1 := le_S hK ks.length (Nat.le_refl _)
      rw [S_len hK] at h1
      exact h1
    clear hK hka hG hP hB1 hB2 HRA HC HZ
    go_wp2_with fail
    refine (stableOrder_any ra l rc w2 HR2.out h16).mono ?_
    rintro e W ⟨OB, F, rfl, hO, hF, hB3⟩
    have HKA : Hid (StrsAt W ka ks) := HKA2.out.below hB3 (Nat.le_refl _)
    have HG : Hid (Groups W GB PB l ks) := HG2.out.below hB3
    have HP : Hid (Places W PB l) := HP2.out.below hB3
    have HR : Hid (StrsAt W ra l) := HR2.out.below hB3 (Nat.le_refl _)
    have HBW : Hid (Below w.heap.size w W) := HBW2.out.trans (hB3.mono HBW2.out.size)
    have HO : Hid (Rw W OB l.length F) := hO
    have HF : Hid (∀ a, a < l.length → F a < l.length ∧ pos l (F a) = a) := hF
    clear hO hF hB3 HKA2 HG2 HP2 HR2 HBW2
    go_wp2_with fail
    go_loopw [7, 8] (fun vk va wq => ∃ k q : Nat, vk = .int .i64 k ∧ va = .int .i64 (S l ks k : Nat) ∧ k ≤ ks.length ∧ wq = W.drewN q) (fun _ va _ => l.length - (intOf va).toNat)
    case atStart => exact ⟨0, 0, rfl, by rw [S_zero]; rfl, by omega, rfl⟩
    case round =>
      obtain ⟨k, q, rfl, rfl, hk, hwq⟩ := hrel
      subst hwq
      by_cases hlt : k < ks.length
      · have hki : (k : Int) < (ks.length : Int) := by omega
        have hSl := (S_lt HK.out hk).2 hlt
        have hS1 := S_succ HK.out hlt
        have hS2 := S_st HK.out hlt
        have hS3 := S_le (l := l) (ks := ks) (j := k + 1)
        obtain ⟨f, hrow, hf⟩ := HG.out
        have gc := hrow.cell hlt
        rw [hf k hlt] at gc
        unfold grpV at gc
        obtain ⟨g, o, rfl, hg, hcell⟩ := HKA.out (by omega)
        have dk := hcell k hlt
        obtain ⟨rg, ro, rfl, _, hrs⟩ := HR.out (by omega)
        obtain ⟨x, hx⟩ : ∃ x, x = ks[k] := ⟨_, rfl⟩
        have hxl : x ∈ l := by rw [hx]; exact (HK.out.2 _).1 (List.getElem_mem hlt)
        rw [← hx] at gc dk hS1 hS2
        have hpos := cnt_pos hxl
        obtain ⟨A, hA⟩ : ∃ A, A = S l ks k := ⟨_, rfl⟩
        obtain ⟨N, hN⟩ : ∃ N, N = cnt l x := ⟨_, rfl⟩
        rw [← hA] at hSl hS1 hS2
        rw [← hN] at hS1 hpos gc
        rw [← hS2] at gc
        have HIN : Hid (∀ p, A ≤ p → p < A + N → ∃ h : F p < l.length, l[F p] = x) := fun p h1 h2 => by
          have := order_at (ks := ks) HF.out (x := x) (j := p - A) (by omega)
          rw [← hS2] at this
          have e : A + (p - A) = p := by omega
          rw [e] at this
          exact this
        have HOUT : Hid (A + N < l.length → ∃ h : F (A + N) < l.length, l[F (A + N)] ≠ x) := fun h1 => by
          rw [← hS1] at h1 ⊢
          have hk1 := (S_lt HK.out (k := k + 1) (by omega)).1 h1
          obtain ⟨h2, h3⟩ := order_at (ks := ks) HF.out (x := ks[k + 1]) (j := 0) (cnt_pos ((HK.out.2 _).1 (List.getElem_mem hk1)))
          rw [Nat.add_zero, ← S_st HK.out hk1] at h2
          refine ⟨h2, ?_⟩
          have h3' : l[F (S l ks (k + 1))] = ks[k + 1] := by
            have := h3
            simp only [Nat.add_zero, ← S_st HK.out hk1] at this
            exact this
          rw [h3', hx]
          exact fun e => lt_ne (HK.out.lt (i := k) (j := k + 1) (by omega) hk1) e.symm
        obtain ⟨s, hse⟩ : ∃ s, Value.string s = encStr x := ⟨_, rfl⟩
        rw [← hse] at dk
        have HRS : Hid (∀ i (hi : i < l.length), l[i] = x → W.cell? ⟨rg, ro + i, none⟩ = some (.string s)) := fun i hi e => by rw [hrs i hi, e, hse]
        have HRN : Hid (∀ i (hi : i < l.length), l[i] ≠ x → ∃ s', W.cell? ⟨rg, ro + i, none⟩ = some (.string s') ∧ s' ≠ s) := fun i hi e => ⟨_, hrs i hi, fun h => e (by
          rw [← h] at hse
          exact encStr_inj hse)⟩
        have HSX : Hid (S l ks (k + 1) = A + N) := hS1
        have hAN : A + N ≤ l.length := by omega
        have hAl : (A : Int) < (l.length : Int) := by omega
        rw [← hA]
        have hAN1 : A + 1 ≤ A + N := by omega
        obtain ⟨iA, hiA⟩ : ∃ i, i = F A := ⟨_, rfl⟩
        obtain ⟨hFA, hFx⟩ := HIN.out A (Nat.le_refl _) (by omega)
        have cA := HO.out.cell (a := A) (by omega)
        have rA := HRS.out (F A) hFA hFx
        rw [← hiA] at cA rA hFA
        have hiAl : (iA : Int) < (l.length : Int) := by omega
        clear hcell hrow hf hS1 hS2 hS3 hx hA hN hse hrs hiA hFx hSl
        go_wp2_with fail
        go_loopw [9] (fun ve wq => ∃ e q : Nat, ve = .int .i64 e ∧ A + 1 ≤ e ∧ e ≤ A + N ∧ wq = W.drewN q) (fun ve _ => l.length - (intOf ve).toNat)
        case atStart => exact ⟨A + 1, q, rfl, by omega, by omega, rfl⟩
        case round =>
          obtain ⟨e, q2, rfl, he1, he2, hwq⟩ := hrel
          subst hwq
          by_cases he : e < A + N
          · have hel : (e : Int) < (l.length : Int) := by omega
            obtain ⟨hFe, hFx⟩ := HIN.out e (by omega) he
            have ce := HO.out.cell (a := e) (by omega)
            have re := HRS.out (F e) hFe hFx
            obtain ⟨ie, hie⟩ : ∃ i, i = F e := ⟨_, rfl⟩
            rw [← hie] at ce re hFe
            have hiel : (ie : Int) < (l.length : Int) := by omega
            clear hie hFx
            go_wp2_with fail
            go_quiet (fail)
            go_wp2_with fail
            exact ⟨⟨e + 1, _, rfl, by omega, by omega, rfl⟩, by simp only [intOf]; omega⟩
          · have HE : Hid (e = A + N) := by show _ = _; omega
            have hEA : (e : Int) - (A : Int) = (N : Int) := by omega
            have hkg : decide ((ks.length : Int) ≤ (k : Int)) = false := by simp; omega
            obtain ⟨C, hC⟩ : ∃ C, C = l.length - A := ⟨_, rfl⟩
            rw [← hC] at gc
            have hCA : (l.length : Int) - (A : Int) = (C : Int) := by omega
            clear hC
            by_cases hel' : e < l.length
            case' pos =>
              have hel : (e : Int) < (l.length : Int) := by omega
              obtain ⟨hFe, hFx⟩ := HOUT.out (by omega)
              have ce := HO.out.cell (a := e) hel'
              have hFe' : F e < l.length := (HF.out e hel').1
              obtain ⟨s', re, hss⟩ := HRN.out (F e) hFe' (by have h := HE.out; subst h; exact hFx)
              obtain ⟨ie, hie⟩ : ∃ i, i = F e := ⟨_, rfl⟩
              rw [← hie] at ce re hFe'
              have hiel : (ie : Int) < (l.length : Int) := by omega
              have hss' : (s'.toList == s.toList) = false := (Lib.bytes_beq_false_iff s' s).2 hss
              clear hie hFx hFe
              go_wp2_with fail
              go_quiet (fail)
              go_wp2_with fail
            case' neg =>
              have hel : decide ((e : Int) < (l.length : Int)) = false := by simp; omega
              go_wp2_with fail
              go_quiet (fail)
              go_wp2_with fail
            all_goals
              go_quiet (fail)
              go_wp2_with fail
              go_loopw [11] (fun vj wq => ∃ j q : Nat, vj = .int .i64 j ∧ j ≤ N ∧ wq = W.drewN q) (fun vj _ => N - (intOf vj).toNat)
              case atStart => exact ⟨0, _, rfl, by omega, rfl⟩
              case round =>
                obtain ⟨j, q3, rfl, hj, hwq⟩ := hrel
                subst hwq
                by_cases hjn : j < N
                · have hji : (j : Int) < (N : Int) := by omega
                  have cP := places_at HP.out HF.out (a := A + j) (by omega)
                  have cO := HO.out.cell (a := A + j) (by omega)
                  obtain ⟨p, hp⟩ : ∃ p, p = F (A + j) := ⟨_, rfl⟩
                  rw [← hp] at cP cO
                  have hAj : (A : Int) + (j : Int) < (l.length : Int) := by omega
                  clear hp
                  go_wp2_with fail
                  go_quiet (fail)
                  go_wp2_with fail
                  exact ⟨⟨j + 1, _, rfl, by omega, rfl⟩, meas hjn⟩
                · have hji : (N : Int) ≤ (j : Int) := by omega
                  go_wp2_with fail
                  exact ⟨⟨k + 1, _, rfl, int_eq (by rw [HSX.out, HE.out]), by omega, rfl⟩, by have := HE.out; simp only [intOf]; omega⟩
      · obtain rfl : k = ks.length := by omega
        have hSn := S_len HK.out
        rw [hSn]
        clear hSn
        go_wp2_with fail
        go_ret
        exact ⟨by simp, below_drewN HBW.out _⟩

end Go.Proofs.Qxb6612463a
