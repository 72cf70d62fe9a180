/-
  stableOrder: the walk.
-/
import Derived.Test.Qxb6612463aLeafs
import Derived.Test.Qxb6612463aMerge
import Derived.BigQuiet
import Derived.WalkSmall
import Derived.Deep.CutRange
namespace Go.Proofs.Qxb6612463a
open Go.RowKit Go.Deep
set_option linter.unusedSimpArgs false
set_option linter.unusedVariables false

/-- Block X is a row of n numbers F. -/
def Rw (W : World) (X n : Nat) (F : Nat → Nat) : Prop := W.rowIs X 3 n (fun a => .int .i64 (F a : Nat))

theorem Rw.cell {W : World} {X n : Nat} {F : Nat → Nat} (h : Rw W X n F) {a : Nat} (ha : a < n) : W.cell? ⟨X, a, none⟩ = some (.int .i64 (F a : Nat)) := World.rowIs.cell h ha
theorem Rw.set {W : World} {X n : Nat} {F : Nat → Nat} (h : Rw W X n F) (k v : Nat) : Rw (W.setCell ⟨X, k, none⟩ (.int .i64 (v : Nat))) X n (upd F k v) := by
  refine (World.rowIs.set h k (.int .i64 (v : Nat))).congr fun i hi => ?_
  unfold upd
  split <;> rfl
theorem Rw.other {W : World} {X Y n : Nat} {F : Nat → Nat} (h : Rw W X n F) (hne : X ≠ Y) (k : Nat) (v : Value) : Rw (W.setCell ⟨Y, k, none⟩ v) X n F := World.rowIs.setOther h hne v
theorem Rw.congr {W : World} {X n : Nat} {F G : Nat → Nat} (h : Rw W X n F) (e : ∀ a, a < n → F a = G a) : Rw W X n G := World.rowIs.congr h fun i hi => by rw [e i hi]

/-- The two rows: X holds F, Y holds T. -/
def Ord (l : List Str) (w : World) (X Y : Nat) (F T : Nat → Nat) (wq : World) : Prop := X ≠ Y ∧ w.heap.size ≤ X ∧ w.heap.size ≤ Y ∧ Rw wq X l.length F ∧ Rw wq Y l.length T ∧ Below w.heap.size w wq

theorem Ord.set {l : List Str} {w wq : World} {X Y : Nat} {F T : Nat → Nat} (h : Ord l w X Y F T wq) (k v : Nat) : Ord l w X Y F (upd T k v) (wq.setCell ⟨Y, k, none⟩ (.int .i64 (v : Nat))) := by
  obtain ⟨h1, h2, h3, h4, h5, h6⟩ := h
  exact ⟨h1, h2, h3, h4.other h1 _ _, h5.set k v, h6.grown (grown_set (World.grownBy.refl _ _) k _) h6.size (by intro j hj; cases hj; exact h3)⟩
theorem Ord.drewN {l : List Str} {w wq : World} {X Y : Nat} {F T : Nat → Nat} (h : Ord l w X Y F T wq) (q : Nat) : Ord l w X Y F T (wq.drewN q) := by
  obtain ⟨h1, h2, h3, h4, h5, h6⟩ := h
  exact ⟨h1, h2, h3, h4, h5, below_drewN h6 q⟩
theorem Ord.swap {l : List Str} {w wq : World} {X Y : Nat} {F T : Nat → Nat} (h : Ord l w X Y F T wq) : Ord l w Y X T F wq := by
  obtain ⟨h1, h2, h3, h4, h5, h6⟩ := h
  exact ⟨fun e => h1 e.symm, h3, h2, h5, h4, h6⟩

/-- What stableOrder hands back. -/
def OrdEnd (l : List Str) (w : World) (e : Ending) (w' : World) : Prop :=
  ∃ (X : Nat) (F : Nat → Nat), e = .returned (.slice (some ⟨X, 0, none⟩) l.length l.length) ∧ Rw w' X l.length F ∧ (∀ a, a < l.length → F a < l.length ∧ pos l (F a) = a) ∧ Below w.heap.size w w'

/-- The first loop. -/
def Ids (V : World) (X n i : Nat) (wq : World) : Prop := V.grownBy wq (some X) ∧ ∃ F, Rw wq X n F ∧ ∀ a, a < i → F a = a
theorem Ids.up {V wr : World} {X n i : Nat} (h : Ids V X n i wr) (hi : i < n) :
    (∃ i' : Nat, Value.int IntKind.i64 ((i : Int) + 1) = Value.int IntKind.i64 i' ∧ i' ≤ n ∧ Ids V X n i' (wr.setCell ⟨X, i, none⟩ (.int .i64 (i : Nat)))) ∧
      n - (intOf (Value.int IntKind.i64 ((i : Int) + 1))).toNat < n - (intOf (Value.int IntKind.i64 (i : Int))).toNat := by
  obtain ⟨h1, F, h2, h3⟩ := h
  refine ⟨⟨i + 1, rfl, by omega, grown_set h1 _ _, _, h2.set i i, fun a ha => ?_⟩, meas hi⟩
  by_cases e : a = i
  · subst e; rw [upd_at]
  · rw [upd_ne e]; exact h3 a (by omega)

/-- The merge's round, the next record taken off the left run. -/
theorem up_left {l : List Str} {w wr : World} {X Y lo i mid j hh k p m w2 : Nat} {F T : Nat → Nat} (h : Mrg l F T lo i mid j hh k) (ho : Ord l w X Y F T wr) (hb : BlksTo l T w2 lo) (hlo : lo = m * w2) (hA : Blk l F lo mid) (hB : Blk l F mid hh)
    (hi : i < mid) (hle : j < hh → ¬ l.getD (F j) [] < l.getD (F i) []) (hp : p = F i) (hk : k < hh) (q : Nat) :
    (∃ (i' j' k' : Nat) (T : Nat → Nat), Value.int IntKind.i64 ((i : Int) + 1) = .int .i64 i' ∧ Value.int IntKind.i64 (j : Int) = .int .i64 j' ∧ Value.int IntKind.i64 ((k : Int) + 1) = .int .i64 k' ∧
      Mrg l F T lo i' mid j' hh k' ∧ Ord l w X Y F T ((wr.drewN q).setCell ⟨Y, k, none⟩ (.int .i64 (p : Nat))) ∧ BlksTo l T w2 lo) ∧
      hh - (intOf (Value.int IntKind.i64 ((k : Int) + 1))).toNat < hh - (intOf (Value.int IntKind.i64 (k : Int))).toNat := by
  have hk' : lo ≤ k := by obtain ⟨e1, e2, e3, e4, e5, _⟩ := h; omega
  subst hp
  exact ⟨⟨i + 1, j, k + 1, _, rfl, rfl, rfl, h.left hA hB hi hle, (ho.drewN q).set k (F i), by subst hlo; exact hb.upd hk'⟩, meas hk⟩

/-- .. off the right run. -/
theorem up_right {l : List Str} {w wr : World} {X Y lo i mid j hh k p m w2 : Nat} {F T : Nat → Nat} (h : Mrg l F T lo i mid j hh k) (ho : Ord l w X Y F T wr) (hb : BlksTo l T w2 lo) (hlo : lo = m * w2) (hA : Blk l F lo mid) (hB : Blk l F mid hh)
    (hj : j < hh) (hlt : i < mid → l.getD (F j) [] < l.getD (F i) []) (hp : p = F j) (hk : k < hh) (q : Nat) :
    (∃ (i' j' k' : Nat) (T : Nat → Nat), Value.int IntKind.i64 (i : Int) = .int .i64 i' ∧ Value.int IntKind.i64 ((j : Int) + 1) = .int .i64 j' ∧ Value.int IntKind.i64 ((k : Int) + 1) = .int .i64 k' ∧
      Mrg l F T lo i' mid j' hh k' ∧ Ord l w X Y F T ((wr.drewN q).setCell ⟨Y, k, none⟩ (.int .i64 (p : Nat))) ∧ BlksTo l T w2 lo) ∧
      hh - (intOf (Value.int IntKind.i64 ((k : Int) + 1))).toNat < hh - (intOf (Value.int IntKind.i64 (k : Int))).toNat := by
  have hk' : lo ≤ k := by obtain ⟨e1, e2, e3, e4, e5, _⟩ := h; omega
  subst hp
  exact ⟨⟨i, j + 1, k + 1, _, rfl, rfl, rfl, h.right hA hB hj hlt, (ho.drewN q).set k (F j), by subst hlo; exact hb.upd hk'⟩, meas hk⟩

set_option maxRecDepth 100000 in
set_option maxHeartbeats 6400000 in
theorem stableOrder_any (a : Option Addr) (l : List Str) (c : Nat) (w : World) (hc : StrsAt w a l) (hn : l.length ≤ 65536) :
    Calls Try.prog 10 #[.slice a l.length c] w (OrdEnd l w) := by
  have HC : Hid (StrsAt w a l) := hc
  have hmk := fun w => run_make_row' (P := Try.prog) 29 3 (.int .i64 0) 8 Try.underlying29 Try.info3 rfl .i64 .i64 l.length (by omega) (by omega) w
  clear hc
  go_enter Try.func10, Try.ntmps10
  go_wp2_with fail
  obtain ⟨V, hV, _, hBV, hVs⟩ := box_ex w (.cells (madeCells #[Value.int .i64 0] l.length) 3)
  have hid : Ids V w.heap.size l.length 0 V := by
    subst hV
    exact ⟨World.grownBy.refl _ _, fun _ => 0, World.rowIs_made w (.int .i64 0) l.length 3, fun a h => by omega⟩
  rw [hV]
  clear hV
  obtain ⟨X, hX⟩ : ∃ X, X = w.heap.size := ⟨_, rfl⟩
  have HX : Hid (X = w.heap.size) := hX
  rw [← hX] at hid ⊢
  clear hX
  go_loopw [5] (fun vi wq => ∃ i : Nat, vi = .int .i64 i ∧ i ≤ l.length ∧ Ids V X l.length i wq) (fun vi _ => l.length - (intOf vi).toNat)
  case atStart => exact ⟨0, rfl, by omega, hid⟩
  case round =>
    clear hid
    obtain ⟨i, rfl, hi, hid⟩ := hrel
    by_cases hlt : i < l.length
    · have hii : (i : Int) < (l.length : Int) := by omega
      obtain ⟨F, hF, _⟩ := id hid.2
      have r0 := hF.cell hlt
      have z0 := World.rowIs.frozen hF i
      have HUP : Hid ((∃ i' : Nat, Value.int IntKind.i64 ((i : Int) + 1) = Value.int IntKind.i64 i' ∧ i' ≤ l.length ∧ Ids V X l.length i' (wr.setCell ⟨X, i, none⟩ (.int .i64 (i : Nat)))) ∧
          l.length - (intOf (Value.int IntKind.i64 ((i : Int) + 1))).toNat < l.length - (intOf (Value.int IntKind.i64 (i : Int))).toNat) := hid.up hlt
      clear hid hF hmk
      go_wp2_with fail
      all_goals exact HUP.out
    · obtain rfl : i = l.length := by omega
      have hxx := HX.out
      have HRX : Hid (Rw wr X l.length (fun a => a)) := by
        obtain ⟨F, hF, e⟩ := hid.2
        exact hF.congr e
      have HBX : Hid (Below w.heap.size w wr) := hBV.grown hid.1 (by omega) (by intro k hk; cases hk; omega)
      have hsz : X < wr.heap.size := World.rowIs.lt HRX.out
      clear hid
      go_wp2_with fail
      obtain ⟨V2, hV2, _, hBV2, hVs2⟩ := box_ex wr (.cells (madeCells #[Value.int .i64 0] l.length) 3)
      have hord : Ord l w X wr.heap.size (fun a => a) (fun _ => 0) V2 := by
        refine ⟨by omega, by omega, by omega, World.rowIs.of_block HRX.out (hBV2.block X hsz), ?_, HBX.out.trans (hBV2.mono (by omega))⟩
        subst hV2
        exact World.rowIs_made wr (.int .i64 0) l.length 3
      rw [hV2]
      clear hV2 hmk HRX HBX hBV2 hVs2 hxx hsz
      obtain ⟨Y, hY⟩ : ∃ Y, Y = wr.heap.size := ⟨_, rfl⟩
      rw [← hY] at hord ⊢
      clear hY
      go_loopw [4, 6, 7] (fun v4 v6 v7 wq => ∃ (X Y : Nat) (F T : Nat → Nat) (wd : Nat), v4 = .slice (some ⟨X, 0, none⟩) l.length l.length ∧ v6 = .slice (some ⟨Y, 0, none⟩) l.length l.length ∧ v7 = .int .i64 wd ∧ 1 ≤ wd ∧ wd ≤ 131072 ∧ Ord l w X Y F T wq ∧ Blks l F wd) (fun _ _ v7 _ => l.length - (intOf v7).toNat)
      case atStart => exact ⟨X, Y, _, _, 1, rfl, rfl, rfl, by omega, by omega, hord, Blks.one l⟩
      case round =>
        clear hord
        obtain ⟨X1, Y1, F, T, wd, rfl, rfl, rfl, hw1, hw2, hord, hblk⟩ := hrel
        by_cases hlt : wd < l.length
        · have hwi : (wd : Int) < (l.length : Int) := by omega
          have HBL : Hid (Blks l F wd) := hblk
          clear hblk
          go_wp2_with fail
          go_loopw [8] (fun v8 wq => ∃ (lo m : Nat) (T : Nat → Nat), v8 = .int .i64 lo ∧ lo = m * (2 * wd) ∧ lo ≤ l.length + 2 * wd ∧ Ord l w X1 Y1 F T wq ∧ BlksTo l T (2 * wd) lo) (fun v8 _ => l.length - (intOf v8).toNat)
          case atStart => exact ⟨0, 0, T, rfl, by omega, by omega, hord, BlksTo.start l T _⟩
          case round =>
            clear hord
            obtain ⟨lo, m, T1, rfl, hlo, hlob, hord, hbt⟩ := hrel
            by_cases hll : lo < l.length
            · have hlli : (lo : Int) < (l.length : Int) := by omega
              have HA : Hid (Blk l F lo (min (lo + wd) l.length)) := by have := HBL.out.left (m := m) (by omega); rw [← hlo] at this; exact this
              have HB : Hid (Blk l F (min (lo + wd) l.length) (min (lo + 2 * wd) l.length)) := by have := HBL.out.right (m := m) (by omega); rw [← hlo] at this; exact this
              have HLO : Hid (lo = m * (2 * wd)) := hlo
              have HOR : Hid (Ord l w X1 Y1 F T1 wr) := hord
              have HBT : Hid (BlksTo l T1 (2 * wd) lo) := hbt
              clear hlo hord hbt
              obtain ⟨mid, hmid⟩ : ∃ mid, mid = min (lo + wd) l.length := ⟨_, rfl⟩
              obtain ⟨hh, hhh⟩ : ∃ hh, hh = min (lo + 2 * wd) l.length := ⟨_, rfl⟩
              rw [← hmid] at HA HB
              rw [← hhh] at HB
              have hm1 : lo ≤ mid := by omega
              have hm2 : mid ≤ hh := by omega
              have hm3 : hh ≤ l.length := by omega
              have HMID : Hid (mid = min (lo + wd) l.length) := hmid
              have HHH : Hid (hh = min (lo + 2 * wd) l.length) := hhh
              clear hmid hhh
              go_upto_if 46 with fail
              go_cut [9] from 34 to 107 (fun v9 wx => v9 = .int .i64 (mid : Int) ∧ wx = wr)
              case first =>
                by_cases h1 : lo + wd ≤ l.length
                · have h1i : (lo : Int) + (wd : Int) ≤ (l.length : Int) := by omega
                  go_wp2_with fail
                  go_meet
                  exact ⟨int_eq (by rw [HMID.out]; omega), rfl⟩
                · have h1i : (l.length : Int) < (lo : Int) + (wd : Int) := by omega
                  go_wp2_with fail
                  go_meet
                  exact ⟨int_eq (by rw [HMID.out]; omega), rfl⟩
              case rest =>
                obtain ⟨rfl, hwc⟩ := hcut
                subst hwc
                go_upto_if 54 with fail
                obtain ⟨wy, hwy⟩ : ∃ wy, wy = wc := ⟨_, rfl⟩
                rw [← hwy] at HOR ⊢
                clear hwy
                go_cut [10] from 34 to 107 (fun v10 wx => v10 = .int .i64 (hh : Int) ∧ wx = wy)
                case first =>
                  by_cases h1 : lo + 2 * wd ≤ l.length
                  · have h1i : (lo : Int) + 2 * (wd : Int) ≤ (l.length : Int) := by omega
                    go_wp2_with fail
                    go_meet
                    exact ⟨int_eq (by rw [HHH.out]; omega), rfl⟩
                  · have h1i : (l.length : Int) < (lo : Int) + 2 * (wd : Int) := by omega
                    go_wp2_with fail
                    go_meet
                    exact ⟨int_eq (by rw [HHH.out]; omega), rfl⟩
                case rest =>
                  obtain ⟨rfl, hwc⟩ := hcut
                  subst hwc
                  go_wp2_with fail
                  go_loopw [11, 12, 13] (fun v11 v12 v13 wq => ∃ (i j k : Nat) (T : Nat → Nat), v11 = .int .i64 i ∧ v12 = .int .i64 j ∧ v13 = .int .i64 k ∧ Mrg l F T lo i mid j hh k ∧ Ord l w X1 Y1 F T wq ∧ BlksTo l T (2 * wd) lo) (fun _ _ v13 _ => hh - (intOf v13).toNat)
                  case atStart => exact ⟨lo, mid, lo, T1, rfl, rfl, rfl, Mrg.start hm1 hm2, HOR.out, HBT.out⟩
                  case round =>
                    clear HOR HBT
                    obtain ⟨i, j, k, T2, rfl, rfl, rfl, hmg, hor, hbt⟩ := hrel
                    have HMG : Hid (Mrg l F T2 lo i mid j hh k) := hmg
                    have HOR : Hid (Ord l w X1 Y1 F T2 wr) := hor
                    have HBT : Hid (BlksTo l T2 (2 * wd) lo) := hbt
                    obtain ⟨e1, e2, e3, e4, e5, _⟩ := hmg
                    clear hbt
                    by_cases hk : k < hh
                    · have hki : (k : Int) < (hh : Int) := by omega
                      have t0 := hor.2.2.2.2.1.cell (a := k) (by omega)
                      have tz := World.rowIs.frozen hor.2.2.2.2.1 k
                      obtain ⟨g, o, hag, hg, hcell⟩ := HC.out.below hor.2.2.2.2.2 (Nat.le_refl _) (by omega)
                      subst hag
                      have hkl : (k : Int) < (l.length : Int) := by omega
                      by_cases him : i < mid
                      · have himi : (i : Int) < (mid : Int) := by omega
                        have ci := hor.2.2.2.1.cell (a := i) (by omega)
                        have hFi : F i < l.length := by have := HA.out.2 i e1 him; omega
                        have hil : (i : Int) < (l.length : Int) := by omega
                        obtain ⟨p, hp⟩ : ∃ p, p = F i := ⟨_, rfl⟩
                        have HP : Hid (p = F i) := hp
                        by_cases hjh : j < hh
                        · have hjhi : (j : Int) < (hh : Int) := by omega
                          have cj := hor.2.2.2.1.cell (a := j) (by omega)
                          have hFj : F j < l.length := by have := HB.out.2 j e3 hjh; omega
                          have hjl : (j : Int) < (l.length : Int) := by omega
                          have di := hcell (F i) hFi
                          have dj := hcell (F j) hFj
                          obtain ⟨q, hq⟩ : ∃ q, q = F j := ⟨_, rfl⟩
                          have HQ : Hid (q = F j) := hq
                          by_cases hlt : l[F j] < l[F i]
                          · have HLT : Hid (i < mid → l.getD (F j) [] < l.getD (F i) []) := fun _ => by rw [getD_at hFi, getD_at hFj]; exact hlt
                            have hbl : Op.bytesLess l[F j] l[F i] = true := by rw [bytesLess_eq]; simpa using hlt
                            obtain ⟨x, hx⟩ : ∃ x, x = l[F i] := ⟨_, rfl⟩
                            obtain ⟨y, hy⟩ : ∃ y, y = l[F j] := ⟨_, rfl⟩
                            rw [← hx, ← hy] at hbl
                            rw [← hx, ← hp] at di
                            rw [← hy, ← hq] at dj
                            rw [← hp] at ci hFi
                            rw [← hq] at cj hFj
                            have hpi : (p : Int) < (l.length : Int) := by omega
                            have hqi : (q : Int) < (l.length : Int) := by omega
                            clear hx hy hp hq hor hcell hlt
                            go_wp2_with fail
                            go_quiet (fail)
                            go_wp2_with fail
                            exact up_right HMG.out HOR.out HBT.out HLO.out HA.out HB.out hjh HLT.out HQ.out hk _
                          · have HLT : Hid (j < hh → ¬ l.getD (F j) [] < l.getD (F i) []) := fun _ => by rw [getD_at hFi, getD_at hFj]; exact hlt
                            have hbl : Op.bytesLess l[F j] l[F i] = false := by rw [bytesLess_eq]; simpa using hlt
                            obtain ⟨x, hx⟩ : ∃ x, x = l[F i] := ⟨_, rfl⟩
                            obtain ⟨y, hy⟩ : ∃ y, y = l[F j] := ⟨_, rfl⟩
                            rw [← hx, ← hy] at hbl
                            rw [← hx, ← hp] at di
                            rw [← hy, ← hq] at dj
                            rw [← hp] at ci hFi
                            rw [← hq] at cj hFj
                            have hpi : (p : Int) < (l.length : Int) := by omega
                            have hqi : (q : Int) < (l.length : Int) := by omega
                            clear hx hy hp hq hor hcell hlt
                            go_wp2_with fail
                            go_quiet (fail)
                            go_wp2_with fail
                            exact up_left HMG.out HOR.out HBT.out HLO.out HA.out HB.out him HLT.out HP.out hk _
                        · have hjhi : (hh : Int) ≤ (j : Int) := by omega
                          have HLT : Hid (j < hh → ¬ l.getD (F j) [] < l.getD (F i) []) := fun h => absurd h hjh
                          rw [← hp] at ci
                          clear hp hor hcell
                          go_wp2_with fail
                          go_quiet (fail)
                          go_wp2_with fail
                          exact up_left HMG.out HOR.out HBT.out HLO.out HA.out HB.out him HLT.out HP.out hk _
                      · have himi : decide ((i : Int) < (mid : Int)) = false := by simp; omega
                        have hjh : j < hh := by omega
                        have cj := hor.2.2.2.1.cell (a := j) (by omega)
                        have hjl : (j : Int) < (l.length : Int) := by omega
                        obtain ⟨q, hq⟩ : ∃ q, q = F j := ⟨_, rfl⟩
                        have HQ : Hid (q = F j) := hq
                        have HLT : Hid (i < mid → l.getD (F j) [] < l.getD (F i) []) := fun h => absurd h him
                        rw [← hq] at cj
                        clear hq hor hcell
                        go_wp2_with fail
                        go_quiet (fail)
                        go_wp2_with fail
                        exact up_right HMG.out HOR.out HBT.out HLO.out HA.out HB.out hjh HLT.out HQ.out hk _
                    · have hki : (hh : Int) ≤ (k : Int) := by omega
                      have HNX : Hid (BlksTo l T2 (2 * wd) (lo + 2 * wd)) := by
                        have h1 := HMG.out.done (by omega)
                        have h2 := HBT.out
                        rw [HHH.out] at h1
                        rw [HLO.out] at h1 h2 ⊢
                        have h3 := h2.next h1
                        rw [Nat.add_mul, Nat.one_mul] at h3
                        exact h3
                      have HLO2 : Hid (lo + 2 * wd = (m + 1) * (2 * wd)) := by show _ = _; rw [HLO.out, Nat.add_mul, Nat.one_mul]
                      clear hor
                      go_wp2_with fail
                      exact ⟨⟨lo + 2 * wd, m + 1, T2, int_eq (by omega), HLO2.out, by omega, HOR.out, HNX.out⟩, by simp only [intOf]; omega⟩
            · have hlli : (l.length : Int) ≤ (lo : Int) := by omega
              have HALL : Hid (Blks l T1 (2 * wd)) := hbt.all (by omega)
              have HSW : Hid (Ord l w Y1 X1 T1 F wr) := hord.swap
              clear hlo hbt hord
              go_wp2_with fail
              exact ⟨⟨Y1, X1, T1, F, 2 * wd, rfl, rfl, int_eq (by omega), by omega, by omega, HSW.out, HALL.out⟩, by simp only [intOf]; omega⟩
        · have hwi : (l.length : Int) ≤ (wd : Int) := by omega
          have HFIN : Hid (OrdEnd l w (.returned (.slice (some ⟨X1, 0, none⟩) l.length l.length)) wr) := ⟨X1, F, rfl, hord.2.2.2.1, hblk.order (by omega), hord.2.2.2.2.2⟩
          clear hord hblk
          go_wp2_with fail
          go_ret
          exact HFIN.out

end Go.Proofs.Qxb6612463a
