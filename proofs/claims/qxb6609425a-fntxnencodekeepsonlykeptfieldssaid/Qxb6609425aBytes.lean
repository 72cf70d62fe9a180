/-
  The tree of a TxnIn; txnBytes.
-/
import Derived.Test.Qxb6609425aSize
namespace Go.Proofs.Qxb6609425a
open Go.RowKit
set_option linter.unusedSimpArgs false
set_option linter.unusedVariables false

/-- A slice of identities that lies below n₀. -/
def AskV (n₀ : Nat) (W : World) (v : Value) (ks : List (ByteArray × ByteArray)) : Prop :=
  ∃ a c, v = .slice a ks.length c ∧ (0 < ks.length → ∃ g o, a = some ⟨g, o, none⟩ ∧ g < n₀ ∧ ∀ j (h : j < ks.length), W.rangeAt g (o + j * 2) [.string ks[j].1, .string ks[j].2])

theorem AskV.below {n₀ : Nat} {W W' : World} {v : Value} {ks : List (ByteArray × ByteArray)} (h : AskV n₀ W v ks) (hb : Below n₀ W W') : AskV n₀ W' v ks := by
  obtain ⟨a, c, h1, h2⟩ := h
  refine ⟨a, c, h1, fun h => ?_⟩
  obtain ⟨g, o, h3, h4, h5⟩ := h2 h
  exact ⟨g, o, h3, h4, fun j hj k u hu => (hb.cell (p := ⟨g, o + j * 2 + k, none⟩) h4).trans (h5 j hj k u hu)⟩

def aclW (a : Acl) : Nat := a.s.size + a.i.size
def askW (k : ByteArray × ByteArray) : Nat := k.1.size + k.2.size

theorem sum_take_succ {l : List Nat} {j : Nat} (h : j < l.length) : (l.take (j + 1)).sum = (l.take j).sum + l[j] := by
  rw [List.take_succ_eq_append_getElem h, List.sum_append]
  simp
theorem sum_take_le (l : List Nat) (j : Nat) : (l.take j).sum ≤ l.sum := by
  conv => rhs; rw [← List.take_append_drop j l, List.sum_append]
  omega

/-- Sums over the first j. -/
def aclS (l : List Acl) (j : Nat) : Nat := ((l.take j).map aclW).sum
def askS (l : List (ByteArray × ByteArray)) (j : Nat) : Nat := ((l.take j).map askW).sum
def numS (l : List Nat) (j : Nat) : Nat := (l.take j).sum
theorem aclS_zero (l : List Acl) : aclS l 0 = 0 := rfl
theorem askS_zero (l : List (ByteArray × ByteArray)) : askS l 0 = 0 := rfl
theorem numS_zero (l : List Nat) : numS l 0 = 0 := rfl
theorem aclS_succ {l : List Acl} {j : Nat} (h : j < l.length) : aclS l (j + 1) = aclS l j + l[j].s.size + l[j].i.size := by
  unfold aclS
  rw [List.take_succ_eq_append_getElem h, List.map_append, List.sum_append]
  simp [aclW]
  omega
theorem askS_succ {l : List (ByteArray × ByteArray)} {j : Nat} (h : j < l.length) : askS l (j + 1) = askS l j + l[j].1.size + l[j].2.size := by
  unfold askS
  rw [List.take_succ_eq_append_getElem h, List.map_append, List.sum_append]
  simp [askW]
  omega
theorem numS_succ {l : List Nat} {j : Nat} (h : j < l.length) : numS l (j + 1) = numS l j + l[j] := sum_take_succ h
theorem numS_le (l : List Nat) (j : Nat) : numS l j ≤ numS l l.length := by
  unfold numS
  rw [List.take_length]
  exact sum_take_le l j

/-- The head's share of the bytes: fields and counts. -/
def own0 (f : Fd) (nk no : Nat) : Nat := f.path.size + lenO f.data + lenO f.pw + f.acl.length * 40 + nk * 32 + no * 200

/-- What a length may be at all. -/
def Lim (f : Fd) (ks : List (ByteArray × ByteArray)) (no : Nat) : Prop :=
  f.path.size ≤ maxLen ∧ lenO f.data ≤ maxLen ∧ lenO f.pw ≤ maxLen ∧ f.acl.length ≤ maxLen ∧ ks.length ≤ maxLen ∧ no ≤ maxLen ∧ (∀ a ∈ f.acl, a.s.size ≤ maxLen ∧ a.i.size ≤ maxLen) ∧ (∀ k ∈ ks, k.1.size ≤ maxLen ∧ k.2.size ≤ maxLen)

/-- The cells cs stand for a change of at most d levels: its fields f, its ops' fields fs, and t bytes in all. -/
def In : Nat → Nat → World → List Value → Fd → List Fd → Nat → Prop
  | 0, _, _, _, _, _, _ => False
  | d + 1, n₀, W, cs, f, fs, t => ∃ vd va vp vk ak ks ao co, ∃ ts : List Nat, cs = cells14 f vd va vp (.slice ao fs.length co) vk ak ∧ ByteV n₀ W vd f.data ∧ AclV n₀ W va f.acl ∧ ByteV n₀ W vp f.pw ∧ AskV n₀ W vk ks ∧ Lim f ks fs.length ∧
      ts.length = fs.length ∧ t = own0 f ks.length fs.length + aclS f.acl f.acl.length + askS ks ks.length + numS ts ts.length ∧
      (0 < fs.length → ∃ g o, ao = some ⟨g, o, none⟩ ∧ g < n₀ ∧ ∀ j (h : j < fs.length) (h' : j < ts.length), ∃ cs gs, In d n₀ W cs fs[j] gs ts[j] ∧ W.rangeAt g (o + j * 14) cs)

theorem In.below : ∀ {d n₀ : Nat} {W W' : World} {cs : List Value} {f : Fd} {fs : List Fd} {t : Nat}, In d n₀ W cs f fs t → Below n₀ W W' → In d n₀ W' cs f fs t
  | 0, _, _, _, _, _, _, _, h, _ => h.elim
  | d + 1, n₀, W, W', cs, f, fs, t, h, hb => by
    obtain ⟨vd, va, vp, vk, ak, ks, ao, co, ts, h1, h2, h3, h4, h5, h6, h7, h8, h9⟩ := h
    refine ⟨vd, va, vp, vk, ak, ks, ao, co, ts, h1, h2.below hb, h3.below hb, h4.below hb, h5.below hb, h6, h7, h8, fun h => ?_⟩
    obtain ⟨g, o, e1, e2, e3⟩ := h9 h
    refine ⟨g, o, e1, e2, fun j hj hj' => ?_⟩
    obtain ⟨cs', gs, e4, e5⟩ := e3 j hj hj'
    exact ⟨cs', gs, In.below e4 hb, fun k u hu => (hb.cell (p := ⟨g, o + j * 14 + k, none⟩) e2).trans (e5 k u hu)⟩

theorem sat_big {x : Nat} (h : 1048576 < x) : sat x = 1048577 := by unfold sat; rw [if_neg (by omega)]
theorem sat_small {x : Nat} (h : x ≤ 1048576) : sat x = x := by unfold sat; rw [if_pos h]

theorem ret_int {a b : Int} (h : a = b) : Ending.returned (.int .i64 a) = .returned (.int .i64 b) := by rw [h]

/-- The fourteen cells, written out. -/
theorem In.form {d n₀ : Nat} {W : World} {cs : List Value} {f : Fd} {fs : List Fd} {t : Nat} (h : In d n₀ W cs f fs t) :
    ∃ (ad aa ap ao ak' : Option Addr) (cd ca cp co ck : Nat) (ks : List (ByteArray × ByteArray)) (ak : Int), cs = cells14 f (.slice ad (lenO f.data) cd) (.slice aa f.acl.length ca) (.slice ap (lenO f.pw) cp) (.slice ao fs.length co) (.slice ak' ks.length ck) ak := by
  cases d with
  | zero => exact h.elim
  | succ d =>
    obtain ⟨vd, va, vp, vk, ak, ks, ao, co, ts, rfl, hvd, hva, hvp, hvk, _⟩ := h
    obtain ⟨ad, cd, rfl⟩ := hvd.slice
    obtain ⟨aa, ca, rfl, _⟩ := hva
    obtain ⟨ap, cp, rfl⟩ := hvp.slice
    obtain ⟨ak', ck, rfl, _⟩ := hvk
    exact ⟨ad, aa, ap, ao, ak', cd, ca, cp, co, ck, ks, ak, rfl⟩

set_option maxRecDepth 100000 in
set_option maxHeartbeats 3200000 in
theorem txnBytes_any : ∀ (d n₀ : Nat) (cs : List Value) (f : Fd) (fs : List Fd) (t x : Nat) (w : World), In d n₀ w cs f fs t → n₀ ≤ w.heap.size → Calls Try.prog 4 #[.agg cs.toArray, .int .i64 (sat x : Nat)] w (SizeEnd (sat (x + t)) w)
  | 0, _, _, _, _, _, _, _, h, _ => h.elim
  | d + 1, n₀, cs, f, fs, t, x, w, h, hn => by
    obtain ⟨vd, va, vp, vk, ak, ks, ao, co, ts, rfl, hvd, hva, hvp, hvk, hlim, htl, ht, hops⟩ := h
    obtain ⟨ad, cd, rfl⟩ := hvd.slice
    obtain ⟨aa, ca, rfl, hcells⟩ := hva
    obtain ⟨ap, cp, rfl⟩ := hvp.slice
    obtain ⟨ak', ck, rfl, hask⟩ := hvk
    obtain ⟨l1, l2, l3, l4, l5, l6, l7, l8⟩ := hlim
    have IH : Hid (∀ (cs : List Value) (f : Fd) (fs : List Fd) (t x : Nat) (w : World), In d n₀ w cs f fs t → n₀ ≤ w.heap.size → Calls Try.prog 4 #[.agg cs.toArray, .int .i64 (sat x : Nat)] w (SizeEnd (sat (x + t)) w)) := fun cs f fs t x w => txnBytes_any d n₀ cs f fs t x w
    have HC : Hid (0 < f.acl.length → ∃ g o, aa = some ⟨g, o, none⟩ ∧ g < n₀ ∧ ∀ j (h : j < f.acl.length), w.rangeAt g (o + j * 3) (aclCells f.acl[j])) := hcells
    have HK : Hid (0 < ks.length → ∃ g o, ak' = some ⟨g, o, none⟩ ∧ g < n₀ ∧ ∀ j (h : j < ks.length), w.rangeAt g (o + j * 2) [.string ks[j].1, .string ks[j].2]) := hask
    have HO : Hid (0 < fs.length → ∃ g o, ao = some ⟨g, o, none⟩ ∧ g < n₀ ∧ ∀ j (h : j < fs.length) (h' : j < ts.length), ∃ cs gs, In d n₀ w cs fs[j] gs ts[j] ∧ w.rangeAt g (o + j * 14) cs) := hops
    have HT : Hid (t = own0 f ks.length fs.length + aclS f.acl f.acl.length + askS ks ks.length + numS ts ts.length) := ht
    have L7 : Hid (∀ a ∈ f.acl, a.s.size ≤ maxLen ∧ a.i.size ≤ maxLen) := l7
    have L8 : Hid (∀ k ∈ ks, k.1.size ≤ maxLen ∧ k.2.size ≤ maxLen) := l8
    clear hvd hvp hcells hask hops ht l7 l8
    unfold maxLen at l1 l2 l3 l4 l5 l6
    simp only [cells14]
    go_enter Try.func4, Try.ntmps4
    go_wp2_with fail
    obtain ⟨V, hV, hX, hBV, hVs⟩ := box_ex w (.cells #[.int .u64 f.zx, .int .i64 f.tm, .int .i32 f.op, .string f.path, .slice ad (lenO f.data) cd, .slice aa f.acl.length ca, .int .i32 f.ver, .int .i64 f.ses, .int .i32 f.tmo, .slice ap (lenO f.pw) cp, .slice ao fs.length co, .bool f.seq, .slice ak' ks.length ck, .int .i64 ak] 28)
    rw [hV]
    have cx4 : V.cell? ⟨w.heap.size, 4, none⟩ = some (.slice ad (lenO f.data) cd) := heap_cell hX 4
    have cx9 : V.cell? ⟨w.heap.size, 9, none⟩ = some (.slice ap (lenO f.pw) cp) := heap_cell hX 9
    have cx5 : V.cell? ⟨w.heap.size, 5, none⟩ = some (.slice aa f.acl.length ca) := heap_cell hX 5
    have cx12 : V.cell? ⟨w.heap.size, 12, none⟩ = some (.slice ak' ks.length ck) := heap_cell hX 12
    have cx10 : V.cell? ⟨w.heap.size, 10, none⟩ = some (.slice ao fs.length co) := heap_cell hX 10
    clear hV hX
    refine (addLen_any x f.path.size _ (by unfold maxLen; omega)).mono ?_
    rintro e w1 ⟨rfl, hw1⟩
    replace hw1 := hw1.symm
    subst hw1
    go_wp2_with fail
    refine (addLen_any _ (lenO f.data) _ (by unfold maxLen; omega)).mono ?_
    rintro e w1 ⟨rfl, hw1⟩
    replace hw1 := hw1.symm
    subst hw1
    go_wp2_with fail
    refine (addLen_any _ (lenO f.pw) _ (by unfold maxLen; omega)).mono ?_
    rintro e w1 ⟨rfl, hw1⟩
    replace hw1 := hw1.symm
    subst hw1
    go_wp2_with fail
    refine (addCount40 _ f.acl.length _ (by unfold maxLen; omega)).mono ?_
    rintro e w1 ⟨rfl, hw1⟩
    replace hw1 := hw1.symm
    subst hw1
    go_wp2_with fail
    refine (addCount32 _ ks.length _ (by unfold maxLen; omega)).mono ?_
    rintro e w1 ⟨rfl, hw1⟩
    replace hw1 := hw1.symm
    subst hw1
    go_wp2_with fail
    refine (addCount200 _ fs.length _ (by unfold maxLen; omega)).mono ?_
    rintro e w1 ⟨rfl, hw1⟩
    replace hw1 := hw1.symm
    subst hw1
    rw [show x + f.path.size + lenO f.data + lenO f.pw + f.acl.length * 40 + ks.length * 32 + fs.length * 200 = x + own0 f ks.length fs.length by unfold own0; omega]
    by_cases hbig : x + own0 f ks.length fs.length ≤ 1048576
    case neg =>
      rw [sat_big (by omega)]
      go_wp2_with fail
      go_ret
      refine ⟨ret_int ?_, hBV⟩
      rw [sat_big (by have := HT.out; omega)]
      rfl
    have HS0 : Hid (sat (x + own0 f ks.length fs.length) = x + own0 f ks.length fs.length) := sat_small hbig
    have hs0 : decide ((1048576 : Int) < ((sat (x + own0 f ks.length fs.length) : Nat) : Int)) = false := by have := HS0.out; simp; omega
    go_wp2_with fail
    clear hs0
    obtain ⟨y, hy⟩ : ∃ y, y = x + own0 f ks.length fs.length := ⟨_, rfl⟩
    have HY : Hid (y = x + own0 f ks.length fs.length) := hy
    rw [← hy]
    clear HS0 hbig hy
    go_loopw [1, 5] (fun va vj wq => ∃ j : Nat, vj = .int .i64 j ∧ va = .int .i64 (sat (y + aclS f.acl j) : Nat) ∧ j ≤ f.acl.length ∧ wq = V) (fun _ vj _ => f.acl.length - (intOf vj).toNat)
    case atStart => exact ⟨0, rfl, rfl, by omega, rfl⟩
    case round =>
      obtain ⟨j, rfl, rfl, hj, rfl⟩ := hrel
      by_cases hlt : j < f.acl.length
      · have hji : (j : Int) < (f.acl.length : Int) := by omega
        obtain ⟨g, o, rfl, hg, hrng⟩ := HC.out (by omega)
        have hr := hrng j hlt
        have d1 : wr.cell? ⟨g, o + j * 3 + 1, none⟩ = some (.string f.acl[j].s) := (hBV.cell (p := ⟨g, o + j * 3 + 1, none⟩) (by show g < _; omega)).trans (hr 1 _ rfl)
        have d2 : wr.cell? ⟨g, o + j * 3 + 2, none⟩ = some (.string f.acl[j].i) := (hBV.cell (p := ⟨g, o + j * 3 + 2, none⟩) (by show g < _; omega)).trans (hr 2 _ rfl)
        obtain ⟨hss, hsi⟩ := L7.out f.acl[j] (List.getElem_mem hlt)
        clear hr hrng
        go_wp2_with fail
        refine (addLen_any _ f.acl[j].s.size wr hss).mono ?_
        rintro e w1 ⟨rfl, hw1⟩
        replace hw1 := hw1.symm
        subst hw1
        go_wp2_with fail
        refine (addLen_any _ f.acl[j].i.size wr hsi).mono ?_
        rintro e w1 ⟨rfl, hw1⟩
        replace hw1 := hw1.symm
        subst hw1
        go_wp2_with fail
        exact ⟨⟨j + 1, rfl, by rw [aclS_succ hlt, Nat.add_assoc, Nat.add_assoc, Nat.add_assoc], by omega, by first | trivial | rfl⟩, meas hlt⟩
      · obtain rfl : j = f.acl.length := by omega
        obtain ⟨y1, hy1⟩ : ∃ y1, y1 = y + aclS f.acl f.acl.length := ⟨_, rfl⟩
        have HY1 : Hid (y1 = y + aclS f.acl f.acl.length) := hy1
        rw [← hy1]
        clear hy1
        obtain ⟨V', hV'⟩ : ∃ V', V' = wr := ⟨_, rfl⟩
        rw [← hV'] at cx4 cx9 cx5 cx12 cx10 hBV hVs ⊢
        clear hV'
        go_wp2_with fail
        go_loopw [1, 6] (fun va vj wq => ∃ j : Nat, vj = .int .i64 j ∧ va = .int .i64 (sat (y1 + askS ks j) : Nat) ∧ j ≤ ks.length ∧ wq = V') (fun _ vj _ => ks.length - (intOf vj).toNat)
        case atStart => exact ⟨0, rfl, rfl, by omega, rfl⟩
        case round =>
          obtain ⟨j, rfl, rfl, hj, rfl⟩ := hrel
          by_cases hlt : j < ks.length
          · have hji : (j : Int) < (ks.length : Int) := by omega
            obtain ⟨g, o, rfl, hg, hrng⟩ := HK.out (by omega)
            have hr := hrng j hlt
            have d1 : wr.cell? ⟨g, o + j * 2, none⟩ = some (.string ks[j].1) := (hBV.cell (p := ⟨g, o + j * 2 + 0, none⟩) (by show g < _; omega)).trans (hr 0 _ rfl)
            have d2 : wr.cell? ⟨g, o + j * 2 + 1, none⟩ = some (.string ks[j].2) := (hBV.cell (p := ⟨g, o + j * 2 + 1, none⟩) (by show g < _; omega)).trans (hr 1 _ rfl)
            obtain ⟨hss, hsi⟩ := L8.out ks[j] (List.getElem_mem hlt)
            clear hr hrng
            go_wp2_with fail
            refine (addLen_any _ ks[j].1.size wr hss).mono ?_
            rintro e w1 ⟨rfl, hw1⟩
            replace hw1 := hw1.symm
            subst hw1
            go_wp2_with fail
            refine (addLen_any _ ks[j].2.size wr hsi).mono ?_
            rintro e w1 ⟨rfl, hw1⟩
            replace hw1 := hw1.symm
            subst hw1
            go_wp2_with fail
            exact ⟨⟨j + 1, rfl, by rw [askS_succ hlt, Nat.add_assoc, Nat.add_assoc, Nat.add_assoc], by omega, by first | trivial | rfl⟩, meas hlt⟩
          · obtain rfl : j = ks.length := by omega
            obtain ⟨y2, hy2⟩ : ∃ y2, y2 = y1 + askS ks ks.length := ⟨_, rfl⟩
            have HY2 : Hid (y2 = y1 + askS ks ks.length) := hy2
            rw [← hy2]
            clear hy2
            obtain ⟨V2, hV2⟩ : ∃ V2, V2 = wr := ⟨_, rfl⟩
            rw [← hV2] at cx4 cx9 cx5 cx12 cx10 hBV hVs ⊢
            clear hV2
            have HTT : Hid (x + t = y2 + numS ts ts.length) := by show _ = _; rw [HT.out, HY2.out, HY1.out, HY.out]; omega
            go_wp2_with fail
            clear cx4 cx9 cx5 cx12
            go_loopw [1, 7] (fun va vj wq => ∃ j : Nat, vj = .int .i64 j ∧ va = .int .i64 (sat (y2 + numS ts j) : Nat) ∧ j ≤ fs.length ∧ Below V2.heap.size V2 wq) (fun _ vj _ => fs.length - (intOf vj).toNat)
            case atStart => exact ⟨0, rfl, rfl, by omega, Below.refl _ _⟩
            case round =>
              obtain ⟨j, rfl, rfl, hj, hBq⟩ := hrel
              have cq := (hBq.cell (p := ⟨w.heap.size, 10, none⟩) hVs).trans cx10
              have hBw : Below w.heap.size w wr := hBV.trans (hBq.mono (by omega))
              have hle := numS_le ts j
              by_cases hlt : j < fs.length
              · have hji : (j : Int) < (fs.length : Int) := by omega
                by_cases hbig : y2 + numS ts j ≤ 1048576
                · have hs0 : decide ((1048576 : Int) < ((sat (y2 + numS ts j) : Nat) : Int)) = false := by rw [sat_small hbig]; simp; omega
                  obtain ⟨g, o, rfl, hg, hrng⟩ := HO.out (by omega)
                  obtain ⟨cs1, gs1, hin1, hr⟩ := hrng j hlt (by omega)
                  have HIN : Hid (In d n₀ wr cs1 fs[j] gs1 ts[j]) := In.below hin1 (hBw.mono hn)
                  obtain ⟨ad1, aa1, ap1, ao1, ak1', cd1, ca1, cp1, co1, ck1, ks1, ak1, hcs1⟩ := In.form hin1
                  have hnum := numS_succ (l := ts) (j := j) (by omega)
                  obtain ⟨fj, hfj⟩ : ∃ fj, fj = fs[j] := ⟨_, rfl⟩
                  obtain ⟨tj, htj⟩ : ∃ tj, tj = ts[j] := ⟨_, rfl⟩
                  rw [← hfj] at HIN hcs1
                  rw [← htj] at HIN hnum
                  rw [hcs1] at HIN hr
                  have HNUM : Hid (numS ts (j + 1) = numS ts j + tj) := hnum
                  clear hin1 hcs1 hfj htj hnum hrng
                  simp only [cells14] at HIN hr
                  have d0 : wr.cell? ⟨g, o + j * 14, none⟩ = some (.int .u64 fj.zx) := (hBw.cell (p := ⟨g, o + j * 14 + 0, none⟩) (by show g < _; omega)).trans (hr 0 _ rfl)
                  have d1 : wr.cell? ⟨g, o + j * 14 + 1, none⟩ = some (.int .i64 fj.tm) := (hBw.cell (p := ⟨g, o + j * 14 + 1, none⟩) (by show g < _; omega)).trans (hr 1 _ rfl)
                  have d2 : wr.cell? ⟨g, o + j * 14 + 2, none⟩ = some (.int .i32 fj.op) := (hBw.cell (p := ⟨g, o + j * 14 + 2, none⟩) (by show g < _; omega)).trans (hr 2 _ rfl)
                  have d3 : wr.cell? ⟨g, o + j * 14 + 3, none⟩ = some (.string fj.path) := (hBw.cell (p := ⟨g, o + j * 14 + 3, none⟩) (by show g < _; omega)).trans (hr 3 _ rfl)
                  have d4 : wr.cell? ⟨g, o + j * 14 + 4, none⟩ = some (.slice ad1 (lenO fj.data) cd1) := (hBw.cell (p := ⟨g, o + j * 14 + 4, none⟩) (by show g < _; omega)).trans (hr 4 _ rfl)
                  have d5 : wr.cell? ⟨g, o + j * 14 + 5, none⟩ = some (.slice aa1 fj.acl.length ca1) := (hBw.cell (p := ⟨g, o + j * 14 + 5, none⟩) (by show g < _; omega)).trans (hr 5 _ rfl)
                  have d6 : wr.cell? ⟨g, o + j * 14 + 6, none⟩ = some (.int .i32 fj.ver) := (hBw.cell (p := ⟨g, o + j * 14 + 6, none⟩) (by show g < _; omega)).trans (hr 6 _ rfl)
                  have d7 : wr.cell? ⟨g, o + j * 14 + 7, none⟩ = some (.int .i64 fj.ses) := (hBw.cell (p := ⟨g, o + j * 14 + 7, none⟩) (by show g < _; omega)).trans (hr 7 _ rfl)
                  have d8 : wr.cell? ⟨g, o + j * 14 + 8, none⟩ = some (.int .i32 fj.tmo) := (hBw.cell (p := ⟨g, o + j * 14 + 8, none⟩) (by show g < _; omega)).trans (hr 8 _ rfl)
                  have d9 : wr.cell? ⟨g, o + j * 14 + 9, none⟩ = some (.slice ap1 (lenO fj.pw) cp1) := (hBw.cell (p := ⟨g, o + j * 14 + 9, none⟩) (by show g < _; omega)).trans (hr 9 _ rfl)
                  have d10 : wr.cell? ⟨g, o + j * 14 + 10, none⟩ = some (.slice ao1 gs1.length co1) := (hBw.cell (p := ⟨g, o + j * 14 + 10, none⟩) (by show g < _; omega)).trans (hr 10 _ rfl)
                  have d11 : wr.cell? ⟨g, o + j * 14 + 11, none⟩ = some (.bool fj.seq) := (hBw.cell (p := ⟨g, o + j * 14 + 11, none⟩) (by show g < _; omega)).trans (hr 11 _ rfl)
                  have d12 : wr.cell? ⟨g, o + j * 14 + 12, none⟩ = some (.slice ak1' ks1.length ck1) := (hBw.cell (p := ⟨g, o + j * 14 + 12, none⟩) (by show g < _; omega)).trans (hr 12 _ rfl)
                  have d13 : wr.cell? ⟨g, o + j * 14 + 13, none⟩ = some (.int .i64 ak1) := (hBw.cell (p := ⟨g, o + j * 14 + 13, none⟩) (by show g < _; omega)).trans (hr 13 _ rfl)
                  have hBs := hBq.size
                  have hnw : n₀ ≤ wr.heap.size := by omega
                  clear hr
                  go_wp2_with fail
                  refine (IH.out _ fj gs1 tj (y2 + numS ts j) wr HIN.out hnw).mono ?_
                  rintro e w6 ⟨rfl, hB6⟩
                  have HB6 : Hid (Below V2.heap.size V2 w6) := hBq.trans (hB6.mono hBs)
                  clear hB6
                  go_wp2_with fail
                  exact ⟨⟨j + 1, rfl, by rw [HNUM.out, Nat.add_assoc], by omega, HB6.out⟩, meas hlt⟩
                · have hs0 : (1048576 : Int) < ((sat (y2 + numS ts j) : Nat) : Int) := by rw [sat_big (by omega)]; omega
                  go_wp2_with fail
                  go_ret
                  refine ⟨ret_int ?_, hBw⟩
                  rw [HTT.out, sat_big (by omega), sat_big (by omega)]
              · obtain rfl : j = fs.length := by omega
                go_wp2_with fail
                go_ret
                refine ⟨ret_int ?_, hBw⟩
                rw [HTT.out, ← htl]

end Go.Proofs.Qxb6609425a
