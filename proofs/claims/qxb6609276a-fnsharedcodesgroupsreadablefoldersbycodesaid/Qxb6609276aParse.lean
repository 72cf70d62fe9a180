/-
  zzParseFolderRecords: the records of the packed bytes.
-/
import Derived.Test.Qxb6609276aShared2
import Derived.Deep.AppendLies
import Derived.Deep.DeepMust
namespace Go.Proofs.Qxb6609276a
open Go.RowKit Go.Shelf
set_option linter.unusedSimpArgs false
set_option linter.unusedVariables false

theorem zzUv_none (g o c off : Nat) (l : List UInt8) (w : World) (hn : l.length ≤ 4096) (hoff : off ≤ l.length) (hc : BytesAt w g o l) (h : uv (l.drop off) = none) :
    Calls Try.prog 11 #[.slice (some ⟨g, o, none⟩) l.length c, .int .i64 off] w fun e w' => e = .returned (.tuple #[.int .i64 0, .int .i64 0, .bool false]) ∧ w' = w := by
  have := zzUvarint_any g o c off l w hn hoff hc
  rwa [h] at this

theorem zzUv_some (g o c off : Nat) (l : List UInt8) (w : World) (hn : l.length ≤ 4096) (hoff : off ≤ l.length) (hc : BytesAt w g o l) {v k : Nat} (h : uv (l.drop off) = some (v, k)) :
    Calls Try.prog 11 #[.slice (some ⟨g, o, none⟩) l.length c, .int .i64 off] w fun e w' => e = .returned (.tuple #[.int .i64 v, .int .i64 ((off + k : Nat) : Int), .bool true]) ∧ w' = w := by
  have := zzUvarint_any g o c off l w hn hoff hc
  rwa [h] at this

theorem results_tmp4 {fn : Func} {t u v x : Tmp} (h : fn.results = #[.tmp t, .tmp u, .tmp v, .tmp x]) (tmps : Array Value) (P : Program) (w : World) :
    (results fn tmps).run P w = .ok (.tuple #[tmps.getD t undef, tmps.getD u undef, tmps.getD v undef, tmps.getD x undef]) w := by
  simp [results, h]

def strV (l : List UInt8) : Value := .string (bs l)

/-- u's row is not v's. -/
def Ap (u v : Value) : Prop := ∀ k, u.ownBlock = some k → v.ownBlock ≠ some k

theorem Ap.symm {u v : Value} (h : Ap u v) : Ap v u := fun k h1 h2 => h k h2 h1

/-- Three rows of the call's own, apart from each other. -/
structure Rows3 (n₀ : Nat) (W : World) (vn vc vs : Value) (n1 n2 n3 : Nat) (xs ys zs : List Value) : Prop where
  rn : W.ownsRow n₀ 9 1 vn n1 xs
  rc : W.ownsRow n₀ 9 1 vc n2 ys
  rs : W.ownsRow n₀ 3 1 vs n3 zs
  a1 : Ap vn vc
  a2 : Ap vn vs
  a3 : Ap vc vs

theorem row_kept {W W' : World} {n₀ n sz : Nat} {e : TypeId} {u v : Value} {xs : List Value} (h : W.ownsRow n₀ e sz v n xs) (ha : Ap u v) (hg : W.grownBy W' u.ownBlock) : W'.ownsRow n₀ e sz v n xs := by
  refine h.kept hg ?_
  cases hv : v.ownBlock with
  | none => exact .inl rfl
  | some k => exact .inr (fun e => ha k e.symm hv)

theorem Ap.moved {W : World} {n₀ n sz g m c : Nat} {e : TypeId} {u v : Value} {xs : List Value} (ha : Ap u v) (h : W.ownsRow n₀ e sz v n xs) (hg : u.ownBlock = some g ∨ g = W.heap.size) : Ap (.slice (some ⟨g, 0, none⟩) m c) v := by
  intro k hk hv
  have hk' : g = k := by simpa [Value.ownBlock] using hk
  subst hk'
  rcases hg with hg | hg
  · exact ha g hg hv
  · have := (h.lt g hv).2
    omega

theorem Rows3.app1 {n₀ n1 n2 n3 g m H : Nat} {W W1 : World} {vn vc vs x : Value} {xs ys zs : List Value} {o : Obj} {cap : Nat} (h : Rows3 n₀ W vn vc vs n1 n2 n3 xs ys zs)
    (h1 : W1.ownsRow n₀ 9 1 (.slice (some ⟨g, 0, none⟩) m cap) m (xs ++ [x])) (hg : (W.alloc o).grownBy W1 vn.ownBlock) (hl : vn.ownBlock = some g ∨ g = H) (hH : (W.alloc o).heap.size = H) :
    Rows3 n₀ W1 (.slice (some ⟨g, 0, none⟩) m cap) vc vs m n2 n3 (xs ++ [x]) ys zs := by
  subst hH
  exact ⟨h1, row_kept (h.rc.alloc o) h.a1 hg, row_kept (h.rs.alloc o) h.a2 hg, h.a1.moved (h.rc.alloc o) hl, h.a2.moved (h.rs.alloc o) hl, h.a3⟩
theorem Rows3.app2 {n₀ n1 n2 n3 g m H : Nat} {W W1 : World} {vn vc vs x : Value} {xs ys zs : List Value} {o : Obj} {cap : Nat} (h : Rows3 n₀ W vn vc vs n1 n2 n3 xs ys zs)
    (h1 : W1.ownsRow n₀ 9 1 (.slice (some ⟨g, 0, none⟩) m cap) m (ys ++ [x])) (hg : (W.alloc o).grownBy W1 vc.ownBlock) (hl : vc.ownBlock = some g ∨ g = H) (hH : (W.alloc o).heap.size = H) :
    Rows3 n₀ W1 vn (.slice (some ⟨g, 0, none⟩) m cap) vs n1 m n3 xs (ys ++ [x]) zs := by
  subst hH
  exact ⟨row_kept (h.rn.alloc o) h.a1.symm hg, h1, row_kept (h.rs.alloc o) h.a3 hg, (h.a1.symm.moved (h.rn.alloc o) hl).symm, h.a2, h.a3.moved (h.rs.alloc o) hl⟩
theorem Rows3.app3 {n₀ n1 n2 n3 g m H : Nat} {W W1 : World} {vn vc vs x : Value} {xs ys zs : List Value} {o : Obj} {cap : Nat} (h : Rows3 n₀ W vn vc vs n1 n2 n3 xs ys zs)
    (h1 : W1.ownsRow n₀ 3 1 (.slice (some ⟨g, 0, none⟩) m cap) m (zs ++ [x])) (hg : (W.alloc o).grownBy W1 vs.ownBlock) (hl : vs.ownBlock = some g ∨ g = H) (hH : (W.alloc o).heap.size = H) :
    Rows3 n₀ W1 vn vc (.slice (some ⟨g, 0, none⟩) m cap) n1 n2 m xs ys (zs ++ [x]) := by
  subst hH
  exact ⟨row_kept (h.rn.alloc o) h.a2.symm hg, row_kept (h.rc.alloc o) h.a3.symm hg, h1, h.a1, (h.a2.symm.moved (h.rn.alloc o) hl).symm, (h.a3.symm.moved (h.rc.alloc o) hl).symm⟩

theorem row_slice {W : World} {n₀ n sz : Nat} {e : TypeId} {v : Value} {xs : List Value} (h : W.ownsRow n₀ e sz v n xs) : ∃ a cap, v = .slice a n cap ∧ (0 < n → ∃ g, a = some ⟨g, 0, none⟩) := by
  rcases h.2 with ⟨rfl, rfl⟩ | ⟨g, cap, cur, rfl, _⟩
  · exact ⟨none, 0, rfl, fun h => by omega⟩
  · exact ⟨_, cap, rfl, fun _ => ⟨g, rfl⟩⟩

theorem row_below {W W1 w : World} {n₀ : Nat} {o : Obj} {n sz : Nat} {e : TypeId} {v : Value} {xs : List Value} (hB : Below n₀ w W) (h : W.ownsRow n₀ e sz v n xs) (hg : (W.alloc o).grownBy W1 v.ownBlock) (hs : n₀ ≤ W.heap.size) : Below n₀ w W1 :=
  (hB.alloc hs o).grown hg (by simp; omega) (fun k hk => (h.lt k hk).1)

/-- What it hands back. -/
def ParseEnd (l : List UInt8) (w : World) (e : Ending) (w' : World) : Prop :=
  (e = .returned (.tuple #[.slice none 0 0, .slice none 0 0, .slice none 0 0, .bool false]) ∧ Below w.heap.size w w') ∨
  ∃ R vn vc vs, e = .returned (.tuple #[vn, vc, vs, .bool true]) ∧ Chain l 0 R l.length ∧ Rows3 w.heap.size w' vn vc vs R.length R.length R.length (R.map fun r => strV (r.name l)) (R.map fun r => strV (r.code l)) (R.map fun r => .int .i64 (r.off : Int)) ∧ Below w.heap.size w w'

theorem parse_none (a : Option Addr) (c : Nat) (w : World) : Calls Try.prog 5 #[.slice a 0 c] w (ParseEnd [] w) := by
  go_enter Try.func5, Try.ntmps5
  go_wp2
  refine wp_loop_rounds 1 ?_
  rw [rounds_succ]
  go_wp2
  try simp only [Exit.inBlock, Exit.then]
  refine bodyPost_ret (results_tmp4 rfl _ _ _) rfl ?_
  exact .inr ⟨[], _, _, _, rfl, rfl, ⟨World.ownsRow_nil _ _ _ _, World.ownsRow_nil _ _ _ _, World.ownsRow_nil _ _ _ _, by simp [Ap, Value.ownBlock], by simp [Ap, Value.ownBlock], by simp [Ap, Value.ownBlock]⟩, Below.refl _ _⟩

/-- The loop's relation. -/
def PRel (l : List UInt8) (n₀ z : Nat) (R : List Rc) (vn vc vs : Value) (wr : World) : Prop :=
  Chain l 0 R z ∧ z ≤ l.length ∧ Rows3 n₀ wr vn vc vs R.length R.length R.length (R.map fun r => strV (r.name l)) (R.map fun r => strV (r.code l)) (R.map fun r => .int .i64 (r.off : Int))

theorem PRel.next {l : List UInt8} {n₀ z : Nat} {R : List Rc} {vn vc vs v1 v2 v3 : Value} {wr W3 : World} {r : Rc} {m1 m2 m3 : Nat} (hP : PRel l n₀ z R vn vc vs wr) (hr : RecAt l r) (hro : r.off = z)
    (h3 : Rows3 n₀ W3 v1 v2 v3 (R.length + 1) (R.length + 1) (R.length + 1) ((R.map fun r => strV (r.name l)) ++ [strV (r.name l)]) ((R.map fun r => strV (r.code l)) ++ [strV (r.code l)]) ((R.map fun r => .int .i64 (r.off : Int)) ++ [.int .i64 (r.off : Int)])) :
    PRel l n₀ r.nxt (R ++ [r]) v1 v2 v3 W3 :=
  ⟨hP.1.snoc hro hr, hr.lt.2.2.2, by simpa using h3⟩

theorem parse_up {l : List UInt8} {n₀ z q : Nat} {R : List Rc} {vn vc vs v1 v2 v3 : Value} {wr W3 w : World} {r : Rc} {p : Int} {nm cd : List UInt8} (hP : PRel l n₀ z R vn vc vs wr) (hq : R.length = q) (hr : RecAt l r) (hro : r.off = z) (hp : p = ((r.nxt : Nat) : Int)) (hnm : nm = r.name l) (hcd : cd = r.code l)
    (h3 : Rows3 n₀ W3 v1 v2 v3 (q + 1) (q + 1) (q + 1) ((R.map fun r => strV (r.name l)) ++ [strV nm]) ((R.map fun r => strV (r.code l)) ++ [strV cd]) ((R.map fun r => .int .i64 (r.off : Int)) ++ [.int .i64 (z : Int)])) (hB : Below n₀ w W3) :
    (∃ (R : List Rc) (z' : Nat), Value.int .i64 p = Value.int .i64 z' ∧ PRel l n₀ z' R v1 v2 v3 W3 ∧ Below n₀ w W3) ∧ l.length - (intOf (Value.int .i64 p)).toNat < l.length - (intOf (Value.int .i64 (z : Int))).toNat := by
  subst hq hp hnm hcd
  refine ⟨⟨R ++ [r], r.nxt, rfl, hP.next (m1 := 0) (m2 := 0) (m3 := 0) hr hro (by rw [hro]; exact h3), hB⟩, ?_⟩
  have := hr.lt
  simp only [intOf, Int.toNat_natCast]
  omega

theorem Try.info9 : (Try.prog.info? 9).map (fun i => (i.zero, i.size, i.bytes)) = some (some (.string ⟨#[]⟩), 1, 16) := by kernel_rfl

set_option maxRecDepth 100000 in
set_option maxHeartbeats 2000000 in
theorem parse_any (g o c : Nat) (l : List UInt8) (w : World) (hn : l.length ≤ 4096) (hcap : l.length ≤ c) (hcm : c ≤ maxLen) (hc : BytesAt w g o l) (hg : g < w.heap.size) :
    Calls Try.prog 5 #[.slice (some ⟨g, o, none⟩) l.length c] w (ParseEnd l w) := by
  unfold maxLen at hcm
  obtain ⟨i3, hi3, hz30, hz31, hz32⟩ := info_parts Try.info3
  obtain ⟨i9, hi9, hz90, hz91, hz92⟩ := info_parts Try.info9
  have HC : Hid (BytesAt w g o l) := hc
  clear hc
  go_enter Try.func5, Try.ntmps5
  go_wp2
  go_loopw [6, 7, 8, 9] (fun vn vc vs vz wr => ∃ (R : List Rc) (z : Nat), vz = .int .i64 z ∧ PRel l w.heap.size z R vn vc vs wr ∧ Below w.heap.size w wr) (fun _ _ _ vz _ => l.length - (intOf vz).toNat)
  case atStart => exact ⟨[], 0, rfl, ⟨rfl, by omega, ⟨World.ownsRow_nil _ _ _ _, World.ownsRow_nil _ _ _ _, World.ownsRow_nil _ _ _ _, by simp [Ap, Value.ownBlock], by simp [Ap, Value.ownBlock], by simp [Ap, Value.ownBlock]⟩⟩, Below.refl _ _⟩
  case round =>
    obtain ⟨R, z, rfl, hP, hB⟩ := hrel
    have HB : Hid (BytesAt wr g o l) := fun j hj => cell_later hB (HC.out j hj)
    have hzl := hP.2.1
    by_cases hz : z < l.length
    · have hzi : (z : Int) < (l.length : Int) := by omega
      rcases hu : uv (l.drop z) with _ | ⟨n, k⟩
      · have HU : Hid (uv (l.drop z) = none) := hu
        clear hu
        go_wp2_with (go_at_call 11; refine (zzUv_none g o c z l _ hn hzl HB.out HU.out).mono ?_; rintro e w' ⟨rfl, rfl⟩)
        try simp only [Exit.inBlock, Exit.then]
        refine bodyPost_ret (results_tmp4 rfl _ _ _) rfl ?_
        exact .inl ⟨rfl, hB⟩
      · have HU : Hid (uv (l.drop z) = some (n, k)) := hu
        have hb := uv_bounds hu
        rw [List.length_drop] at hb
        clear hu
        by_cases hn1 : n = 0
        · subst hn1
          go_wp2_with (go_at_call 11; refine (zzUv_some g o c z l _ hn hzl HB.out HU.out).mono ?_; rintro e w' ⟨rfl, rfl⟩)
          try simp only [Exit.inBlock, Exit.then]
          refine bodyPost_ret (results_tmp4 rfl _ _ _) rfl ?_
          exact .inl ⟨rfl, hB⟩
        · have hn1i : decide ((n : Int) < 1) = false := by simp; omega
          by_cases hn2 : z + k + n ≤ l.length
          · have hn2i : decide ((l.length : Int) - ((z : Int) + (k : Int)) < (n : Int)) = false := by simp; omega
            have hz2 : z + k + n ≤ l.length := hn2
            have hcv1 : ∀ cap, (convert 22 9 (.slice (some ⟨g, o + (z + k), none⟩) n cap)).run Try.prog wr = .ok (.string (bs (sub l (z + k) n))) wr := fun cap => by
              have := convert_bs (l := sub l (z + k) n) cap (w := wr) (g := g) (o := o + (z + k)) (by
                intro j hj
                rw [length_sub hz2] at hj
                have := HB.out (z + k + j) (by omega)
                rw [show o + (z + k) + j = o + (z + k + j) by omega, this]
                simp [sub])
              rwa [length_sub hz2] at this
            rcases hu2 : uv (l.drop (z + k + n)) with _ | ⟨m, k2⟩
            · have HU2 : Hid (uv (l.drop (z + k + n)) = none) := hu2
              clear hu2
              go_wp2_with fail
              refine (zzUv_some g o c z l _ hn hzl HB.out HU.out).mono ?_
              rintro e w' ⟨rfl, rfl⟩
              go_wp2_with fail
              refine (zzUv_none g o c (z + k + n) l _ hn hz2 HB.out HU2.out).mono ?_
              rintro e w' ⟨rfl, rfl⟩
              go_wp2_with fail
              try simp only [Exit.inBlock, Exit.then]
              refine bodyPost_ret (results_tmp4 rfl _ _ _) rfl ?_
              exact .inl ⟨rfl, hB⟩
            · have HU2 : Hid (uv (l.drop (z + k + n)) = some (m, k2)) := hu2
              have hb2 := uv_bounds hu2
              rw [List.length_drop] at hb2
              clear hu2
              by_cases hm2 : z + k + n + k2 + m ≤ l.length
              · have hm2i : decide ((l.length : Int) - ((z : Int) + (k : Int) + (n : Int) + (k2 : Int)) < (m : Int)) = false := by simp; omega
                have hr : RecAt l ⟨z, z + k, n, z + k + n + k2, m⟩ := ⟨⟨k, HU.out, rfl⟩, by show 1 ≤ n; omega, hz2, ⟨k2, HU2.out, rfl⟩, hm2⟩
                obtain ⟨an, cn, rfl, han⟩ := row_slice hP.2.2.rn
                have hql : R.length ≤ 4096 := by have := hP.1.le; omega
                have hs0 := hB.size
                have hrows := hP.2.2
                have HP : Hid (PRel l w.heap.size z R (.slice an R.length cn) u7 u8 wr) := hP
                clear hP
                by_cases hm0 : m = 0
                · subst hm0
                  have hcv2 : ∀ A cap, (convert 22 9 (.slice A 0 cap)).run Try.prog wr = .ok (.string ⟨#[]⟩) wr := fun A cap => by
                    rw [run_convert_bytes_string wr 22 9 5 _ 0 cap Try.underlying22 Try.underlying5 Try.underlying9]
                    cases A <;> simp [Conv.bytesToString, loadCells] <;> rfl
                  have hrA : Hid (RecAt l ⟨z, z + k, n, z + k + n + k2, 0⟩) := hr
                  clear hr
                  cases hq : R.length with
                  | zero =>
                    rw [hq] at hrows
                    go_wp2_with fail
                    refine (zzUv_some g o c z l _ hn hzl HB.out HU.out).mono ?_
                    rintro e w' ⟨rfl, hw'⟩
                    replace hw' := hw'.symm
                    subst hw'
                    go_wp2_with fail
                    refine (zzUv_some g o c (z + k + n) l _ hn hz2 HB.out HU2.out).mono ?_
                    rintro e w' ⟨rfl, hw'⟩
                    replace hw' := hw'.symm
                    subst hw'
                    go_wp2_with (first
                      | (at_builtin; first
                        | (refine wpList_append_lies _ rfl (.tmp 98) (.tmp 100) 25 rfl w.heap.size 9 i9 (.string ⟨#[]⟩) 1 16 Try.underlying25 hi9 hz90 hz91 hz92 rfl (by decide) _ _ _ rfl (hrows.rn.alloc _) ⟨wr.heap.size, 0, none⟩ 1 1 [strV (sub l (z + k) n)] rfl rfl (cell_one_new _ _ _) (fun x hx => by simp at hx; subst hx; rfl) (by omega) (by unfold maxLen; omega) (by omega) (by simp; omega) _ rfl ?_; intro g1 cap1 w1 ho1 hg1 hl1 hlt1; have hrows1 := hrows.app1 ho1 hg1 hl1 rfl; have hB1 := row_below hB hrows.rn hg1 hs0; have hs1 := hB1.size)
                        | (refine wpList_append_lies _ rfl (.tmp 102) (.tmp 104) 25 rfl w.heap.size 9 i9 (.string ⟨#[]⟩) 1 16 Try.underlying25 hi9 hz90 hz91 hz92 rfl (by decide) _ _ _ rfl (hrows1.rc.alloc _) ⟨w1.heap.size, 0, none⟩ 1 1 [strV (sub l (z + k) n)] rfl rfl (cell_one_new _ _ _) (fun x hx => by simp at hx; subst hx; rfl) (by omega) (by unfold maxLen; omega) (by omega) (by simp; omega) _ rfl ?_; intro g2 cap2 w2 ho2 hg2 hl2 hlt2; have hrows2 := hrows1.app2 ho2 hg2 hl2 rfl; have hB2 := row_below hB1 hrows1.rc hg2 hs1; have hs2 := hB2.size)
                        | (refine wpList_append_lies _ rfl (.tmp 106) (.tmp 108) 23 rfl w.heap.size 3 i3 (.int .i64 0) 1 8 Try.underlying23 hi3 hz30 hz31 hz32 rfl (by decide) _ _ _ rfl (hrows2.rs.alloc _) ⟨w2.heap.size, 0, none⟩ 1 1 [.int .i64 (z : Int)] rfl rfl (cell_one_new _ _ _) (fun x hx => by simp at hx; subst hx; rfl) (by omega) (by unfold maxLen; omega) (by omega) (by simp; omega) _ rfl ?_; intro g3 cap3 w3 ho3 hg3 hl3 hlt3; have hrows3 := hrows2.app3 ho3 hg3 hl3 rfl; have hB3 := row_below hB2 hrows2.rs hg3 hs2)
                        | go_must (fail)))
                    all_goals exact parse_up HP.out hq hrA.out rfl (by simp [Rc.nxt]; try omega) rfl (by simp [Rc.code, Rc.cp, Rc.cl]) hrows3 hB3
                  | succ q =>
                    rw [hq] at hrows
                    obtain ⟨gn, rfl⟩ := han (by omega)
                    have hqR : q < R.length := by omega
                    have cN : wr.cell? ⟨gn, q, none⟩ = some (.string (bs ((R[q]'hqR).name l))) := by rw [hrows.rn.cellAt q (by omega)]; simp [hqR, strV]
                    obtain ⟨last, hlast⟩ : ∃ last, last = (R[q]'hqR).name l := ⟨_, rfl⟩
                    rw [← hlast] at cN
                    clear hlast
                    have HQ : Hid (R.length = q + 1) := hq
                    clear hq
                    go_wp2_with fail
                    refine (zzUv_some g o c z l _ hn hzl HB.out HU.out).mono ?_
                    rintro e w' ⟨rfl, hw'⟩
                    replace hw' := hw'.symm
                    subst hw'
                    go_wp2_with fail
                    refine (zzUv_some g o c (z + k + n) l _ hn hz2 HB.out HU2.out).mono ?_
                    rintro e w' ⟨rfl, hw'⟩
                    replace hw' := hw'.symm
                    subst hw'
                    go_wp2_with (first
                      | (at_builtin; first
                        | (refine wpList_append_lies _ rfl (.tmp 98) (.tmp 100) 25 rfl w.heap.size 9 i9 (.string ⟨#[]⟩) 1 16 Try.underlying25 hi9 hz90 hz91 hz92 rfl (by decide) _ _ _ rfl (hrows.rn.alloc _) ⟨wr.heap.size, 0, none⟩ 1 1 [strV (sub l (z + k) n)] rfl rfl (cell_one_new _ _ _) (fun x hx => by simp at hx; subst hx; rfl) (by omega) (by unfold maxLen; omega) (by omega) (by simp; omega) _ rfl ?_; intro g1 cap1 w1 ho1 hg1 hl1 hlt1; have hrows1 := hrows.app1 ho1 hg1 hl1 rfl; have hB1 := row_below hB hrows.rn hg1 hs0; have hs1 := hB1.size)
                        | (refine wpList_append_lies _ rfl (.tmp 102) (.tmp 104) 25 rfl w.heap.size 9 i9 (.string ⟨#[]⟩) 1 16 Try.underlying25 hi9 hz90 hz91 hz92 rfl (by decide) _ _ _ rfl (hrows1.rc.alloc _) ⟨w1.heap.size, 0, none⟩ 1 1 [strV (sub l (z + k) n)] rfl rfl (cell_one_new _ _ _) (fun x hx => by simp at hx; subst hx; rfl) (by omega) (by unfold maxLen; omega) (by omega) (by simp; omega) _ rfl ?_; intro g2 cap2 w2 ho2 hg2 hl2 hlt2; have hrows2 := hrows1.app2 ho2 hg2 hl2 rfl; have hB2 := row_below hB1 hrows1.rc hg2 hs1; have hs2 := hB2.size)
                        | (refine wpList_append_lies _ rfl (.tmp 106) (.tmp 108) 23 rfl w.heap.size 3 i3 (.int .i64 0) 1 8 Try.underlying23 hi3 hz30 hz31 hz32 rfl (by decide) _ _ _ rfl (hrows2.rs.alloc _) ⟨w2.heap.size, 0, none⟩ 1 1 [.int .i64 (z : Int)] rfl rfl (cell_one_new _ _ _) (fun x hx => by simp at hx; subst hx; rfl) (by omega) (by unfold maxLen; omega) (by omega) (by simp; omega) _ rfl ?_; intro g3 cap3 w3 ho3 hg3 hl3 hlt3; have hrows3 := hrows2.app3 ho3 hg3 hl3 rfl; have hB3 := row_below hB2 hrows2.rs hg3 hs2)
                        | go_must (fail)))
                    all_goals first
                      | exact parse_up HP.out HQ.out hrA.out rfl (by simp [Rc.nxt]; try omega) rfl (by simp [Rc.code, Rc.cp, Rc.cl]) hrows3 hB3
                      | (try simp only [Exit.inBlock, Exit.then]
                         refine bodyPost_ret (results_tmp4 rfl _ _ _) rfl ?_
                         exact .inl ⟨rfl, hB⟩)
                · have hm0i : ((m : Int) == 0) = false := by simp; omega
                  have HM0 : Hid (m ≠ 0) := hm0
                  have hcv2 : ∀ cap, (convert 22 9 (.slice (some ⟨g, o + (z + k + n + k2), none⟩) m cap)).run Try.prog wr = .ok (.string (bs (sub l (z + k + n + k2) m))) wr := fun cap => by
                    have := convert_bs (l := sub l (z + k + n + k2) m) cap (w := wr) (g := g) (o := o + (z + k + n + k2)) (by
                      intro j hj
                      rw [length_sub hm2] at hj
                      have := HB.out (z + k + n + k2 + j) (by omega)
                      rw [show o + (z + k + n + k2) + j = o + (z + k + n + k2 + j) by omega, this]
                      simp [sub])
                    rwa [length_sub hm2] at this
                  have hrA : Hid (RecAt l ⟨z, z + k, n, z + k + n + k2, m⟩) := hr
                  clear hr
                  cases hq : R.length with
                  | zero =>
                    rw [hq] at hrows
                    go_wp2_with fail
                    refine (zzUv_some g o c z l _ hn hzl HB.out HU.out).mono ?_
                    rintro e w' ⟨rfl, hw'⟩
                    replace hw' := hw'.symm
                    subst hw'
                    go_wp2_with fail
                    refine (zzUv_some g o c (z + k + n) l _ hn hz2 HB.out HU2.out).mono ?_
                    rintro e w' ⟨rfl, hw'⟩
                    replace hw' := hw'.symm
                    subst hw'
                    go_wp2_with (first
                      | (at_builtin; first
                        | (refine wpList_append_lies _ rfl (.tmp 98) (.tmp 100) 25 rfl w.heap.size 9 i9 (.string ⟨#[]⟩) 1 16 Try.underlying25 hi9 hz90 hz91 hz92 rfl (by decide) _ _ _ rfl (hrows.rn.alloc _) ⟨wr.heap.size, 0, none⟩ 1 1 [strV (sub l (z + k) n)] rfl rfl (cell_one_new _ _ _) (fun x hx => by simp at hx; subst hx; rfl) (by omega) (by unfold maxLen; omega) (by omega) (by simp; omega) _ rfl ?_; intro g1 cap1 w1 ho1 hg1 hl1 hlt1; have hrows1 := hrows.app1 ho1 hg1 hl1 rfl; have hB1 := row_below hB hrows.rn hg1 hs0; have hs1 := hB1.size)
                        | (refine wpList_append_lies _ rfl (.tmp 102) (.tmp 104) 25 rfl w.heap.size 9 i9 (.string ⟨#[]⟩) 1 16 Try.underlying25 hi9 hz90 hz91 hz92 rfl (by decide) _ _ _ rfl (hrows1.rc.alloc _) ⟨w1.heap.size, 0, none⟩ 1 1 [strV (sub l (z + k + n + k2) m)] rfl rfl (cell_one_new _ _ _) (fun x hx => by simp at hx; subst hx; rfl) (by omega) (by unfold maxLen; omega) (by omega) (by simp; omega) _ rfl ?_; intro g2 cap2 w2 ho2 hg2 hl2 hlt2; have hrows2 := hrows1.app2 ho2 hg2 hl2 rfl; have hB2 := row_below hB1 hrows1.rc hg2 hs1; have hs2 := hB2.size)
                        | (refine wpList_append_lies _ rfl (.tmp 106) (.tmp 108) 23 rfl w.heap.size 3 i3 (.int .i64 0) 1 8 Try.underlying23 hi3 hz30 hz31 hz32 rfl (by decide) _ _ _ rfl (hrows2.rs.alloc _) ⟨w2.heap.size, 0, none⟩ 1 1 [.int .i64 (z : Int)] rfl rfl (cell_one_new _ _ _) (fun x hx => by simp at hx; subst hx; rfl) (by omega) (by unfold maxLen; omega) (by omega) (by simp; omega) _ rfl ?_; intro g3 cap3 w3 ho3 hg3 hl3 hlt3; have hrows3 := hrows2.app3 ho3 hg3 hl3 rfl; have hB3 := row_below hB2 hrows2.rs hg3 hs2)
                        | go_must (fail)))
                    all_goals exact parse_up HP.out hq hrA.out rfl (by simp [Rc.nxt]; try omega) rfl (by simp [Rc.code, Rc.cp, Rc.cl, HM0.out]) hrows3 hB3
                  | succ q =>
                    rw [hq] at hrows
                    obtain ⟨gn, rfl⟩ := han (by omega)
                    have hqR : q < R.length := by omega
                    have cN : wr.cell? ⟨gn, q, none⟩ = some (.string (bs ((R[q]'hqR).name l))) := by rw [hrows.rn.cellAt q (by omega)]; simp [hqR, strV]
                    obtain ⟨last, hlast⟩ : ∃ last, last = (R[q]'hqR).name l := ⟨_, rfl⟩
                    rw [← hlast] at cN
                    clear hlast
                    have HQ : Hid (R.length = q + 1) := hq
                    clear hq
                    go_wp2_with fail
                    refine (zzUv_some g o c z l _ hn hzl HB.out HU.out).mono ?_
                    rintro e w' ⟨rfl, hw'⟩
                    replace hw' := hw'.symm
                    subst hw'
                    go_wp2_with fail
                    refine (zzUv_some g o c (z + k + n) l _ hn hz2 HB.out HU2.out).mono ?_
                    rintro e w' ⟨rfl, hw'⟩
                    replace hw' := hw'.symm
                    subst hw'
                    go_wp2_with (first
                      | (at_builtin; first
                        | (refine wpList_append_lies _ rfl (.tmp 98) (.tmp 100) 25 rfl w.heap.size 9 i9 (.string ⟨#[]⟩) 1 16 Try.underlying25 hi9 hz90 hz91 hz92 rfl (by decide) _ _ _ rfl (hrows.rn.alloc _) ⟨wr.heap.size, 0, none⟩ 1 1 [strV (sub l (z + k) n)] rfl rfl (cell_one_new _ _ _) (fun x hx => by simp at hx; subst hx; rfl) (by omega) (by unfold maxLen; omega) (by omega) (by simp; omega) _ rfl ?_; intro g1 cap1 w1 ho1 hg1 hl1 hlt1; have hrows1 := hrows.app1 ho1 hg1 hl1 rfl; have hB1 := row_below hB hrows.rn hg1 hs0; have hs1 := hB1.size)
                        | (refine wpList_append_lies _ rfl (.tmp 102) (.tmp 104) 25 rfl w.heap.size 9 i9 (.string ⟨#[]⟩) 1 16 Try.underlying25 hi9 hz90 hz91 hz92 rfl (by decide) _ _ _ rfl (hrows1.rc.alloc _) ⟨w1.heap.size, 0, none⟩ 1 1 [strV (sub l (z + k + n + k2) m)] rfl rfl (cell_one_new _ _ _) (fun x hx => by simp at hx; subst hx; rfl) (by omega) (by unfold maxLen; omega) (by omega) (by simp; omega) _ rfl ?_; intro g2 cap2 w2 ho2 hg2 hl2 hlt2; have hrows2 := hrows1.app2 ho2 hg2 hl2 rfl; have hB2 := row_below hB1 hrows1.rc hg2 hs1; have hs2 := hB2.size)
                        | (refine wpList_append_lies _ rfl (.tmp 106) (.tmp 108) 23 rfl w.heap.size 3 i3 (.int .i64 0) 1 8 Try.underlying23 hi3 hz30 hz31 hz32 rfl (by decide) _ _ _ rfl (hrows2.rs.alloc _) ⟨w2.heap.size, 0, none⟩ 1 1 [.int .i64 (z : Int)] rfl rfl (cell_one_new _ _ _) (fun x hx => by simp at hx; subst hx; rfl) (by omega) (by unfold maxLen; omega) (by omega) (by simp; omega) _ rfl ?_; intro g3 cap3 w3 ho3 hg3 hl3 hlt3; have hrows3 := hrows2.app3 ho3 hg3 hl3 rfl; have hB3 := row_below hB2 hrows2.rs hg3 hs2)
                        | go_must (fail)))
                    all_goals first
                      | exact parse_up HP.out HQ.out hrA.out rfl (by simp [Rc.nxt]; try omega) rfl (by simp [Rc.code, Rc.cp, Rc.cl, HM0.out]) hrows3 hB3
                      | (try simp only [Exit.inBlock, Exit.then]
                         refine bodyPost_ret (results_tmp4 rfl _ _ _) rfl ?_
                         exact .inl ⟨rfl, hB⟩)
              · have hm2i : (l.length : Int) - ((z : Int) + (k : Int) + (n : Int) + (k2 : Int)) < (m : Int) := by omega
                go_wp2_with fail
                refine (zzUv_some g o c z l _ hn hzl HB.out HU.out).mono ?_
                rintro e w' ⟨rfl, rfl⟩
                go_wp2_with fail
                refine (zzUv_some g o c (z + k + n) l _ hn hz2 HB.out HU2.out).mono ?_
                rintro e w' ⟨rfl, rfl⟩
                go_wp2_with fail
                try simp only [Exit.inBlock, Exit.then]
                refine bodyPost_ret (results_tmp4 rfl _ _ _) rfl ?_
                exact .inl ⟨rfl, hB⟩
          · have hn2i : (l.length : Int) - ((z : Int) + (k : Int)) < (n : Int) := by omega
            go_wp2_with (go_at_call 11; refine (zzUv_some g o c z l _ hn hzl HB.out HU.out).mono ?_; rintro e w' ⟨rfl, rfl⟩)
            try simp only [Exit.inBlock, Exit.then]
            refine bodyPost_ret (results_tmp4 rfl _ _ _) rfl ?_
            exact .inl ⟨rfl, hB⟩
    · have hzz : z = l.length := by omega
      subst hzz
      go_wp2
      try simp only [Exit.inBlock, Exit.then]
      refine bodyPost_ret (results_tmp4 rfl _ _ _) rfl ?_
      exact .inr ⟨R, _, _, _, rfl, hP.1, hP.2.2, hB⟩

end Go.Proofs.Qxb6609276a
