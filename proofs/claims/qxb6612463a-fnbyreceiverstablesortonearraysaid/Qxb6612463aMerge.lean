/-
  The plain laws of merging runs of record numbers: no Go here.
-/
import Derived.Test.Qxb6612463aPlain
namespace Go.Proofs.Qxb6612463a
set_option linter.unusedSimpArgs false
set_option linter.unusedVariables false

/-- Record i comes before record j: by receiver, then by number. -/
def lt2 (l : List Str) (i j : Nat) : Prop := l.getD i [] < l.getD j [] ∨ (l.getD i [] = l.getD j [] ∧ i < j)

theorem lt2_tr {l : List Str} {i j k : Nat} (h : lt2 l i j) (h' : lt2 l j k) : lt2 l i k := by
  rcases h with h | ⟨h, h1⟩ <;> rcases h' with h' | ⟨h', h2⟩
  · exact .inl (lt_tr h h')
  · exact .inl (by rw [← h']; exact h)
  · exact .inl (by rw [h]; exact h')
  · exact .inr ⟨h.trans h', by omega⟩

theorem lt2_pos {l : List Str} {i j : Nat} (hi : i < l.length) (hj : j < l.length) (h : lt2 l i j) : pos l i < pos l j := by
  unfold lt2 at h
  rw [getD_at hi, getD_at hj] at h
  rw [pos_eq hi, pos_eq hj]
  have h1 := cnt_lt hi
  rcases h with h | ⟨h, h2⟩
  · have := st_cnt_le (l := l) h
    omega
  · have := cnt_take_lt hi h2
    rw [h] at this ⊢
    omega

/-- F's cells from lo to hi: records lo .. hi - 1, in order. -/
def Blk (l : List Str) (F : Nat → Nat) (lo hi : Nat) : Prop := (∀ a b, lo ≤ a → a < b → b < hi → lt2 l (F a) (F b)) ∧ ∀ a, lo ≤ a → a < hi → lo ≤ F a ∧ F a < hi

/-- The merge of F's runs lo .. mid and mid .. hi into T, at i, j and k. -/
def Mrg (l : List Str) (F T : Nat → Nat) (lo i mid j hi k : Nat) : Prop :=
  lo ≤ i ∧ i ≤ mid ∧ mid ≤ j ∧ j ≤ hi ∧ k + mid = i + j ∧
  (∀ a b, lo ≤ a → a < b → b < k → lt2 l (T a) (T b)) ∧ (∀ a, lo ≤ a → a < k → lo ≤ T a ∧ T a < hi) ∧
  (∀ a c, lo ≤ a → a < k → i ≤ c → c < mid → lt2 l (T a) (F c)) ∧ (∀ a c, lo ≤ a → a < k → j ≤ c → c < hi → lt2 l (T a) (F c))

def upd (T : Nat → Nat) (k v : Nat) : Nat → Nat := fun a => if a = k then v else T a
theorem upd_at (T : Nat → Nat) (k v : Nat) : upd T k v k = v := by simp [upd]
theorem upd_ne {T : Nat → Nat} {k v a : Nat} (h : a ≠ k) : upd T k v a = T a := by simp [upd, h]

theorem Mrg.start {l : List Str} {F T : Nat → Nat} {lo mid hi : Nat} (h1 : lo ≤ mid) (h2 : mid ≤ hi) : Mrg l F T lo lo mid mid hi lo :=
  ⟨Nat.le_refl _, h1, Nat.le_refl _, h2, rfl, fun a b _ _ _ => by omega, fun a _ _ => by omega, fun a c _ _ _ _ => by omega, fun a c _ _ _ _ => by omega⟩

theorem Mrg.step {l : List Str} {F T : Nat → Nat} {lo i i' mid j j' hi k v : Nat} (h : Mrg l F T lo i mid j hi k) (h1 : lo ≤ i') (h2 : i' ≤ mid) (h3 : mid ≤ j') (h4 : j' ≤ hi) (h5 : k + 1 + mid = i' + j') (hi' : i ≤ i') (hj' : j ≤ j')
    (hv : ∀ a, lo ≤ a → a < k → lt2 l (T a) v) (hb : lo ≤ v ∧ v < hi) (hvi : ∀ c, i' ≤ c → c < mid → lt2 l v (F c)) (hvj : ∀ c, j' ≤ c → c < hi → lt2 l v (F c)) : Mrg l F (upd T k v) lo i' mid j' hi (k + 1) := by
  obtain ⟨e1, e2, e3, e4, e5, m1, m2, m3, m4⟩ := h
  refine ⟨h1, h2, h3, h4, h5, fun a b ha hab hbk => ?_, fun a ha hak => ?_, fun a c ha hak hc hcm => ?_, fun a c ha hak hc hch => ?_⟩
  · rw [upd_ne (by omega)]
    by_cases e : b = k
    · subst e
      rw [upd_at]
      exact hv a ha hab
    · rw [upd_ne e]
      exact m1 a b ha hab (by omega)
  · by_cases e : a = k
    · subst e; rw [upd_at]; exact hb
    · rw [upd_ne e]; exact m2 a ha (by omega)
  · by_cases e : a = k
    · subst e; rw [upd_at]; exact hvi c hc hcm
    · rw [upd_ne e]; exact m3 a c ha (by omega) (by omega) hcm
  · by_cases e : a = k
    · subst e; rw [upd_at]; exact hvj c hc hch
    · rw [upd_ne e]; exact m4 a c ha (by omega) (by omega) hch

theorem Mrg.left {l : List Str} {F T : Nat → Nat} {lo i mid j hi k : Nat} (h : Mrg l F T lo i mid j hi k) (hA : Blk l F lo mid) (hB : Blk l F mid hi) (hi' : i < mid) (hle : j < hi → ¬ l.getD (F j) [] < l.getD (F i) []) :
    Mrg l F (upd T k (F i)) lo (i + 1) mid j hi (k + 1) := by
  obtain ⟨e1, e2, e3, e4, e5, m1, m2, m3, m4⟩ := id h
  refine h.step (by omega) (by omega) e3 e4 (by omega) (by omega) (Nat.le_refl _) (fun a ha hak => m3 a i ha hak (Nat.le_refl _) hi') (by have := hA.2 i e1 hi'; omega) (fun c hc hcm => hA.1 i c e1 (by omega) hcm) (fun c hc hch => ?_)
  have hjh : j < hi := by omega
  have hx := hA.2 i e1 hi'
  have hy := hB.2 j e3 hjh
  have hij : lt2 l (F i) (F j) := by
    rcases tri (l.getD (F i) []) (l.getD (F j) []) with g | g | g
    · exact .inl g
    · exact .inr ⟨g, by omega⟩
    · exact absurd g (hle hjh)
  by_cases e : c = j
  · subst e; exact hij
  · exact lt2_tr hij (hB.1 j c e3 (by omega) hch)

theorem Mrg.right {l : List Str} {F T : Nat → Nat} {lo i mid j hi k : Nat} (h : Mrg l F T lo i mid j hi k) (hA : Blk l F lo mid) (hB : Blk l F mid hi) (hj : j < hi) (hlt : i < mid → l.getD (F j) [] < l.getD (F i) []) :
    Mrg l F (upd T k (F j)) lo i mid (j + 1) hi (k + 1) := by
  obtain ⟨e1, e2, e3, e4, e5, m1, m2, m3, m4⟩ := id h
  refine h.step e1 e2 (by omega) (by omega) (by omega) (Nat.le_refl _) (by omega) (fun a ha hak => m4 a j ha hak (Nat.le_refl _) hj) (by have := hB.2 j e3 hj; omega) (fun c hc hcm => ?_) (fun c hc hch => hB.1 j c e3 (by omega) hch)
  have hji : lt2 l (F j) (F i) := .inl (hlt (by omega))
  by_cases e : c = i
  · subst e; exact hji
  · exact lt2_tr hji (hA.1 i c e1 (by omega) hcm)

theorem Mrg.done {l : List Str} {F T : Nat → Nat} {lo i mid j hi k : Nat} (h : Mrg l F T lo i mid j hi k) (hk : hi ≤ k) : Blk l T lo hi :=
  ⟨fun a b ha hab hb => h.2.2.2.2.2.1 a b ha hab (by omega), fun a ha hb => h.2.2.2.2.2.2.1 a ha (by omega)⟩

/-- F is in runs of wd; T's runs of w2 up to lo. -/
def BlksTo (l : List Str) (T : Nat → Nat) (w2 lo : Nat) : Prop := ∀ m, m * w2 < lo → m * w2 < l.length → Blk l T (m * w2) (min (m * w2 + w2) l.length)
def Blks (l : List Str) (F : Nat → Nat) (wd : Nat) : Prop := ∀ m, m * wd < l.length → Blk l F (m * wd) (min (m * wd + wd) l.length)

theorem Blks.one (l : List Str) : Blks l (fun a => a) 1 := fun m hm => ⟨fun a b ha hab hb => by omega, fun a ha hb => by show _ ≤ a ∧ a < _; omega⟩

theorem Blks.left {l : List Str} {F : Nat → Nat} {wd m : Nat} (h : Blks l F wd) (hlo : m * (2 * wd) < l.length) : Blk l F (m * (2 * wd)) (min (m * (2 * wd) + wd) l.length) := by
  have e : m * (2 * wd) = (2 * m) * wd := by rw [← Nat.mul_assoc, Nat.mul_comm m 2]
  rw [e] at hlo ⊢
  exact h (2 * m) hlo

theorem Blks.right {l : List Str} {F : Nat → Nat} {wd m : Nat} (h : Blks l F wd) (hlo : m * (2 * wd) < l.length) : Blk l F (min (m * (2 * wd) + wd) l.length) (min (m * (2 * wd) + 2 * wd) l.length) := by
  by_cases hm : m * (2 * wd) + wd < l.length
  · have e : m * (2 * wd) + wd = (2 * m + 1) * wd := by rw [← Nat.mul_assoc, Nat.mul_comm m 2, Nat.add_mul, Nat.one_mul]
    have := h (2 * m + 1) (by omega)
    rw [← e] at this
    rw [Nat.min_eq_left (by omega)]
    have e2 : m * (2 * wd) + 2 * wd = m * (2 * wd) + wd + wd := by omega
    rw [e2]
    exact this
  · exact ⟨fun a b ha hab hb => by omega, fun a ha hb => by omega⟩

theorem BlksTo.start (l : List Str) (T : Nat → Nat) (w2 : Nat) : BlksTo l T w2 0 := fun m h => by omega

theorem mul_gap {m m0 w2 : Nat} (h : m * w2 < m0 * w2) : m * w2 + w2 ≤ m0 * w2 := by
  have hm : m < m0 := Nat.lt_of_mul_lt_mul_right h
  have := Nat.mul_le_mul_right w2 (show m + 1 ≤ m0 from hm)
  rw [Nat.add_mul, Nat.one_mul] at this
  exact this

theorem BlksTo.upd {l : List Str} {T : Nat → Nat} {w2 m0 k v : Nat} (h : BlksTo l T w2 (m0 * w2)) (hk : m0 * w2 ≤ k) : BlksTo l (upd T k v) w2 (m0 * w2) := fun m hm hn => by
  have hg := mul_gap hm
  obtain ⟨h1, h2⟩ := h m hm hn
  refine ⟨fun a b ha hab hb => ?_, fun a ha hb => ?_⟩
  · rw [upd_ne (by omega), upd_ne (by omega)]
    exact h1 a b ha hab hb
  · rw [upd_ne (by omega)]
    exact h2 a ha hb

theorem BlksTo.next {l : List Str} {T : Nat → Nat} {w2 m0 : Nat} (h : BlksTo l T w2 (m0 * w2)) (hb : Blk l T (m0 * w2) (min (m0 * w2 + w2) l.length)) : BlksTo l T w2 ((m0 + 1) * w2) := fun m hm hn => by
  by_cases e : m = m0
  · subst e; exact hb
  · have : m < m0 + 1 := Nat.lt_of_mul_lt_mul_right hm
    have h2 : m + 1 ≤ m0 := by omega
    have h3 := Nat.mul_le_mul_right w2 h2
    rw [Nat.add_mul, Nat.one_mul] at h3
    refine h m ?_ hn
    rcases Nat.eq_zero_or_pos w2 with h0 | h0
    · subst h0; simp at hm
    · omega

theorem BlksTo.all {l : List Str} {T : Nat → Nat} {w2 lo : Nat} (h : BlksTo l T w2 lo) (hlo : l.length ≤ lo) : Blks l T w2 := fun m hm => h m (by omega) hm

theorem mono_le {n : Nat} {φ : Nat → Nat} (h : ∀ a b, a < b → b < n → φ a < φ b) : ∀ d a, a + d < n → φ a + d ≤ φ (a + d)
  | 0, a, _ => Nat.le_refl _
  | d + 1, a, hd => by
    have h1 := mono_le h d a (by omega)
    have h2 := h (a + d) (a + (d + 1)) (by omega) hd
    omega

theorem mono_id {n : Nat} {φ : Nat → Nat} (h : ∀ a b, a < b → b < n → φ a < φ b) (hb : ∀ a, a < n → φ a < n) {a : Nat} (ha : a < n) : φ a = a := by
  have h1 := mono_le h a 0 (by omega)
  have h2 := mono_le h (n - 1 - a) a (by omega)
  have h3 := hb (a + (n - 1 - a)) (by omega)
  rw [Nat.zero_add] at h1
  omega

/-- THE ORDER: each cell holds the record whose place it is. -/
theorem Blks.order {l : List Str} {F : Nat → Nat} {wd : Nat} (h : Blks l F wd) (hw : l.length ≤ wd) : ∀ a, a < l.length → F a < l.length ∧ pos l (F a) = a := fun a ha => by
  have hb := h 0 (by omega)
  rw [Nat.zero_mul, Nat.zero_add, Nat.min_eq_right hw] at hb
  have hF : ∀ a, a < l.length → F a < l.length := fun a ha => (hb.2 a (Nat.zero_le _) ha).2
  refine ⟨hF a ha, mono_id (φ := fun a => pos l (F a)) (n := l.length) (fun a b hab hbn => lt2_pos (hF a (by omega)) (hF b hbn) (hb.1 a b (Nat.zero_le _) hab hbn)) (fun a ha => pos_lt (hF a ha)) ha⟩

end Go.Proofs.Qxb6612463a
