import Derived.Test.Qxb6616128aPlain
namespace Go.Proofs.Qxb6616128a.Plain

/-- what symMerge asks -/
def Pre (D : Nat → Date) (d : Nat → Nat) (a m b : Nat) : Prop := Srt D d a m ∧ Srt D d m b ∧ ∀ i j, a ≤ i → i < m → m ≤ j → j < b → d i < d j
def Post (D : Nat → Date) (d : Nat → Nat) (a b : Nat) (d' : Nat → Nat) : Prop := Srt D d' a b ∧ Keep a b d d'
theorem Pre.thin {D : Nat → Date} {d : Nat → Nat} {a m b : Nat} (h : Pre D d a m b) (c : m ≤ a ∨ b ≤ m) : Srt D d a b := by
  intro i j h1 h2 h3
  rcases c with c | c
  · exact h.2.1 i j (by omega) h2 h3
  · exact h.1 i j h1 h2 (by omega)

/-! ### one element on the left: it moves up to k -/
def mvr (d : Nat → Nat) (a k : Nat) (t : Nat) : Nat := if a ≤ t ∧ t < k then d (t + 1) else if t = k then d a else d t
theorem mvr_start (d : Nat → Nat) (a : Nat) : mvr d a a = d := by
  funext t; unfold mvr; rw [if_neg (by omega)]
  by_cases h : t = a
  · rw [if_pos h, h]
  · rw [if_neg h]
theorem mvr_step (d : Nat → Nat) (a k : Nat) (h : a ≤ k) : swp (mvr d a k) k (k + 1) = mvr d a (k + 1) := by
  funext t
  unfold swp
  by_cases h1 : t = k + 1
  · subst h1
    rw [if_pos rfl]; unfold mvr
    rw [if_neg (by omega), if_pos rfl, if_neg (by omega), if_pos rfl]
  · rw [if_neg h1]
    by_cases h2 : t = k
    · subst h2
      rw [if_pos rfl]; unfold mvr
      rw [if_neg (by omega), if_neg (by omega), if_pos (by omega)]
    · rw [if_neg h2]; unfold mvr
      by_cases h3 : a ≤ t ∧ t < k
      · rw [if_pos h3, if_pos (by omega)]
      · rw [if_neg h3, if_neg h2, if_neg (by omega), if_neg h1]
theorem mvr_post {D : Nat → Date} {d : Nat → Nat} {a b i : Nat} (h : Pre D d a (a + 1) b) (hi : a + 1 ≤ i) (hb : i ≤ b) (h1 : i = a + 1 ∨ dlt (D (d (i - 1))) (D (d a)) = true) (h2 : i = b ∨ dlt (D (d i)) (D (d a)) = false) :
    Post D d a b (mvr d a (i - 1)) := by
  obtain ⟨_, hs, hc⟩ := h
  -- all of [a+1, i) come before d a; d a before all of [i, b)
  have hl : ∀ t, a + 1 ≤ t → t < i → R D (d t) (d a) := by
    intro t t1 t2
    rcases h1 with h1 | h1
    · omega
    · by_cases e : t = i - 1
      · subst e; exact R.right h1
      · exact (hs t (i - 1) t1 (by omega) (by omega)).trans (R.right h1)
  have hr : ∀ t, i ≤ t → t < b → R D (d a) (d t) := by
    intro t t1 t2
    rcases h2 with h2 | h2
    · omega
    · have e0 : R D (d a) (d i) := R.left (hc a i (Nat.le_refl _) (by omega) hi (by omega)) h2
      by_cases e : t = i
      · subst e; exact e0
      · exact e0.trans (hs i t hi (by omega) t2)
  refine ⟨fun x y x1 xy y1 => ?_, fun t t1 t2 => ?_, fun t ht => ?_⟩
  · unfold mvr
    by_cases c1 : a ≤ x ∧ x < i - 1
    · rw [if_pos c1]
      by_cases c2 : a ≤ y ∧ y < i - 1
      · rw [if_pos c2]; exact hs _ _ (by omega) (by omega) (by omega)
      · rw [if_neg c2]
        by_cases c3 : y = i - 1
        · rw [if_pos c3]; exact hl _ (by omega) (by omega)
        · rw [if_neg c3]; exact hs _ _ (by omega) (by omega) (by omega)
    · rw [if_neg c1]
      by_cases c3 : x = i - 1
      · rw [if_pos c3, if_neg (by omega), if_neg (by omega)]; exact hr _ (by omega) y1
      · rw [if_neg c3, if_neg (by omega), if_neg (by omega)]; exact hs _ _ (by omega) xy y1
  · unfold mvr
    by_cases c1 : a ≤ t ∧ t < i - 1
    · rw [if_pos c1]; exact ⟨_, by omega, by omega, rfl⟩
    · rw [if_neg c1]
      by_cases c3 : t = i - 1
      · rw [if_pos c3]; exact ⟨a, by omega, by omega, rfl⟩
      · rw [if_neg c3]; exact ⟨t, t1, t2, rfl⟩
  · unfold mvr; rw [if_neg (by omega), if_neg (by omega)]

/-! ### one element on the right: it moves down to k -/
def mvl (d : Nat → Nat) (m k : Nat) (t : Nat) : Nat := if t = k then d m else if k < t ∧ t ≤ m then d (t - 1) else d t
theorem mvl_start (d : Nat → Nat) (m : Nat) : mvl d m m = d := by
  funext t; unfold mvl
  by_cases h : t = m
  · rw [if_pos h, h]
  · rw [if_neg h, if_neg (by omega)]
theorem mvl_step (d : Nat → Nat) (m k : Nat) (h0 : 0 < k) (h : k ≤ m) : swp (mvl d m k) k (k - 1) = mvl d m (k - 1) := by
  funext t
  unfold swp
  by_cases h1 : t = k - 1
  · subst h1
    rw [if_pos rfl]; unfold mvl
    rw [if_pos rfl, if_pos rfl]
  · rw [if_neg h1]
    by_cases h2 : t = k
    · subst h2
      rw [if_pos rfl]; unfold mvl
      rw [if_neg (by omega), if_neg (by omega), if_neg (by omega), if_pos (by omega)]
    · rw [if_neg h2]; unfold mvl
      rw [if_neg h2, if_neg h1]
      by_cases h3 : k < t ∧ t ≤ m
      · rw [if_pos h3, if_pos (by omega)]
      · rw [if_neg h3, if_neg (by omega)]
theorem mvl_sorted {D : Nat → Date} {d : Nat → Nat} {a m i : Nat} (hs : Srt D d a m) (ha : a ≤ i) (hi : i ≤ m) (hl : ∀ t, a ≤ t → t < i → R D (d t) (d m)) (hr : ∀ t, i ≤ t → t < m → R D (d m) (d t)) : Srt D (mvl d m i) a (m + 1) := by
  intro x y x1 xy y1
  unfold mvl
  by_cases c1 : x = i
  · rw [if_pos c1, if_neg (by omega), if_pos (by omega)]; exact hr _ (by omega) (by omega)
  · rw [if_neg c1]
    by_cases c2 : i < x ∧ x ≤ m
    · rw [if_pos c2, if_neg (by omega), if_pos (by omega)]; exact hs _ _ (by omega) (by omega) (by omega)
    · rw [if_neg c2]
      by_cases c3 : y = i
      · rw [if_pos c3]; exact hl _ x1 (by omega)
      · rw [if_neg c3]
        by_cases c4 : i < y ∧ y ≤ m
        · rw [if_pos c4]; exact hs _ _ x1 (by omega) (by omega)
        · rw [if_neg c4]; exact hs _ _ x1 xy (by omega)
theorem mvl_keep (d : Nat → Nat) (a m i : Nat) (ha : a ≤ i) (hi : i ≤ m) : Keep a (m + 1) d (mvl d m i) := by
  refine ⟨fun t t1 t2 => ?_, fun t ht => ?_⟩
  · unfold mvl
    by_cases c1 : t = i
    · rw [if_pos c1]; exact ⟨m, by omega, by omega, rfl⟩
    · rw [if_neg c1]
      by_cases c2 : i < t ∧ t ≤ m
      · rw [if_pos c2]; exact ⟨_, by omega, by omega, rfl⟩
      · rw [if_neg c2]; exact ⟨t, t1, t2, rfl⟩
  · unfold mvl; rw [if_neg (by omega), if_neg (by omega)]
theorem mvl_post {D : Nat → Date} {d : Nat → Nat} {a m i : Nat} (h : Pre D d a m (m + 1)) (ha : a ≤ i) (hi : i ≤ m) (h1 : i = a ∨ dlt (D (d m)) (D (d (i - 1))) = false) (h2 : i = m ∨ dlt (D (d m)) (D (d i)) = true) :
    Post D d a (m + 1) (mvl d m i) := by
  obtain ⟨hs, _, hc⟩ := h
  refine ⟨mvl_sorted hs ha hi (fun t t1 t2 => ?_) (fun t t1 t2 => ?_), mvl_keep d a m i ha hi⟩
  · rcases h1 with h1 | h1
    · omega
    · have e0 : R D (d (i - 1)) (d m) := R.left (hc _ _ (by omega) (by omega) (Nat.le_refl _) (by omega)) h1
      by_cases e : t = i - 1
      · subst e; exact e0
      · exact (hs t (i - 1) t1 (by omega) (by omega)).trans e0
  · rcases h2 with h2 | h2
    · omega
    · by_cases e : t = i
      · subst e; exact R.right h2
      · exact (R.right h2).trans (hs i t ha (by omega) t2)

/-! ### the middle: a rotation, then the two halves -/
theorem sym_split {D : Nat → Date} {d : Nat → Nat} {a m b mid start fin : Nat} (h : Pre D d a m b) (ham : a ≤ start) (hsm : start ≤ m) (hmf : m ≤ fin) (hfb : fin ≤ b) (hmid : start + (fin - m) = mid)
    (h1 : start = a ∨ fin = b ∨ R D (d (start - 1)) (d fin)) (h2 : start = m ∨ fin = m ∨ R D (d (fin - 1)) (d start)) :
    Pre D (rot d start m fin) a start mid ∧ Pre D (rot d start m fin) mid fin b ∧ ∀ i j, a ≤ i → i < mid → mid ≤ j → j < b → R D (rot d start m fin i) (rot d start m fin j) := by
  obtain ⟨hs1, hs2, hc⟩ := h
  have e1 : ∀ t, t < start → rot d start m fin t = d t := fun t ht => by unfold rot; rw [if_neg (by omega), if_neg (by omega)]
  have e2 : ∀ t, start ≤ t → t < mid → rot d start m fin t = d (t + (m - start)) := fun t t1 t2 => by unfold rot; rw [if_pos (by omega)]
  have e3 : ∀ t, mid ≤ t → t < fin → rot d start m fin t = d (t - (fin - m)) := fun t t1 t2 => by unfold rot; rw [if_neg (by omega), if_pos (by omega)]
  have e4 : ∀ t, fin ≤ t → rot d start m fin t = d t := fun t ht => by
    unfold rot; rw [if_neg (by omega), if_neg (by omega)]
  have l1 : ∀ x y, a ≤ x → x < start → fin ≤ y → y < b → R D (d x) (d y) := by
    intro x y x1 x2 y1 y2
    rcases h1 with h1 | h1 | h1
    · omega
    · omega
    · have p : R D (d x) (d fin) := by
        by_cases e : x = start - 1
        · rw [e]; exact h1
        · exact (hs1 x (start - 1) x1 (by omega) (by omega)).trans h1
      by_cases e : y = fin
      · rw [e]; exact p
      · exact p.trans (hs2 fin y hmf (by omega) y2)
  have l2 : ∀ x y, m ≤ x → x < fin → start ≤ y → y < m → R D (d x) (d y) := by
    intro x y x1 x2 y1 y2
    rcases h2 with h2 | h2 | h2
    · omega
    · omega
    · have p : R D (d x) (d start) := by
        by_cases e : x = fin - 1
        · rw [e]; exact h2
        · exact (hs2 x (fin - 1) x1 (by omega) (by omega)).trans h2
      by_cases e : y = start
      · rw [e]; exact p
      · exact p.trans (hs1 start y ham (by omega) y2)
  refine ⟨⟨fun i j i1 ij j1 => ?_, fun i j i1 ij j1 => ?_, fun i j i1 i2 j1 j2 => ?_⟩, ⟨fun i j i1 ij j1 => ?_, fun i j i1 ij j1 => ?_, fun i j i1 i2 j1 j2 => ?_⟩, fun i j i1 i2 j1 j2 => ?_⟩
  · rw [e1 i (by omega), e1 j j1]; exact hs1 i j i1 ij (by omega)
  · rw [e2 i i1 (by omega), e2 j (by omega) j1]; exact hs2 _ _ (by omega) (by omega) (by omega)
  · rw [e1 i i2, e2 j j1 j2]; exact hc _ _ i1 (by omega) (by omega) (by omega)
  · rw [e3 i i1 (by omega), e3 j (by omega) j1]; exact hs1 _ _ (by omega) (by omega) (by omega)
  · rw [e4 i i1, e4 j (by omega)]; exact hs2 _ _ (by omega) ij j1
  · rw [e3 i i1 i2, e4 j j1]; exact hc _ _ (by omega) (by omega) (by omega) (by omega)
  · by_cases c1 : i < start
    · rw [e1 i c1]
      by_cases c2 : j < fin
      · rw [e3 j j1 c2]; exact hs1 _ _ i1 (by omega) (by omega)
      · rw [e4 j (by omega)]; exact l1 _ _ i1 c1 (by omega) j2
    · rw [e2 i (by omega) i2]
      by_cases c2 : j < fin
      · rw [e3 j j1 c2]; exact l2 _ _ (by omega) (by omega) (by omega) (by omega)
      · rw [e4 j (by omega)]; exact hs2 _ _ (by omega) (by omega) j2
theorem Pre.keep {D : Nat → Date} {d e : Nat → Nat} {a m b x y : Nat} (h : Pre D d a m b) (k : Keep x y d e) (hd : y ≤ a) (ham : a ≤ m) : Pre D e a m b := by
  have e1 : ∀ t, a ≤ t → e t = d t := fun t ht => k.2 t (by omega)
  refine ⟨fun i j i1 ij j1 => ?_, fun i j i1 ij j1 => ?_, fun i j i1 i2 j1 j2 => ?_⟩
  · rw [e1 i i1, e1 j (by omega)]; exact h.1 i j i1 ij j1
  · rw [e1 i (by omega), e1 j (by omega)]; exact h.2.1 i j i1 ij j1
  · rw [e1 i i1, e1 j (by omega)]; exact h.2.2 i j i1 i2 j1 j2
theorem sym_join {D : Nat → Date} {d d1 d2 d3 : Nat → Nat} {a mid b : Nat} (ha : a ≤ mid) (hb : mid ≤ b) (h0 : Keep a b d d1) (hR : ∀ i j, a ≤ i → i < mid → mid ≤ j → j < b → R D (d1 i) (d1 j)) (h2 : Post D d1 a mid d2) (h3 : Post D d2 mid b d3) :
    Post D d a b d3 := by
  refine ⟨fun i j i1 ij j1 => ?_, h0.trans ((h2.2.mono (Nat.le_refl _) hb).trans (h3.2.mono ha (Nat.le_refl _)))⟩
  by_cases c1 : j < mid
  · rw [h3.2.2 i (by omega), h3.2.2 j (by omega)]; exact h2.1 i j i1 ij c1
  · by_cases c2 : mid ≤ i
    · exact h3.1 i j c2 ij j1
    · rw [h3.2.2 i (by omega)]
      obtain ⟨s, s1, s2, es⟩ := h3.2.1 j (by omega) j1
      rw [es, h2.2.2 s (by omega)]
      obtain ⟨u, u1, u2, eu⟩ := h2.2.1 i i1 (by omega)
      rw [eu]
      exact hR u s u1 u2 s1 s2
end Go.Proofs.Qxb6616128a.Plain
