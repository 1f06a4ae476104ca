import Derived.KernelRfl
namespace Go.Proofs.Qxb6616128a.Plain

/-! ### dates, and the strict order of (date, index) -/
structure Date where
  y : Int
  m : Int
  d : Int

/-- 'before' of two dates -/
def dlt (a b : Date) : Bool := if a.y ≠ b.y then decide (a.y < b.y) else if a.m ≠ b.m then decide (a.m < b.m) else decide (a.d < b.d)
theorem dlt_iff (a b : Date) : dlt a b = true ↔ a.y < b.y ∨ (a.y = b.y ∧ (a.m < b.m ∨ (a.m = b.m ∧ a.d < b.d))) := by
  unfold dlt
  by_cases h1 : a.y = b.y
  · by_cases h2 : a.m = b.m
    · simp [h1, h2]
    · simp [h1, h2]
  · simp [h1]
def R (D : Nat → Date) (x y : Nat) : Prop := dlt (D x) (D y) = true ∨ (dlt (D y) (D x) = false ∧ x < y)
theorem dlt_false (a b : Date) : dlt a b = false ↔ ¬ (a.y < b.y ∨ (a.y = b.y ∧ (a.m < b.m ∨ (a.m = b.m ∧ a.d < b.d)))) := by
  rw [← dlt_iff]; simp
theorem R.trans {D : Nat → Date} {x y z : Nat} (h : R D x y) (k : R D y z) : R D x z := by
  unfold R at *
  simp only [dlt_iff, dlt_false] at *
  omega
theorem R.irrefl {D : Nat → Date} {x : Nat} (h : R D x x) : False := by
  unfold R at h
  simp only [dlt_iff, dlt_false] at h
  omega
theorem R.no {D : Nat → Date} {x y : Nat} (h : R D x y) : dlt (D y) (D x) = false := by
  unfold R at h
  simp only [dlt_iff, dlt_false] at *
  omega
/-- of two indexes the lesser comes first where the later is not before it -/
theorem R.left {D : Nat → Date} {x y : Nat} (h : x < y) (k : dlt (D y) (D x) = false) : R D x y := .inr ⟨k, h⟩
theorem R.right {D : Nat → Date} {x y : Nat} (k : dlt (D y) (D x) = true) : R D y x := .inl k

/-! ### an array as a function; one range sorted; what keeps to a range -/
def Srt (D : Nat → Date) (d : Nat → Nat) (a b : Nat) : Prop := ∀ i j, a ≤ i → i < j → j < b → R D (d i) (d j)
/-- d' holds on [a, b) only what d held there, and is d elsewhere -/
def Keep (a b : Nat) (d d' : Nat → Nat) : Prop := (∀ t, a ≤ t → t < b → ∃ s, a ≤ s ∧ s < b ∧ d' t = d s) ∧ ∀ t, ¬ (a ≤ t ∧ t < b) → d' t = d t
theorem Keep.refl (a b : Nat) (d : Nat → Nat) : Keep a b d d := ⟨fun t h1 h2 => ⟨t, h1, h2, rfl⟩, fun _ _ => rfl⟩
theorem Keep.trans {a b : Nat} {d e f : Nat → Nat} (h : Keep a b d e) (k : Keep a b e f) : Keep a b d f := by
  refine ⟨fun t h1 h2 => ?_, fun t ht => (k.2 t ht).trans (h.2 t ht)⟩
  obtain ⟨s, s1, s2, e1⟩ := k.1 t h1 h2
  obtain ⟨u, u1, u2, e2⟩ := h.1 s s1 s2
  exact ⟨u, u1, u2, e1.trans e2⟩
theorem Keep.mono {a b a' b' : Nat} {d e : Nat → Nat} (h : Keep a b d e) (ha : a' ≤ a) (hb : b ≤ b') : Keep a' b' d e := by
  refine ⟨fun t h1 h2 => ?_, fun t ht => h.2 t (by omega)⟩
  by_cases c : a ≤ t ∧ t < b
  · obtain ⟨s, s1, s2, e1⟩ := h.1 t c.1 c.2
    exact ⟨s, by omega, by omega, e1⟩
  · exact ⟨t, h1, h2, h.2 t c⟩
/-- a run: sorted, and made of the indexes of its own range -/
def Blk (D : Nat → Date) (d : Nat → Nat) (a b : Nat) : Prop := Srt D d a b ∧ ∀ t, a ≤ t → t < b → a ≤ d t ∧ d t < b
theorem Blk.keep {D : Nat → Date} {d e : Nat → Nat} {a b x y : Nat} (h : Blk D d a b) (k : Keep x y d e) (hd : b ≤ x ∨ y ≤ a) : Blk D e a b := by
  have e1 : ∀ t, a ≤ t → t < b → e t = d t := fun t h1 h2 => k.2 t (by omega)
  refine ⟨fun i j h1 h2 h3 => ?_, fun t h1 h2 => ?_⟩
  · rw [e1 i h1 (by omega), e1 j (by omega) h3]; exact h.1 i j h1 h2 h3
  · rw [e1 t h1 h2]; exact h.2 t h1 h2

/-! ### swaps, exchanges of two ranges, rotations -/
def swp (d : Nat → Nat) (i j : Nat) (t : Nat) : Nat := if t = j then d i else if t = i then d j else d t
def swr (d : Nat → Nat) (a b k : Nat) (t : Nat) : Nat := if a ≤ t ∧ t < a + k then d (t - a + b) else if b ≤ t ∧ t < b + k then d (t - b + a) else d t
theorem swr_zero (d : Nat → Nat) (a b : Nat) : swr d a b 0 = d := by
  funext t; unfold swr; rw [if_neg (by omega), if_neg (by omega)]
theorem swr_step (d : Nat → Nat) (a b k : Nat) (h : a + (k + 1) ≤ b) : swp (swr d a b k) (a + k) (b + k) = swr d a b (k + 1) := by
  funext t
  unfold swp
  by_cases h1 : t = b + k
  · subst h1
    rw [if_pos rfl]
    unfold swr
    rw [if_neg (by omega), if_neg (by omega), if_neg (by omega), if_pos (by omega)]
    congr 1; omega
  · rw [if_neg h1]
    by_cases h2 : t = a + k
    · subst h2
      rw [if_pos rfl]
      unfold swr
      rw [if_neg (by omega), if_neg (by omega), if_pos (by omega)]
      congr 1; omega
    · rw [if_neg h2]
      unfold swr
      by_cases h3 : a ≤ t ∧ t < a + k
      · rw [if_pos h3, if_pos (by omega)]
      · rw [if_neg h3]
        by_cases h4 : b ≤ t ∧ t < b + k
        · rw [if_pos h4, if_neg (by omega), if_pos (by omega)]
        · rw [if_neg h4, if_neg (by omega), if_neg (by omega)]
/-- [a, m) and [m, b) change places -/
def rot (d : Nat → Nat) (a m b : Nat) (t : Nat) : Nat := if a ≤ t ∧ t < a + (b - m) then d (t + (m - a)) else if a + (b - m) ≤ t ∧ t < b then d (t - (b - m)) else d t
theorem rot_same (d : Nat → Nat) (a m b : Nat) (h : a = m ∨ m = b) (h1 : a ≤ m) (h2 : m ≤ b) : rot d a m b = d := by
  funext t; unfold rot
  by_cases c : a ≤ t ∧ t < a + (b - m)
  · rw [if_pos c]; congr 1; omega
  · rw [if_neg c]
    by_cases c2 : a + (b - m) ≤ t ∧ t < b
    · rw [if_pos c2]; congr 1; omega
    · rw [if_neg c2]
theorem rot_big (d : Nat → Nat) (m i j : Nat) (hj : 0 < j) (h : j < i) (hi : i ≤ m) : rot (swr d (m - i) m j) (m - (i - j)) m (m + j) = rot d (m - i) m (m + j) := by
  funext t
  unfold rot
  by_cases c : m - i ≤ t ∧ t < m - i + (m + j - m)
  · rw [if_neg (by omega), if_neg (by omega), if_pos c]
    unfold swr
    rw [if_pos (by omega)]
    congr 1; omega
  · rw [if_neg c]
    by_cases c2 : m - i + (m + j - m) ≤ t ∧ t < m + j
    · rw [if_pos c2]
      by_cases c3 : m - (i - j) ≤ t ∧ t < m - (i - j) + (m + j - m)
      · rw [if_pos c3]
        unfold swr
        by_cases c4 : m - i ≤ t + (m - (m - (i - j))) ∧ t + (m - (m - (i - j))) < m - i + j
        · omega
        · rw [if_neg c4, if_pos (by omega)]
          congr 1; omega
      · rw [if_neg c3, if_pos (by omega)]
        unfold swr
        rw [if_neg (by omega), if_neg (by omega)]
    · rw [if_neg c2, if_neg (by omega), if_neg (by omega)]
      unfold swr
      rw [if_neg (by omega), if_neg (by omega)]
theorem rot_small (d : Nat → Nat) (m i j : Nat) (h0 : 0 < i) (h : i < j) (hi : i ≤ m) : rot (swr d (m - i) (m + j - i) i) (m - i) m (m + (j - i)) = rot d (m - i) m (m + j) := by
  funext t
  unfold rot
  by_cases c : m - i ≤ t ∧ t < m - i + (m + (j - i) - m)
  · rw [if_pos c, if_pos (by omega)]
    unfold swr
    by_cases c4 : m - i ≤ t + (m - (m - i)) ∧ t + (m - (m - i)) < m - i + i
    · omega
    · rw [if_neg c4, if_neg (by omega)]
  · rw [if_neg c]
    by_cases c2 : m - i + (m + (j - i) - m) ≤ t ∧ t < m + (j - i)
    · rw [if_pos c2]
      unfold swr
      rw [if_pos (by omega)]
      by_cases c3 : m - i ≤ t ∧ t < m - i + (m + j - m)
      · rw [if_pos c3]; congr 1; omega
      · omega
    · rw [if_neg c2]
      unfold swr
      by_cases c5 : m + j - i ≤ t ∧ t < m + j - i + i
      · rw [if_neg (by omega), if_pos c5, if_neg (by omega), if_pos (by omega)]
        congr 1; omega
      · rw [if_neg (by omega), if_neg c5, if_neg (by omega), if_neg (by omega)]
theorem rot_even (d : Nat → Nat) (m i : Nat) (hi : i ≤ m) : swr d (m - i) m i = rot d (m - i) m (m + i) := by
  funext t
  unfold rot swr
  by_cases c : m - i ≤ t ∧ t < m - i + i
  · rw [if_pos c, if_pos (by omega)]; congr 1; omega
  · rw [if_neg c]
    by_cases c2 : m ≤ t ∧ t < m + i
    · rw [if_pos c2, if_neg (by omega), if_pos (by omega)]; congr 1; omega
    · rw [if_neg c2, if_neg (by omega), if_neg (by omega)]
theorem rot_keep (d : Nat → Nat) (a m b : Nat) (h1 : a ≤ m) (h2 : m ≤ b) : Keep a b d (rot d a m b) := by
  refine ⟨fun t t1 t2 => ?_, fun t ht => ?_⟩
  · unfold rot
    by_cases c : a ≤ t ∧ t < a + (b - m)
    · rw [if_pos c]; exact ⟨_, by omega, by omega, rfl⟩
    · rw [if_neg c, if_pos (by omega)]; exact ⟨_, by omega, by omega, rfl⟩
  · unfold rot; rw [if_neg (by omega), if_neg (by omega)]
end Go.Proofs.Qxb6616128a.Plain
