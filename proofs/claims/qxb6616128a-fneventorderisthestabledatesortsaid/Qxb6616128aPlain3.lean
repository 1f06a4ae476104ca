import Derived.Test.Qxb6616128aPlain2
namespace Go.Proofs.Qxb6616128a.Plain

/-! ### runs of one length -/
def Runs (D : Nat → Date) (d : Nat → Nat) (n s a : Nat) : Prop := ∀ q, a + q * s < n → Blk D d (a + q * s) (min (a + q * s + s) n)
theorem Runs.head {D : Nat → Date} {d : Nat → Nat} {n s a : Nat} (h : Runs D d n s a) (ha : a < n) : Blk D d a (min (a + s) n) := by
  have := h 0 (by omega)
  simpa using this
theorem Runs.tail {D : Nat → Date} {d : Nat → Nat} {n s a : Nat} (h : Runs D d n s a) : Runs D d n s (a + s) := by
  intro q hq
  have e : a + s + q * s = a + (q + 1) * s := by rw [Nat.succ_mul]; omega
  rw [e] at hq ⊢
  exact h (q + 1) hq
theorem Runs.keep {D : Nat → Date} {d e : Nat → Nat} {n s a x y : Nat} (h : Runs D d n s a) (k : Keep x y d e) (hy : y ≤ a) : Runs D e n s a := by
  intro q hq
  exact (h q hq).keep k (.inr (by have := Nat.zero_le (q * s); omega))
/-- what lies merged, or sorted, below a; a is a multiple of s -/
def Done (D : Nat → Date) (d : Nat → Nat) (s a : Nat) : Prop := ∃ Q, a = Q * s ∧ ∀ q, q < Q → Blk D d (q * s) (q * s + s)
theorem Done.zero (D : Nat → Date) (d : Nat → Nat) (s : Nat) : Done D d s 0 := ⟨0, by simp, fun q hq => by omega⟩
theorem Done.step {D : Nat → Date} {d e : Nat → Nat} {s a : Nat} (h : Done D d s a) (k : Keep a (a + s) d e) (hb : Blk D e a (a + s)) : Done D e s (a + s) := by
  obtain ⟨Q, rfl, hQ⟩ := h
  refine ⟨Q + 1, by rw [Nat.succ_mul], fun q hq => ?_⟩
  by_cases c : q = Q
  · subst c; exact hb
  · have h1 : q * s + s ≤ Q * s := by
      have : (q + 1) * s ≤ Q * s := Nat.mul_le_mul_right s (by omega)
      rwa [Nat.succ_mul] at this
    exact (hQ q (by omega)).keep k (.inl h1)
/-- the whole: below a done, the rest one run -/
theorem Done.runs {D : Nat → Date} {d e : Nat → Nat} {n s a : Nat} (h : Done D d s a) (k : Keep a n d e) (ha : a ≤ n) (hn : n ≤ a + s) (hb : Blk D e a n) : Runs D e n s 0 := by
  obtain ⟨Q, rfl, hQ⟩ := h
  intro q hq
  rw [Nat.zero_add] at hq ⊢
  by_cases c : q < Q
  · have h1 : q * s + s ≤ Q * s := by
      have : (q + 1) * s ≤ Q * s := Nat.mul_le_mul_right s (by omega)
      rwa [Nat.succ_mul] at this
    rw [Nat.min_eq_left (by omega)]
    exact (hQ q c).keep k (.inl h1)
  · by_cases c2 : q = Q
    · subst c2; rw [Nat.min_eq_right hn]; exact hb
    · have h1 : Q * s + s ≤ q * s := by
        have : (Q + 1) * s ≤ q * s := Nat.mul_le_mul_right s (by omega)
        rwa [Nat.succ_mul] at this
      omega
theorem Blk.keepIn {D : Nat → Date} {d e : Nat → Nat} {a b : Nat} (hv : ∀ t, a ≤ t → t < b → a ≤ d t ∧ d t < b) (h : Post D d a b e) : Blk D e a b := by
  refine ⟨h.1, fun t t1 t2 => ?_⟩
  obtain ⟨s, s1, s2, es⟩ := h.2.1 t t1 t2
  rw [es]; exact hv s s1 s2
theorem Blk.pre {D : Nat → Date} {d : Nat → Nat} {a m b : Nat} (h1 : Blk D d a m) (h2 : Blk D d m b) : Pre D d a m b :=
  ⟨h1.1, h2.1, fun i j i1 i2 j1 j2 => by have := (h1.2 i i1 i2).2; have := (h2.2 j j1 j2).1; omega⟩
theorem Blk.merged {D : Nat → Date} {d e : Nat → Nat} {a m b : Nat} (hm : a ≤ m) (hb : m ≤ b) (h1 : Blk D d a m) (h2 : Blk D d m b) (h : Post D d a b e) : Blk D e a b := by
  refine Blk.keepIn (fun t t1 t2 => ?_) h
  by_cases c : t < m
  · have := h1.2 t t1 c; omega
  · have := h2.2 t (by omega) t2; omega

/-! ### insertion -/
/-- the indexes of [a, b) stand in their own order -/
def Fresh (d : Nat → Nat) (a b : Nat) : Prop := ∀ t, a ≤ t → t < b → d t = t
theorem Fresh.keep {d e : Nat → Nat} {a b x y : Nat} (h : Fresh d a b) (k : Keep x y d e) (hd : y ≤ a ∨ b ≤ x) : Fresh e a b := fun t t1 t2 => by rw [k.2 t (by omega)]; exact h t t1 t2
/-- before the round of i: [a, i) is a run, the rest is as it was -/
def Ins (D : Nat → Date) (d0 d : Nat → Nat) (a b i : Nat) : Prop := Keep a i d0 d ∧ Blk D d a i ∧ Fresh d i b
theorem Ins.start {D : Nat → Date} {d : Nat → Nat} {a b : Nat} (h : Fresh d a b) (hab : a < b) : Ins D d d a b (a + 1) :=
  ⟨Keep.refl _ _ _, ⟨fun i j _ _ _ => by omega, fun t t1 t2 => by rw [h t t1 (by omega)]; omega⟩, fun t t1 t2 => h t (by omega) t2⟩
/-- the inner loop: the element of place i has come down to j, past those that it comes before -/
def Down (D : Nat → Date) (d : Nat → Nat) (i j : Nat) : Prop := ∀ t, j ≤ t → t < i → R D i (d t)
theorem Ins.test {D : Nat → Date} {d0 d : Nat → Nat} {a b i j : Nat} (h : Ins D d0 d a b i) (hib : i < b) (haj : a < j) (hji : j ≤ i) : mvl d i j j = i ∧ mvl d i j (j - 1) = d (j - 1) ∧ d (j - 1) < i := by
  refine ⟨?_, ?_, ?_⟩
  · unfold mvl; rw [if_pos rfl]; exact h.2.2 i (Nat.le_refl _) hib
  · unfold mvl; rw [if_neg (by omega), if_neg (by omega)]
  · exact (h.2.1.2 (j - 1) (by omega) (by omega)).2
theorem Ins.step {D : Nat → Date} {d0 d : Nat → Nat} {a b i j : Nat} (h : Ins D d0 d a b i) (hib : i < b) (haj : a ≤ j) (hji : j ≤ i) (hd : Down D d i j) (hx : j = a ∨ dlt (D i) (D (d (j - 1))) = false) : Ins D d0 (mvl d i j) a b (i + 1) := by
  obtain ⟨hk, hb, hf⟩ := h
  have ei : d i = i := hf i (Nat.le_refl _) hib
  have hl : ∀ t, a ≤ t → t < j → R D (d t) (d i) := by
    intro t t1 t2
    rcases hx with hx | hx
    · omega
    · have e0 : R D (d (j - 1)) (d i) := by
        rw [ei]
        exact R.left (hb.2 (j - 1) (by omega) (by omega)).2 hx
      by_cases e : t = j - 1
      · rw [e]; exact e0
      · exact (hb.1 t (j - 1) t1 (by omega) (by omega)).trans e0
  have hr : ∀ t, j ≤ t → t < i → R D (d i) (d t) := fun t t1 t2 => by rw [ei]; exact hd t t1 t2
  have hkk := mvl_keep d a i j haj hji
  refine ⟨(hk.mono (Nat.le_refl _) (Nat.le_succ i)).trans hkk, ⟨mvl_sorted hb.1 haj hji hl hr, fun t t1 t2 => ?_⟩, fun t t1 t2 => ?_⟩
  · obtain ⟨s, s1, s2, es⟩ := hkk.1 t t1 t2
    rw [es]
    by_cases c : s = i
    · rw [c, ei]; omega
    · have := hb.2 s s1 (by omega); omega
  · rw [hkk.2 t (by omega)]; exact hf t (by omega) t2
theorem Down.start (D : Nat → Date) (d : Nat → Nat) (i : Nat) : Down D d i i := fun t t1 t2 => by omega
theorem Down.step {D : Nat → Date} {d : Nat → Nat} {i j : Nat} (h : Down D d i j) (hj : 0 < j) (hx : dlt (D i) (D (d (j - 1))) = true) : Down D d i (j - 1) := by
  intro t t1 t2
  by_cases e : t = j - 1
  · rw [e]; exact .inl hx
  · exact h t (by omega) t2
theorem Ins.done {D : Nat → Date} {d0 d : Nat → Nat} {a b : Nat} (h : Ins D d0 d a b b) : Keep a b d0 d ∧ Blk D d a b := ⟨h.1, h.2.1⟩

/-! ### the two laws -/
theorem order_inj {D : Nat → Date} {d : Nat → Nat} {n : Nat} (h : Blk D d 0 n) (i j : Nat) (hi : i < n) (hj : j < n) (e : d i = d j) : i = j := by
  rcases Nat.lt_trichotomy i j with c | c | c
  · have := h.1 i j (Nat.zero_le _) c hj; rw [e] at this; exact (R.irrefl this).elim
  · exact c
  · have := h.1 j i (Nat.zero_le _) c hi; rw [e] at this; exact (R.irrefl this).elim
theorem again_id {D : Nat → Date} {o o' : Nat → Nat} {n : Nat} (h : Blk D o 0 n) (h' : Blk (fun t => D (o t)) o' 0 n) : ∀ t, t < n → o' t = t := by
  have hR : ∀ x y, x < n → y < n → R (fun t => D (o t)) x y → x < y := by
    intro x y hx hy hxy
    rcases Nat.lt_trichotomy x y with c | c | c
    · exact c
    · subst c; exact (R.irrefl hxy).elim
    · have h1 := (h.1 y x (Nat.zero_le _) c hx).no
      rcases hxy with h2 | ⟨_, h2⟩
      · simp only at h2; rw [h1] at h2; cases h2
      · omega
  have hinc : ∀ i j, i < j → j < n → o' i < o' j := fun i j hij hj =>
    hR _ _ (h'.2 i (Nat.zero_le _) (by omega)).2 (h'.2 j (Nat.zero_le _) hj).2 (h'.1 i j (Nat.zero_le _) hij hj)
  have hlo : ∀ t, t < n → t ≤ o' t := by
    intro t
    induction t with
    | zero => intro _; exact Nat.zero_le _
    | succ t ih => intro ht; have := ih (by omega); have := hinc t (t + 1) (by omega) ht; omega
  have hhi : ∀ k t, t + k + 1 = n → o' t ≤ t := by
    intro k
    induction k with
    | zero => intro t ht; have := (h'.2 t (Nat.zero_le _) (by omega)).2; omega
    | succ k ih => intro t ht; have := ih (t + 1) (by omega); have := hinc t (t + 1) (by omega) (by omega); omega
  intro t ht
  have := hlo t ht
  have := hhi (n - t - 1) t (by omega)
  omega
end Go.Proofs.Qxb6616128a.Plain
