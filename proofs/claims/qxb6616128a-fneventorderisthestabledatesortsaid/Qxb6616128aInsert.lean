import Derived.Test.Qxb6616128aRotate
namespace Go.Proofs.Qxb6616128a
open Go.RowKit
open Plain (Date dlt swp swr rot mvl mvr Keep Blk Ins Down Fresh Srt)
set_option linter.unusedVariables false

/-- the less function value of the sort -/
def IsLess (Bp Bo : Nat) (lv : Value) : Prop := lv = .func (.func 13) #[] #[.pointer (some ⟨Bp, 0, none⟩), .pointer (some ⟨Bo, 0, none⟩)]
def Within (n : Nat) (d : Nat → Nat) : Prop := ∀ t, t < n → d t < n
theorem Within.keep {n a b : Nat} {d e : Nat → Nat} (h : Within n d) (k : Keep a b d e) (hb : b ≤ n) : Within n e := by
  intro t ht
  by_cases c : a ≤ t ∧ t < b
  · obtain ⟨s, s1, s2, es⟩ := k.1 t c.1 c.2
    rw [es]; exact h s (by omega)
  · rw [k.2 t c]; exact h t ht
theorem less_at (n ob Bp Bo pl ev : Nat) (D : Nat → Date) (d : Nat → Nat) (w : World) (hE : Env n ob Bp Bo pl ev D w) (hO : Ord w ob n d) (hW : Within n d) (x y : Int) (i j : Nat) (hx : x = i) (hy : y = j) (hi : i < n) (hj : j < n) :
    Calls Try.prog 13 #[.int .i64 x, .int .i64 y, .pointer (some ⟨Bp, 0, none⟩), .pointer (some ⟨Bo, 0, none⟩)] w fun e w' => e = .returned (.bool (dlt (D (d i)) (D (d j)))) ∧ w.grownBy w' none := by
  subst hx hy
  exact less_any n ob Bp Bo pl ev D d w hE hO i j hi hj (hW i hi) (hW j hj)

set_option maxHeartbeats 400000 in
theorem insertion_any (n ob Bp Bo pl ev : Nat) (D : Nat → Date) (sv lv : Value) (d : Nat → Nat) (w : World) (hS : IsSwap ob n sv) (hL : IsLess Bp Bo lv) (hE : Env n ob Bp Bo pl ev D w) (hO : Ord w ob n d) (hW : Within n d)
    (a b : Nat) (hab : a < b) (hbn : b ≤ n) (hF : Fresh d a b) :
    Calls Try.prog 28 #[.agg #[lv, sv], .int .i64 a, .int .i64 b] w fun e w' => e = .returned (.tuple #[]) ∧ w.grownBy w' (some ob) ∧ ∃ d', Ord w' ob n d' ∧ Keep a b d d' ∧ Blk D d' a b := by
  have hn := hE.hn
  have hob := hO.lt
  obtain ⟨hv, rfl, hSw⟩ := hS
  have HSw : Hid _ := hSw
  unfold IsLess at hL
  subst hL
  clear hSw
  have hne : w.heap.size ≠ ob := by omega
  go_enter Try.func28, Try.ntmps28
  go_wp2
  go_loopw [6] (fun vi wr => ∃ (i : Nat) (dk : Nat → Nat), a < i ∧ i ≤ b ∧ vi = .int .i64 i ∧ w.grownBy wr (some ob) ∧ Box wr w.heap.size (.func (.func 13) #[] #[.pointer (some ⟨Bp, 0, none⟩), .pointer (some ⟨Bo, 0, none⟩)]) (.func (.func 23) #[] #[.slice (some ⟨ob, 0, none⟩) n n, hv]) ∧ Ord wr ob n dk ∧ Ins D d dk a b i) (fun vi _ => b - (intOf vi).toNat)
  case atStart => exact ⟨a + 1, d, by omega, by omega, by go_num, grown_alloc (grown_refl _ _) _, ⟨by simp, by simp⟩, hO.alloc _, Ins.start hF hab⟩
  case round =>
    obtain ⟨i, dk, hai, hib, rfl, hg, hc, hOk, hI⟩ := hrel
    by_cases hlt : i < b
    · go_wp2
      go_loopw [7] (fun vj wq => ∃ j : Nat, a ≤ j ∧ j ≤ i ∧ vj = .int .i64 j ∧ w.grownBy wq (some ob) ∧ Box wq w.heap.size (.func (.func 13) #[] #[.pointer (some ⟨Bp, 0, none⟩), .pointer (some ⟨Bo, 0, none⟩)]) (.func (.func 23) #[] #[.slice (some ⟨ob, 0, none⟩) n n, hv]) ∧ Ord wq ob n (mvl dk i j) ∧ Down D dk i j) (fun vj _ => (intOf vj).toNat)
      case atStart => exact ⟨i, by omega, Nat.le_refl _, rfl, hg, hc, by rw [Plain.mvl_start]; exact hOk, Down.start D dk i⟩
      case round =>
        obtain ⟨j, haj, hji, rfl, hgq, hcq, hOq, hD⟩ := hrel
        have c0 := hcq.1
        have c1 := hcq.2
        by_cases hja : a < j
        · obtain ⟨t1, t2, t3⟩ := hI.test hlt hja hji
          have HT : Hid (mvl dk i j j = i ∧ mvl dk i j (j - 1) = dk (j - 1)) := ⟨t1, t2⟩
          have hWq : Within n (mvl dk i j) := (hW.keep (hI.1.mono (Nat.le_refl _) (Nat.le_of_lt hlt)) hbn).keep (Plain.mvl_keep dk a i j haj hji) (by omega)
          clear t1 t2
          go_wp2_with fail
          refine (less_at n ob Bp Bo pl ev D _ _ (hE.grown hgq) hOq hWq _ _ j (j - 1) rfl (by omega) (by omega) (by omega)).mono ?_
          rintro e w1 ⟨rfl, hg1⟩
          rw [HT.out.1, HT.out.2]
          have hOq1 : Ord w1 ob n (mvl dk i j) := grown_row hOq hg1 (by simp)
          have hgq1 := grown_trans hgq (grown_none hg1 (some ob))
          have hcq1 := hcq.grown (grown_none hg1 (some ob)) hne
          have k0 := hcq1.1
          have k1 := hcq1.2
          cases hr : dlt (D i) (D (dk (j - 1)))
          · have hI2 := hI.step hlt haj hji hD (.inr hr)
            clear hr
            go_wp2
            go_roundw
            case rel => exact ⟨i + 1, mvl dk i j, by omega, by omega, by go_num, hgq1, hcq1, hOq1, hI2⟩
            case measure => simp [intOf]; omega
          · have hsw := HSw.out _ _ hOq1 (j : Int) ((j : Int) - 1) j (j - 1) rfl (by omega) (by omega) (by omega)
            have hO2 := hOq1.swap j (j - 1)
            rw [Plain.mvl_step dk i j (by omega) hji] at hO2
            have hD2 := hD.step (by omega) hr
            have hgs := grown_set (grown_set hgq1 j (.int .i64 (mvl dk i j (j - 1)))) (j - 1) (.int .i64 (mvl dk i j j))
            have hcs := hcq1.grown (grown_set (grown_set (grown_refl w1 (some ob)) j (.int .i64 (mvl dk i j (j - 1)))) (j - 1) (.int .i64 (mvl dk i j j))) hne
            clear hr
            go_wp2
            go_roundw
            case rel => exact ⟨j - 1, by omega, by omega, by go_num, hgs, hcs, hO2, hD2⟩
            case measure => simp [intOf]; omega
        · have e : j = a := by omega
          subst e
          have hI2 := hI.step hlt (Nat.le_refl _) hji hD (.inl rfl)
          go_wp2
          go_roundw
          case rel => exact ⟨i + 1, mvl dk i j, by omega, by omega, by go_num, hgq, hcq, hOq, hI2⟩
          case measure => simp [intOf]; omega
    · have e : i = b := by omega
      subst e
      go_wp2
      go_end0
      exact ⟨rfl, hg, dk, hOk, hI.done.1, hI.done.2⟩

theorem insertion_none (lv sv : Value) (w : World) (a b : Nat) (hba : b ≤ a) (ha : a ≤ 65536) : Calls Try.prog 28 #[.agg #[lv, sv], .int .i64 a, .int .i64 b] w fun e w' => e = .returned (.tuple #[]) ∧ w.grownBy w' none := by
  go_enter Try.func28, Try.ntmps28
  go_wp2
  refine wp_loop_rounds 1 ?_
  rw [rounds_succ]
  go_wp2
  go_end0
  exact ⟨rfl, grown_alloc (grown_refl _ _) _⟩
theorem insertion_at (n ob Bp Bo pl ev : Nat) (D : Nat → Date) (sv lv : Value) (d : Nat → Nat) (w : World) (hS : IsSwap ob n sv) (hL : IsLess Bp Bo lv) (hE : Env n ob Bp Bo pl ev D w) (hO : Ord w ob n d) (hW : Within n d)
    (x y : Int) (a b : Nat) (hx : x = a) (hy : y = b) (hab : a ≤ b) (hbn : b ≤ n) (hF : Fresh d a b) :
    Calls Try.prog 28 #[.agg #[lv, sv], .int .i64 x, .int .i64 y] w fun e w' => e = .returned (.tuple #[]) ∧ w.grownBy w' (some ob) ∧ ∃ d', Ord w' ob n d' ∧ Keep a b d d' ∧ Blk D d' a b := by
  subst hx hy
  by_cases h : a < b
  · exact insertion_any n ob Bp Bo pl ev D sv lv d w hS hL hE hO hW a b h hbn hF
  · have e : a = b := by omega
    subst e
    exact (insertion_none lv sv w a a (Nat.le_refl _) (by have := hE.hn; omega)).mono fun e w' h => ⟨h.1, grown_none h.2 _, d, grown_row hO h.2 (by simp), Keep.refl _ _ _, fun i j h1 h2 h3 => by omega, fun t h1 h2 => by omega⟩
end Go.Proofs.Qxb6616128a
