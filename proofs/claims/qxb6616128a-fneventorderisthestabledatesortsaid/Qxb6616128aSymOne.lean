import Derived.Test.Qxb6616128aInsert
namespace Go.Proofs.Qxb6616128a
open Go.RowKit
open Plain (Date dlt swp swr rot mvl mvr Keep Blk Ins Down Fresh Srt Pre Post)
set_option linter.unusedVariables false

set_option maxRecDepth 100000 in
set_option maxHeartbeats 400000 in
/-- one element on the left -/
theorem sym_one (n ob Bp Bo pl ev : Nat) (D : Nat → Date) (sv lv : Value) (d : Nat → Nat) (w : World) (hS : IsSwap ob n sv) (hL : IsLess Bp Bo lv) (hE : Env n ob Bp Bo pl ev D w) (hO : Ord w ob n d) (hW : Within n d)
    (a m b : Nat) (ham : m = a + 1) (hmb : m < b) (hbn : b ≤ n) (hP : Pre D d a m b) :
    Calls Try.prog 29 #[.agg #[lv, sv], .int .i64 a, .int .i64 m, .int .i64 b] w fun e w' => e = .returned (.tuple #[]) ∧ w.grownBy w' (some ob) ∧ ∃ d', Ord w' ob n d' ∧ Post D d a b d' := by
  have hn := hE.hn
  have hob := hO.lt
  obtain ⟨hv, rfl, hSw⟩ := hS
  have HSw : Hid _ := hSw
  unfold IsLess at hL
  subst hL
  have hm1 : m ≤ a + 1 := by omega
  have hm2 : a < m := by omega
  have hm3 : ((m : Int) - a == 1) = true := by rw [beq_iff_eq]; omega
  have HP : Hid (Pre D d a (a + 1) b) := by rw [← ham]; exact hP
  clear ham hP
  clear hSw
  have hne : w.heap.size ≠ ob := by omega
  have hbox : Box (w.alloc (.cells #[.func (.func 13) #[] #[.pointer (some ⟨Bp, 0, none⟩), .pointer (some ⟨Bo, 0, none⟩)], .func (.func 23) #[] #[.slice (some ⟨ob, 0, none⟩) n n, hv]] 61)) w.heap.size (.func (.func 13) #[] #[.pointer (some ⟨Bp, 0, none⟩), .pointer (some ⟨Bo, 0, none⟩)]) (.func (.func 23) #[] #[.slice (some ⟨ob, 0, none⟩) n n, hv]) := ⟨by simp, by simp⟩
  have hgb := grown_alloc (grown_refl w (some ob)) (.cells #[.func (.func 13) #[] #[.pointer (some ⟨Bp, 0, none⟩), .pointer (some ⟨Bo, 0, none⟩)], .func (.func 23) #[] #[.slice (some ⟨ob, 0, none⟩) n n, hv]] 61)
  go_enter Try.func29, Try.ntmps29
  go_wp2
  go_loopw [8, 9] (fun vi vj wr => ∃ i j : Nat, m ≤ i ∧ i ≤ j ∧ j ≤ b ∧ vi = .int .i64 i ∧ vj = .int .i64 j ∧ w.grownBy wr (some ob) ∧ Box wr w.heap.size (.func (.func 13) #[] #[.pointer (some ⟨Bp, 0, none⟩), .pointer (some ⟨Bo, 0, none⟩)]) (.func (.func 23) #[] #[.slice (some ⟨ob, 0, none⟩) n n, hv]) ∧ Ord wr ob n d ∧
      (i = a + 1 ∨ dlt (D (d (i - 1))) (D (d a)) = true) ∧ (j = b ∨ dlt (D (d j)) (D (d a)) = false)) (fun vi vj _ => (intOf vj).toNat - (intOf vi).toNat)
  case atStart => exact ⟨m, b, Nat.le_refl _, by omega, Nat.le_refl _, rfl, rfl, hgb, hbox, hO.alloc _, .inl (by omega), .inl rfl⟩
  case round =>
    obtain ⟨i, j, hi, hij, hjb, rfl, rfl, hg, hc, hOk, h1, h2⟩ := hrel
    have H1 : Hid (i = a + 1 ∨ dlt (D (d (i - 1))) (D (d a)) = true) := h1
    have H2 : Hid (j = b ∨ dlt (D (d j)) (D (d a)) = false) := h2
    have c0 := hc.1
    have c1 := hc.2
    clear h1 h2
    by_cases hlt : i < j
    · go_wp2_with fail
      refine (less_at n ob Bp Bo pl ev D _ _ (hE.grown hg) hOk hW _ _ ((i + j) / 2) a (by omega) rfl (by omega) (by omega)).mono ?_
      rintro e w1 ⟨rfl, hg1⟩
      have hOq1 : Ord w1 ob n d := grown_row hOk hg1 (by simp)
      have hgq1 := grown_trans hg (grown_none hg1 (some ob))
      have hcq1 := hc.grown (grown_none hg1 (some ob)) hne
      cases hr : dlt (D (d ((i + j) / 2))) (D (d a))
      · have H3 : Hid ((i + j) / 2 = b ∨ dlt (D (d ((i + j) / 2))) (D (d a)) = false) := .inr hr
        clear hr
        go_wp2
        go_roundw
        case rel => exact ⟨i, (i + j) / 2, hi, by omega, by omega, rfl, by go_num, hgq1, hcq1, hOq1, H1.out, H3.out⟩
        case measure => simp [intOf]; omega
      · have H3 : Hid ((i + j) / 2 + 1 = a + 1 ∨ dlt (D (d ((i + j) / 2 + 1 - 1))) (D (d a)) = true) := .inr (by rw [Nat.add_sub_cancel]; exact hr)
        clear hr
        go_wp2
        go_roundw
        case rel => exact ⟨(i + j) / 2 + 1, j, by omega, by omega, hjb, by go_num, rfl, hgq1, hcq1, hOq1, H3.out, H2.out⟩
        case measure => simp [intOf]; omega
    · have e : i = j := by omega
      subst e
      have hPost := Plain.mvr_post HP.out (by omega) hjb H1.out H2.out
      clear H1 H2 c0 c1
      go_wp2
      go_loopw [11] (fun vk wq => ∃ k : Nat, a ≤ k ∧ k ≤ i - 1 ∧ vk = .int .i64 k ∧ w.grownBy wq (some ob) ∧ Box wq w.heap.size (.func (.func 13) #[] #[.pointer (some ⟨Bp, 0, none⟩), .pointer (some ⟨Bo, 0, none⟩)]) (.func (.func 23) #[] #[.slice (some ⟨ob, 0, none⟩) n n, hv]) ∧ Ord wq ob n (mvr d a k)) (fun vk _ => i - (intOf vk).toNat)
      case atStart => exact ⟨a, Nat.le_refl _, by omega, rfl, hg, hc, by rw [Plain.mvr_start]; exact hOk⟩
      case round =>
        clear hg hc hOk hlt
        obtain ⟨k, hak, hki, rfl, hg, hc, hOk⟩ := hrel
        have c0 := hc.1
        have c1 := hc.2
        by_cases hlt : k < i - 1
        · have hsw := HSw.out _ _ hOk (k : Int) ((k : Int) + 1) k (k + 1) rfl (by omega) (by omega) (by omega)
          have hO2 := hOk.swap k (k + 1)
          rw [Plain.mvr_step d a k hak] at hO2
          have hgs := grown_set (grown_set hg k (.int .i64 (mvr d a k (k + 1)))) (k + 1) (.int .i64 (mvr d a k k))
          have hcs := hc.grown (grown_set (grown_set (grown_refl wr (some ob)) k (.int .i64 (mvr d a k (k + 1)))) (k + 1) (.int .i64 (mvr d a k k))) hne
          go_wp2
          go_roundw
          case rel => exact ⟨k + 1, by omega, by omega, by go_num, hgs, hcs, hO2⟩
          case measure => simp [intOf]; omega
        · have e : k = i - 1 := by omega
          subst e
          go_wp2
          refine bodyPost_ret (results_none rfl _ _ _) rfl ?_
          exact ⟨rfl, hg, _, hOk, hPost⟩
end Go.Proofs.Qxb6616128a
