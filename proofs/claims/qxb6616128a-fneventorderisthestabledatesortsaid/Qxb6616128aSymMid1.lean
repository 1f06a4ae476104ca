import Derived.Test.Qxb6616128aSymLast
namespace Go.Proofs.Qxb6616128a
open Go.RowKit
open Plain (Date dlt swp swr rot mvl mvr Keep Blk Ins Down Fresh Srt Pre Post R)
set_option linter.unusedVariables false

/-- what is told of the shorter merges -/
def Merges (n ob Bp Bo pl ev : Nat) (D : Nat → Date) (lv sv : Value) (k : Nat) : Prop := ∀ (a m b : Nat) (x y z : Int) (d : Nat → Nat) (w : World), b - a < k → a < m → m < b → b ≤ n → x = a → y = m → z = b → Env n ob Bp Bo pl ev D w → Ord w ob n d → Within n d → Pre D d a m b →
    Calls Try.prog 29 #[.agg #[lv, sv], .int .i64 x, .int .i64 y, .int .i64 z] w fun e w' => e = .returned (.tuple #[]) ∧ w.grownBy w' (some ob) ∧ ∃ d', Ord w' ob n d' ∧ Post D d a b d'
theorem cross_lo {D : Nat → Date} {d : Nat → Nat} {a m b i j : Nat} (h : Pre D d a m b) (h1 : a ≤ i) (h2 : i < m) (h3 : m ≤ j) (h4 : j < b) (k : dlt (D (d j)) (D (d i)) = false) : R D (d i) (d j) := Plain.R.left (h.2.2 i j h1 h2 h3 h4) k

set_option maxRecDepth 100000 in
set_option maxHeartbeats 1600000 in
theorem sym_mid1 (n ob Bp Bo pl ev : Nat) (D : Nat → Date) (sv : Value) (d : Nat → Nat) (w : World) (hS : IsSwap ob n sv) (hE : Env n ob Bp Bo pl ev D w) (hO : Ord w ob n d) (hW : Within n d)
    (a m b : Nat) (ham : a + 1 < m) (hmb : m + 1 < b) (hbn : b ≤ n) (hP : Pre D d a m b) (hmm : (a + b) / 2 < m) (IH : Merges n ob Bp Bo pl ev D (.func (.func 13) #[] #[.pointer (some ⟨Bp, 0, none⟩), .pointer (some ⟨Bo, 0, none⟩)]) sv (b - a)) :
    Calls Try.prog 29 #[.agg #[.func (.func 13) #[] #[.pointer (some ⟨Bp, 0, none⟩), .pointer (some ⟨Bo, 0, none⟩)], sv], .int .i64 a, .int .i64 m, .int .i64 b] w fun e w' => e = .returned (.tuple #[]) ∧ w.grownBy w' (some ob) ∧ ∃ d', Ord w' ob n d' ∧ Post D d a b d' := by
  have hn := hE.hn
  have hob := hO.lt
  have hne : w.heap.size ≠ ob := by omega
  have hbox : Box (w.alloc (.cells #[.func (.func 13) #[] #[.pointer (some ⟨Bp, 0, none⟩), .pointer (some ⟨Bo, 0, none⟩)], sv] 61)) w.heap.size (.func (.func 13) #[] #[.pointer (some ⟨Bp, 0, none⟩), .pointer (some ⟨Bo, 0, none⟩)]) sv := ⟨by simp, by simp⟩
  have hgb := grown_alloc (grown_refl w (some ob)) (.cells #[.func (.func 13) #[] #[.pointer (some ⟨Bp, 0, none⟩), .pointer (some ⟨Bo, 0, none⟩)], sv] 61)
  have hm3 : ((m : Int) - a == 1) = false := by rw [beq_eq_false_iff_ne]; omega
  have hm4 : ((b : Int) - m == 1) = false := by rw [beq_eq_false_iff_ne]; omega
  have hmi : ((a : Int) + b) / 2 < m := by omega
  go_enter Try.func29, Try.ntmps29
  go_wp2
  go_loopw [18, 19] (fun vi vj wr => ∃ s r : Nat, ((a + b) / 2 + m - b) ≤ s ∧ s ≤ r ∧ r ≤ ((a + b) / 2) ∧ vi = .int .i64 s ∧ vj = .int .i64 r ∧ w.grownBy wr (some ob) ∧ Box wr w.heap.size (.func (.func 13) #[] #[.pointer (some ⟨Bp, 0, none⟩), .pointer (some ⟨Bo, 0, none⟩)]) sv ∧ Ord wr ob n d ∧
      (s = ((a + b) / 2 + m - b) ∨ dlt (D (d ((a + b) / 2 + m - s))) (D (d (s - 1))) = false) ∧ (r = ((a + b) / 2) ∨ dlt (D (d ((a + b) / 2 + m - 1 - r))) (D (d r)) = true)) (fun vi vj _ => (intOf vj).toNat - (intOf vi).toNat)
  case atStart => exact ⟨((a + b) / 2 + m - b), ((a + b) / 2), Nat.le_refl _, by omega, Nat.le_refl _, by go_num, by go_num, hgb, hbox, hO.alloc _, .inl rfl, .inl rfl⟩
  case round =>
    obtain ⟨s, r, hs0, hsr, hr0, rfl, rfl, hg, hc, hOk, h1, h2⟩ := hrel
    have H1 : Hid (s = ((a + b) / 2 + m - b) ∨ dlt (D (d ((a + b) / 2 + m - s))) (D (d (s - 1))) = false) := h1
    have H2 : Hid (r = ((a + b) / 2) ∨ dlt (D (d ((a + b) / 2 + m - 1 - r))) (D (d r)) = true) := h2
    have c0 := hc.1
    have c1 := hc.2
    clear h1 h2
    by_cases hlt : s < r
    · go_wp2_with fail
      refine (less_at n ob Bp Bo pl ev D _ _ (hE.grown hg) hOk hW _ _ ((a + b) / 2 + m - 1 - (s + r) / 2) ((s + r) / 2) (by omega) (by omega) (by omega) (by omega)).mono ?_
      rintro e w1 ⟨rfl, hg1⟩
      have hOq1 : Ord w1 ob n d := grown_row hOk hg1 (by simp)
      have hgq1 := grown_trans hg (grown_none hg1 (some ob))
      have hcq1 := hc.grown (grown_none hg1 (some ob)) hne
      cases hr : dlt (D (d ((a + b) / 2 + m - 1 - (s + r) / 2))) (D (d ((s + r) / 2)))
      · have H3 : Hid ((s + r) / 2 + 1 = ((a + b) / 2 + m - b) ∨ dlt (D (d ((a + b) / 2 + m - ((s + r) / 2 + 1)))) (D (d ((s + r) / 2 + 1 - 1))) = false) := .inr (by rw [Nat.add_sub_cancel, show (a + b) / 2 + m - ((s + r) / 2 + 1) = (a + b) / 2 + m - 1 - (s + r) / 2 by omega]; exact hr)
        clear hr
        go_wp2
        go_roundw
        case rel => exact ⟨(s + r) / 2 + 1, r, by omega, by omega, hr0, by go_num, rfl, hgq1, hcq1, hOq1, H3.out, H2.out⟩
        case measure => simp [intOf]; omega
      · have H3 : Hid ((s + r) / 2 = ((a + b) / 2) ∨ dlt (D (d ((a + b) / 2 + m - 1 - (s + r) / 2))) (D (d ((s + r) / 2))) = true) := .inr hr
        clear hr
        go_wp2
        go_roundw
        case rel => exact ⟨s, (s + r) / 2, hs0, by omega, by omega, rfl, by go_num, hgq1, hcq1, hOq1, H1.out, H3.out⟩
        case measure => simp [intOf]; omega
    · have e : s = r := by omega
      subst e
      have x1 : s = a ∨ ((a + b) / 2 + m - s) = b ∨ R D (d (s - 1)) (d ((a + b) / 2 + m - s)) := by
        rcases H1.out with h | h
        · omega
        · by_cases q1 : s = a
          · exact .inl q1
          · by_cases q2 : ((a + b) / 2 + m - s) = b
            · exact .inr (.inl q2)
            · exact .inr (.inr (cross_lo hP (by omega) (by omega) (by omega) (by omega) h))
      have x2 : s = m ∨ ((a + b) / 2 + m - s) = m ∨ R D (d (((a + b) / 2 + m - s) - 1)) (d s) := by
        rcases H2.out with h | h
        · omega
        · refine .inr (.inr ?_)
          rw [show ((a + b) / 2 + m - s) - 1 = (a + b) / 2 + m - 1 - s by omega]
          exact Plain.R.right h
      have hsp := Plain.sym_split (mid := ((a + b) / 2)) (start := s) (fin := ((a + b) / 2 + m - s)) hP (by omega) (by omega) (by omega) (by omega) (by omega) x1 x2
      have hk1 := (Plain.rot_keep d s m ((a + b) / 2 + m - s) (by omega) (by omega)).mono (show a ≤ s by omega) (show ((a + b) / 2 + m - s) ≤ b by omega)
      have HX : Hid _ := hsp
      have HI : Hid _ := IH
      clear H1 H2 x1 x2 hsp IH c1
      have hWk : Within n (rot d s m ((a + b) / 2 + m - s)) := hW.keep hk1 hbn
      by_cases gA : s < m
      · by_cases gB : s < ((a + b) / 2)
        · have c1 := hc.2
          have gB' : (s : Int) < ((a : Int) + b) / 2 := by omega
          go_wp2_with fail
          refine (rotate_any n ob sv _ d _ hn hS hOk _ _ _ s m ((a + b) / 2 + m - s) rfl rfl (by omega) gA (by omega) (by omega)).mono ?_
          rintro e w1 ⟨rfl, hg1, hO1⟩
          replace hg := grown_trans hg hg1
          replace hc := hc.grown hg1 hne
          replace hOk := hO1
          have c0 := hc.1
          have c1 := hc.2
          clear hg1 hO1
          try (exfalso; omega)
          all_goals
            by_cases gC : a < s
            · go_wp2_with fail
              refine (HI.out a s ((a + b) / 2) _ _ _ _ _ (by omega) (by omega) (by omega) (by omega) rfl rfl (by omega) (hE.grown hg) hOk hWk HX.out.1).mono ?_
              rintro e w2 ⟨rfl, hg2, d2, hO2, q2⟩
              replace hg := grown_trans hg hg2
              replace hc := hc.grown hg2 hne
              replace hOk := hO2
              have c0 := hc.1
              have c1 := hc.2
              clear hg2 hO2
              by_cases gE : ((a + b) / 2 + m - s) < b
              · have gE' : ((a : Int) + b) / 2 + m - s < b := by omega
                try (exfalso; omega)
                all_goals
                  go_wp2_with fail
                  refine (HI.out ((a + b) / 2) ((a + b) / 2 + m - s) b _ _ _ _ _ (by omega) (by omega) (by omega) hbn (by omega) (by omega) (by omega) (hE.grown hg) hOk (hWk.keep q2.2 (by omega)) (HX.out.2.1.keep q2.2 (Nat.le_refl _) (by omega))).mono ?_
                  rintro e w3 ⟨rfl, hg3, d3, hO3, q3⟩
                  go_wp2
                  go_end0
                  exact ⟨rfl, grown_trans hg hg3, d3, hO3, Plain.sym_join (by omega) (by omega) hk1 HX.out.2.2 q2 q3⟩
              · have gE' : (b : Int) ≤ ((a : Int) + b) / 2 + m - s := by omega
                try (exfalso; omega)
                all_goals
                  go_wp2
                  go_end0
                  exact ⟨rfl, hg, d2, hOk, Plain.sym_join (by omega) (by omega) hk1 HX.out.2.2 q2 ⟨(HX.out.2.1.keep q2.2 (Nat.le_refl _) (by omega)).thin (by omega), Keep.refl _ _ _⟩⟩
            · have q2 : Post D (rot d s m ((a + b) / 2 + m - s)) a ((a + b) / 2) (rot d s m ((a + b) / 2 + m - s)) := ⟨HX.out.1.thin (by omega), Keep.refl _ _ _⟩
              by_cases gE : ((a + b) / 2 + m - s) < b
              · have gE' : ((a : Int) + b) / 2 + m - s < b := by omega
                try (exfalso; omega)
                all_goals
                  go_wp2_with fail
                  refine (HI.out ((a + b) / 2) ((a + b) / 2 + m - s) b _ _ _ _ _ (by omega) (by omega) (by omega) hbn (by omega) (by omega) (by omega) (hE.grown hg) hOk (hWk.keep q2.2 (by omega)) (HX.out.2.1.keep q2.2 (Nat.le_refl _) (by omega))).mono ?_
                  rintro e w3 ⟨rfl, hg3, d3, hO3, q3⟩
                  go_wp2
                  go_end0
                  exact ⟨rfl, grown_trans hg hg3, d3, hO3, Plain.sym_join (by omega) (by omega) hk1 HX.out.2.2 q2 q3⟩
              · have gE' : (b : Int) ≤ ((a : Int) + b) / 2 + m - s := by omega
                try (exfalso; omega)
                all_goals
                  go_wp2
                  go_end0
                  exact ⟨rfl, hg, (rot d s m ((a + b) / 2 + m - s)), hOk, Plain.sym_join (by omega) (by omega) hk1 HX.out.2.2 q2 ⟨(HX.out.2.1.keep q2.2 (Nat.le_refl _) (by omega)).thin (by omega), Keep.refl _ _ _⟩⟩
        · have c1 := hc.2
          have gB' : ((a : Int) + b) / 2 ≤ s := by omega
          have e1 : (rot d s m ((a + b) / 2 + m - s)) = d := Plain.rot_same d s m ((a + b) / 2 + m - s) (by omega) (by omega) (by omega)
          replace hOk : Ord wr ob n (rot d s m ((a + b) / 2 + m - s)) := by rw [e1]; exact hOk
          clear e1
          have q2 : Post D (rot d s m ((a + b) / 2 + m - s)) a ((a + b) / 2) (rot d s m ((a + b) / 2 + m - s)) := ⟨HX.out.1.thin (by omega), Keep.refl _ _ _⟩
          by_cases gE : ((a + b) / 2 + m - s) < b
          · have gE' : ((a : Int) + b) / 2 + m - s < b := by omega
            try (exfalso; omega)
            all_goals
              go_wp2_with fail
              refine (HI.out ((a + b) / 2) ((a + b) / 2 + m - s) b _ _ _ _ _ (by omega) (by omega) (by omega) hbn (by omega) (by omega) (by omega) (hE.grown hg) hOk (hWk.keep q2.2 (by omega)) (HX.out.2.1.keep q2.2 (Nat.le_refl _) (by omega))).mono ?_
              rintro e w3 ⟨rfl, hg3, d3, hO3, q3⟩
              go_wp2
              go_end0
              exact ⟨rfl, grown_trans hg hg3, d3, hO3, Plain.sym_join (by omega) (by omega) hk1 HX.out.2.2 q2 q3⟩
          · have gE' : (b : Int) ≤ ((a : Int) + b) / 2 + m - s := by omega
            try (exfalso; omega)
            all_goals
              go_wp2
              go_end0
              exact ⟨rfl, hg, (rot d s m ((a + b) / 2 + m - s)), hOk, Plain.sym_join (by omega) (by omega) hk1 HX.out.2.2 q2 ⟨(HX.out.2.1.keep q2.2 (Nat.le_refl _) (by omega)).thin (by omega), Keep.refl _ _ _⟩⟩
      · by_cases gB : s < ((a + b) / 2)
        · have c1 := hc.2
          have gB' : (s : Int) < ((a : Int) + b) / 2 := by omega
          have e1 : (rot d s m ((a + b) / 2 + m - s)) = d := Plain.rot_same d s m ((a + b) / 2 + m - s) (by omega) (by omega) (by omega)
          replace hOk : Ord wr ob n (rot d s m ((a + b) / 2 + m - s)) := by rw [e1]; exact hOk
          clear e1
          try (exfalso; omega)
          all_goals
            by_cases gC : a < s
            · go_wp2_with fail
              refine (HI.out a s ((a + b) / 2) _ _ _ _ _ (by omega) (by omega) (by omega) (by omega) rfl rfl (by omega) (hE.grown hg) hOk hWk HX.out.1).mono ?_
              rintro e w2 ⟨rfl, hg2, d2, hO2, q2⟩
              replace hg := grown_trans hg hg2
              replace hc := hc.grown hg2 hne
              replace hOk := hO2
              have c0 := hc.1
              have c1 := hc.2
              clear hg2 hO2
              try (exfalso; omega)
              all_goals
                go_wp2
                go_end0
                exact ⟨rfl, hg, d2, hOk, Plain.sym_join (by omega) (by omega) hk1 HX.out.2.2 q2 ⟨(HX.out.2.1.keep q2.2 (Nat.le_refl _) (by omega)).thin (by omega), Keep.refl _ _ _⟩⟩
            · have q2 : Post D (rot d s m ((a + b) / 2 + m - s)) a ((a + b) / 2) (rot d s m ((a + b) / 2 + m - s)) := ⟨HX.out.1.thin (by omega), Keep.refl _ _ _⟩
              try (exfalso; omega)
              all_goals
                go_wp2
                go_end0
                exact ⟨rfl, hg, (rot d s m ((a + b) / 2 + m - s)), hOk, Plain.sym_join (by omega) (by omega) hk1 HX.out.2.2 q2 ⟨(HX.out.2.1.keep q2.2 (Nat.le_refl _) (by omega)).thin (by omega), Keep.refl _ _ _⟩⟩
        · have c1 := hc.2
          have gB' : ((a : Int) + b) / 2 ≤ s := by omega
          have e1 : (rot d s m ((a + b) / 2 + m - s)) = d := Plain.rot_same d s m ((a + b) / 2 + m - s) (by omega) (by omega) (by omega)
          replace hOk : Ord wr ob n (rot d s m ((a + b) / 2 + m - s)) := by rw [e1]; exact hOk
          clear e1
          have q2 : Post D (rot d s m ((a + b) / 2 + m - s)) a ((a + b) / 2) (rot d s m ((a + b) / 2 + m - s)) := ⟨HX.out.1.thin (by omega), Keep.refl _ _ _⟩
          try (exfalso; omega)
          all_goals
            go_wp2
            go_end0
            exact ⟨rfl, hg, (rot d s m ((a + b) / 2 + m - s)), hOk, Plain.sym_join (by omega) (by omega) hk1 HX.out.2.2 q2 ⟨(HX.out.2.1.keep q2.2 (Nat.le_refl _) (by omega)).thin (by omega), Keep.refl _ _ _⟩⟩
end Go.Proofs.Qxb6616128a
