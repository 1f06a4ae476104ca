import Derived.Test.Qxb6616128aSym
namespace Go.Proofs.Qxb6616128a
open Go.RowKit
open Plain (Date dlt Keep Blk Fresh Srt Pre Post R Runs Done)
set_option linter.unusedVariables false

/-- the state of the sort: what the closure reads, the row, the box -/
def Sta (n ob Bp Bo pl ev : Nat) (D : Nat → Date) (lv sv : Value) (w : World) (wr : World) (dk : Nat → Nat) : Prop := w.grownBy wr (some ob) ∧ Box wr w.heap.size lv sv ∧ Ord wr ob n dk ∧ Within n dk

theorem Sta.next {n ob Bp Bo pl ev a b : Nat} {D : Nat → Date} {lv sv : Value} {w wr w1 : World} {dk e : Nat → Nat} (h : Sta n ob Bp Bo pl ev D lv sv w wr dk) (hob : ob < w.heap.size) (hg : wr.grownBy w1 (some ob)) (hO : Ord w1 ob n e) (k : Keep a b dk e) (hb : b ≤ n) :
    Sta n ob Bp Bo pl ev D lv sv w w1 e := ⟨grown_trans h.1 hg, h.2.1.grown hg (by omega), hO, h.2.2.2.keep k hb⟩

set_option maxRecDepth 100000 in
set_option maxHeartbeats 800000 in
theorem stable_any (n ob Bp Bo pl ev : Nat) (D : Nat → Date) (sv lv : Value) (d : Nat → Nat) (w : World) (hS : IsSwap ob n sv) (hL : IsLess Bp Bo lv) (hE : Env n ob Bp Bo pl ev D w) (hO : Ord w ob n d) (hF : Fresh d 0 n) :
    Calls Try.prog 17 #[.agg #[lv, sv], .int .i64 n] w fun e w' => e = .returned (.tuple #[]) ∧ w.grownBy w' (some ob) ∧ ∃ d', Ord w' ob n d' ∧ Blk D d' 0 n := by
  have hn := hE.hn
  have hob := hO.lt
  have hW : Within n d := fun t ht => by rw [hF t (Nat.zero_le _) ht]; exact ht
  go_enter Try.func17, Try.ntmps17
  go_wp2
  go_loopw [5, 6] (fun va vb wr => ∃ (a : Nat) (dk : Nat → Nat), a ≤ n ∧ va = .int .i64 a ∧ vb = .int .i64 ((a : Int) + 20) ∧ Done D dk 20 a ∧ Fresh dk a n ∧ Sta n ob Bp Bo pl ev D lv sv w wr dk) (fun va _ _ => n - (intOf va).toNat)
  case atStart => exact ⟨0, d, Nat.zero_le _, rfl, rfl, Done.zero D d 20, hF, grown_alloc (grown_refl _ _) _, ⟨by simp, by simp⟩, hO.alloc _, hW⟩
  case round =>
    obtain ⟨a, dk, han, rfl, rfl, hD, hFk, hst⟩ := hrel
    have c0 := hst.2.1.1
    have c1 := hst.2.1.2
    by_cases hlt : a + 20 ≤ n
    · go_wp2_with fail
      refine (insertion_at n ob Bp Bo pl ev D sv lv dk _ hS hL (hE.grown hst.1) hst.2.2.1 hst.2.2.2 _ _ a (a + 20) rfl (by omega) (by omega) hlt (fun t h1 h2 => hFk t h1 (by omega))).mono ?_
      rintro e w1 ⟨rfl, hg1, d1, hO1, k1, b1⟩
      have hst1 := hst.next hob hg1 hO1 k1 hlt
      have hD1 := hD.step k1 b1
      have hF1 : Fresh d1 (a + 20) n := Plain.Fresh.keep (fun t h1 h2 => hFk t (by omega) h2) k1 (.inl (Nat.le_refl _))
      clear hst hD hFk k1 b1 hO1
      go_wp2
      go_roundw
      case rel => exact ⟨a + 20, d1, hlt, by go_num, by go_num, hD1, hF1, hst1⟩
      case measure => simp [intOf]; omega
    · go_wp2_with fail
      refine (insertion_at n ob Bp Bo pl ev D sv lv dk _ hS hL (hE.grown hst.1) hst.2.2.1 hst.2.2.2 _ _ a n rfl rfl han (Nat.le_refl _) hFk).mono ?_
      rintro e w1 ⟨rfl, hg1, d1, hO1, k1, b1⟩
      have hst1 := hst.next hob hg1 hO1 k1 (Nat.le_refl _)
      have hR1 := hD.runs k1 han (by omega) b1
      clear hst hD hFk k1 b1 hO1 c0 c1 hg1
      clear hlt han
      go_wp2
      go_loopw [4] (fun vs wr => ∃ (s : Nat) (dk : Nat → Nat), 20 ≤ s ∧ s ≤ 131072 ∧ vs = .int .i64 s ∧ Runs D dk n s 0 ∧ Sta n ob Bp Bo pl ev D lv sv w wr dk) (fun vs _ => n - (intOf vs).toNat)
      case atStart => exact ⟨20, d1, Nat.le_refl _, by omega, rfl, hR1, hst1⟩
      case round =>
        clear hR1 hst1
        obtain ⟨s, dk, hs1, hs2, rfl, hR, hst⟩ := hrel
        by_cases hlt : s < n
        · go_wp2
          go_loopw [5, 6] (fun va vb wr => ∃ (a : Nat) (dq : Nat → Nat), a ≤ n ∧ va = .int .i64 a ∧ vb = .int .i64 ((a : Int) + 2 * (s : Int)) ∧ Done D dq (2 * s) a ∧ Runs D dq n s a ∧ Sta n ob Bp Bo pl ev D lv sv w wr dq) (fun va _ _ => n - (intOf va).toNat)
          case atStart => exact ⟨0, dk, Nat.zero_le _, rfl, by go_num, Done.zero D dk _, hR, hst⟩
          case round =>
            clear hR hst
            obtain ⟨a, dq, han, rfl, rfl, hD, hR, hst⟩ := hrel
            have c0 := hst.2.1.1
            have c1 := hst.2.1.2
            by_cases hle : a + 2 * s ≤ n
            · have B1 : Blk D dq a (a + s) := by have := hR.head (by omega); rwa [Nat.min_eq_left (by omega)] at this
              have B2 : Blk D dq (a + s) (a + 2 * s) := by have := hR.tail.head (by omega); rwa [Nat.min_eq_left (by omega), show a + s + s = a + 2 * s by omega] at this
              go_wp2_with fail
              refine (sym_at n ob Bp Bo pl ev D sv lv dq _ hS hL (hE.grown hst.1) hst.2.2.1 hst.2.2.2 _ _ _ a (a + s) (a + 2 * s) rfl (by omega) (by omega) (by omega) (by omega) hle (Plain.Blk.pre B1 B2)).mono ?_
              rintro e w2 ⟨rfl, hg2, d2, hO2, q2⟩
              have hst2 := hst.next hob hg2 hO2 q2.2 hle
              have hD2 := hD.step q2.2 (Plain.Blk.merged (by omega) (by omega) B1 B2 q2)
              have hR2 : Runs D d2 n s (a + 2 * s) := by
                have := hR.tail.tail
                rw [show a + s + s = a + 2 * s by omega] at this
                exact this.keep q2.2 (Nat.le_refl _)
              clear hst hD hR B1 B2 hO2 q2 c0 c1
              go_wp2
              go_roundw
              case rel => exact ⟨a + 2 * s, d2, hle, by go_num, by go_num, hD2, hR2, hst2⟩
              case measure => simp [intOf]; omega
            · by_cases hms : a + s < n
              · have B1 : Blk D dq a (a + s) := by have := hR.head (by omega); rwa [Nat.min_eq_left (by omega)] at this
                have B2 : Blk D dq (a + s) n := by have := hR.tail.head (by omega); rwa [Nat.min_eq_right (by omega)] at this
                go_wp2_with fail
                refine (sym_at n ob Bp Bo pl ev D sv lv dq _ hS hL (hE.grown hst.1) hst.2.2.1 hst.2.2.2 _ _ _ a (a + s) n rfl (by omega) rfl (by omega) hms (Nat.le_refl _) (Plain.Blk.pre B1 B2)).mono ?_
                rintro e w2 ⟨rfl, hg2, d2, hO2, q2⟩
                have hst2 := hst.next hob hg2 hO2 q2.2 (Nat.le_refl _)
                have hR2 := hD.runs q2.2 han (by omega) (Plain.Blk.merged (by omega) (by omega) B1 B2 q2)
                clear hst hD hR B1 B2 hO2 q2 c0 c1
                go_wp2
                go_roundw
                case rel => exact ⟨2 * s, d2, by omega, by omega, by go_num, hR2, hst2⟩
                case measure => simp [intOf]; omega
              · have B1 : Blk D dq a n := by
                  by_cases hz : a < n
                  · have := hR.head hz; rwa [Nat.min_eq_right (by omega)] at this
                  · exact ⟨fun i j h1 h2 h3 => by omega, fun t h1 h2 => by omega⟩
                have hR2 := hD.runs (Keep.refl _ _ _) han (by omega) B1
                clear hD hR B1 c0 c1
                go_wp2
                go_roundw
                case rel => exact ⟨2 * s, dq, by omega, by omega, by go_num, hR2, hst⟩
                case measure => simp [intOf]; omega
        · have B1 : Blk D dk 0 n := by
            by_cases hz : 0 < n
            · have := hR.head hz; rwa [Nat.min_eq_right (by omega)] at this
            · exact ⟨fun i j h1 h2 h3 => by omega, fun t h1 h2 => by omega⟩
          go_wp2
          go_end0
          exact ⟨rfl, hst.1, dk, hst.2.2.1, B1⟩
end Go.Proofs.Qxb6616128a
