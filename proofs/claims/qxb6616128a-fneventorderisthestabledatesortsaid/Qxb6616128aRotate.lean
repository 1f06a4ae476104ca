import Derived.Test.Qxb6616128aSwap
namespace Go.Proofs.Qxb6616128a
open Go.RowKit
open Plain (Date dlt swp swr rot)
set_option linter.unusedVariables false

/-- a box of the sort's two functions -/
def Box (w : World) (p : Nat) (x y : Value) : Prop := w.cell? ⟨p, 0, none⟩ = some x ∧ w.cell? ⟨p, 1, none⟩ = some y
theorem Box.grown {w w' : World} {p ob : Nat} {x y : Value} (h : Box w p x y) (hg : w.grownBy w' (some ob)) (hne : p ≠ ob) : Box w' p x y := ⟨grown_cell hg h.1 (by simp [hne]), grown_cell hg h.2 (by simp [hne])⟩

/-- the swap function value of the sort -/
def IsSwap (ob n : Nat) (sv : Value) : Prop := ∃ hv, sv = .func (.func 23) #[] #[.slice (some ⟨ob, 0, none⟩) n n, hv] ∧ Swaps ob n hv
theorem swapRange_at (n ob : Nat) (sv L : Value) (d : Nat → Nat) (w : World) (hn : n ≤ 65536) (hS : IsSwap ob n sv) (hO : Ord w ob n d) (x y z : Int) (a b k : Nat) (hx : x = a) (hy : y = b) (hz : z = k) (hab : a + k ≤ b) (hbn : b + k ≤ n) :
    Calls Try.prog 31 #[.agg #[L, sv], .int .i64 x, .int .i64 y, .int .i64 z] w fun e w' => e = .returned (.tuple #[]) ∧ w.grownBy w' (some ob) ∧ Ord w' ob n (swr d a b k) := by
  obtain ⟨hv, rfl, h⟩ := hS
  subst hx hy hz
  exact swapRange_any n ob hv L d w hn h hO a b k hab hbn

set_option maxHeartbeats 400000 in
theorem rotate_any (n ob : Nat) (sv L : Value) (d : Nat → Nat) (w : World) (hn : n ≤ 65536) (hS : IsSwap ob n sv) (hO : Ord w ob n d) (x y z : Int) (a m b : Nat) (hx : x = a) (hy : y = m) (hz : z = b) (ham : a < m) (hmb : m < b) (hbn : b ≤ n) :
    Calls Try.prog 30 #[.agg #[L, sv], .int .i64 x, .int .i64 y, .int .i64 z] w fun e w' => e = .returned (.tuple #[]) ∧ w.grownBy w' (some ob) ∧ Ord w' ob n (rot d a m b) := by
  subst hx hy hz
  have hob := hO.lt
  go_enter Try.func30, Try.ntmps30
  go_wp2
  go_loopw [8, 9] (fun vi vj wr => ∃ (i j : Nat) (dk : Nat → Nat), 0 < i ∧ 0 < j ∧ i ≤ m - a ∧ j ≤ b - m ∧ vi = .int .i64 i ∧ vj = .int .i64 j ∧ w.grownBy wr (some ob) ∧ Box wr w.heap.size L sv ∧ Ord wr ob n dk ∧ rot dk (m - i) m (m + j) = rot d a m b) (fun vi vj _ => (intOf vi).toNat + (intOf vj).toNat)
  case atStart => exact ⟨m - a, b - m, d, by omega, by omega, Nat.le_refl _, Nat.le_refl _, by go_num, by go_num, grown_alloc (grown_refl _ _) _, ⟨by simp, by simp⟩, hO.alloc _, by rw [show m - (m - a) = a by omega, show m + (b - m) = b by omega]⟩
  case round =>
    obtain ⟨i, j, dk, hi, hj, him, hjb, rfl, rfl, hg, hc, hOk, hr⟩ := hrel
    have HR : Hid (rot dk (m - i) m (m + j) = rot d a m b) := hr
    have c0 := hc.1
    have c1 := hc.2
    have hne : w.heap.size ≠ ob := by omega
    clear hr
    by_cases e : i = j
    · subst e
      go_wp2_with fail
      refine (swapRange_at n ob sv L dk _ hn hS hOk _ _ _ (m - i) m i (by omega) rfl rfl (by omega) (by omega)).mono ?_
      rintro e w1 ⟨rfl, hg1, hO1⟩
      rw [Plain.rot_even dk m i (by omega), HR.out] at hO1
      go_wp2
      go_end0
      exact ⟨rfl, grown_trans hg hg1, hO1⟩
    · by_cases hlt : j < i
      · go_wp2_with fail
        refine (swapRange_at n ob sv L dk _ hn hS hOk _ _ _ (m - i) m j (by omega) rfl rfl (by omega) (by omega)).mono ?_
        rintro e w1 ⟨rfl, hg1, hO1⟩
        have hb := hc.grown hg1 hne
        have hrr := (Plain.rot_big dk m i j hj hlt (by omega)).trans HR.out
        have HR2 : Hid _ := hrr
        clear hrr
        go_wp2
        go_roundw
        case rel => exact ⟨i - j, j, _, by omega, hj, by omega, hjb, by go_num, rfl, grown_trans hg hg1, hb, hO1, HR2.out⟩
        case measure => simp [intOf]; omega
      · go_wp2_with fail
        refine (swapRange_at n ob sv L dk _ hn hS hOk _ _ _ (m - i) (m + j - i) i (by omega) (by omega) rfl (by omega) (by omega)).mono ?_
        rintro e w1 ⟨rfl, hg1, hO1⟩
        have hb := hc.grown hg1 hne
        have hrr := (Plain.rot_small dk m i j hi (by omega) (by omega)).trans HR.out
        have HR2 : Hid _ := hrr
        clear hrr
        go_wp2
        go_roundw
        case rel => exact ⟨i, j - i, _, hi, by omega, him, by omega, rfl, by go_num, grown_trans hg hg1, hb, hO1, HR2.out⟩
        case measure => simp [intOf]; omega
end Go.Proofs.Qxb6616128a
