import Derived.Test.Qxb6616128aLess
namespace Go.Proofs.Qxb6616128a
open Go.RowKit
open Plain (Date dlt swp swr rot)
set_option linter.unusedVariables false

theorem info3 : (Try.prog.info? 3).map (fun i => (i.zero, i.size, i.bytes)) = some (some (.int .i64 0), 1, 8) := by kernel_rfl
/-- Swapper's literal, bound to 'order' and the element type's handle hv, exchanges two elements -/
def Swaps (ob n : Nat) (hv : Value) : Prop := ∀ (d : Nat → Nat) (w : World), Ord w ob n d → ∀ (x y : Int) (i j : Nat), x = i → y = j → i < n → j < n →
    (callFunc 23 #[.int .i64 x, .int .i64 y, .slice (some ⟨ob, 0, none⟩) n n, hv]).run Try.prog w = .ok (.value (.tuple #[])) ((w.setCell ⟨ob, i, none⟩ (.int .i64 (d j))).setCell ⟨ob, j, none⟩ (.int .i64 (d i)))
theorem swap_run (ob n : Nat) : Swaps ob n (typeHandle Try.prog 3) := by
  intro d w hO x y i j hx hy hi hj
  subst hx hy
  obtain ⟨ie, hi0, hz0, hz1, hz2⟩ := info_parts info3
  have h1 := run_callFunc_extern Try.func23 (by kernel_rfl) (by kernel_rfl) (by kernel_rfl) (e := Extern.ReflectliteSwapper.swap true) (by kernel_rfl) #[.int .i64 i, .int .i64 j, .slice (some ⟨ob, 0, none⟩) n n, typeHandle Try.prog 3] w
  have h2 := Lib.run_swap_one (P := Try.prog) true 3 ie hi0 hz1 (fun _ => by kernel_rfl) ob 0 n n i j hi hj (.int .i64 (d i)) (.int .i64 (d j)) rfl rfl w (by rw [Nat.zero_add]; exact hO.cell i hi) (by rw [Nat.zero_add]; exact hO.cell j hj) (by rw [Nat.zero_add]; exact hO.free i) (by rw [Nat.zero_add]; exact hO.free j)
  simp only [Nat.zero_add] at h2
  rw [h1, h2]
  rfl
theorem Ord.swap {w : World} {ob n : Nat} {d : Nat → Nat} (h : Ord w ob n d) (i j : Nat) : Ord ((w.setCell ⟨ob, i, none⟩ (.int .i64 (d j))).setCell ⟨ob, j, none⟩ (.int .i64 (d i))) ob n (swp d i j) := by
  refine (((h.set i _).set j _).ext (fun t ht => ?_))
  unfold swp
  by_cases h1 : t = j
  · rw [if_pos h1, if_pos h1]
  · rw [if_neg h1, if_neg h1]
    by_cases h2 : t = i
    · rw [if_pos h2, if_pos h2]
    · rw [if_neg h2, if_neg h2]
set_option maxHeartbeats 400000 in
theorem swapRange_any (n ob : Nat) (hv L : Value) (d : Nat → Nat) (w : World) (hn : n ≤ 65536) (hS : Swaps ob n hv) (hO : Ord w ob n d) (a b k : Nat) (hab : a + k ≤ b) (hbn : b + k ≤ n) :
    Calls Try.prog 31 #[.agg #[L, .func (.func 23) #[] #[.slice (some ⟨ob, 0, none⟩) n n, hv]], .int .i64 a, .int .i64 b, .int .i64 k] w fun e w' => e = .returned (.tuple #[]) ∧ w.grownBy w' (some ob) ∧ Ord w' ob n (swr d a b k) := by
  have hob := hO.lt
  go_enter Try.func31, Try.ntmps31
  go_wp2
  go_loopw [8] (fun i wr => ∃ q : Nat, q ≤ k ∧ i = .int .i64 q ∧ w.grownBy wr (some ob) ∧ wr.cell? ⟨w.heap.size, 1, none⟩ = some (.func (.func 23) #[] #[.slice (some ⟨ob, 0, none⟩) n n, hv]) ∧ Ord wr ob n (swr d a b q)) (fun i _ => k - (intOf i).toNat)
  case atStart => exact ⟨0, Nat.zero_le _, rfl, grown_alloc (grown_refl _ _) _, by simp, by rw [Plain.swr_zero]; exact hO.alloc _⟩
  case round =>
    obtain ⟨q, hq, rfl, hg, hc, hOq⟩ := hrel
    by_cases hlt : q < k
    · have hsw := hS _ _ hOq ((a : Int) + q) ((b : Int) + q) (a + q) (b + q) (by omega) (by omega) (by omega) (by omega)
      have hO2 := hOq.swap (a + q) (b + q)
      rw [Plain.swr_step d a b q (by omega)] at hO2
      have hc2 := grown_cell (grown_set (grown_set (grown_refl wr (some ob)) (a + q) (.int .i64 (swr d a b q (b + q)))) (b + q) (.int .i64 (swr d a b q (a + q)))) hc (by simp; omega)
      go_wp2
      go_roundw
      case rel => exact ⟨q + 1, by omega, by go_num, grown_set (grown_set hg _ _) _ _, hc2, hO2⟩
      case measure => simp [intOf]; omega
    · have e : q = k := by omega
      subst e
      go_wp2
      go_end0
      exact ⟨rfl, hg, hOq⟩
end Go.Proofs.Qxb6616128a
