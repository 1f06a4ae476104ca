import Derived.Test.Qxb6616128aPlan
namespace Go.Proofs.Qxb6616128a
open Go.RowKit
open Plain (Date dlt Keep Blk Fresh Srt Pre Post R Runs Done)
set_option linter.unusedVariables false

set_option maxHeartbeats 400000 in
theorem eventOrder_any (pl n : Nat) (D : Nat → Date) (w : World) (hn : n ≤ 65536) (hP : IsPlan w pl n D) :
    Calls Try.prog 10 #[.pointer (some ⟨pl, 0, none⟩)] w fun e w' => ∃ ob d, e = .returned (.slice (some ⟨ob, 0, none⟩) n n) ∧ Below w.heap.size w w' ∧ Ord w' ob n d ∧ Blk D d 0 n := by
  obtain ⟨ev, hev, hc, hd⟩ := hP
  have hpl : pl < w.heap.size := World.block_lt_of_cell? _ _ hc
  have HD : Hid _ := hd
  clear hd
  have hmk := mk_one 24 3 (.int .i64 0) 8 Try.underlying24 info3 rfl n (by omega) (by omega)
  go_enter Try.func10, Try.ntmps10
  go_wp2
  go_loopw [13] (fun vi wr => ∃ k : Nat, k ≤ n ∧ vi = .int .i64 k ∧ Below w.heap.size w wr ∧ w.heap.size ≤ wr.heap.size ∧ wr.cell? ⟨w.heap.size, 0, none⟩ = some (.pointer (some ⟨pl, 0, none⟩)) ∧
      wr.cell? ⟨w.heap.size + 1 + 1, 0, none⟩ = some (.slice (some ⟨w.heap.size + 1, 0, none⟩) n n) ∧ Row wr (w.heap.size + 1) 3 n (fun i => if i < k then .int .i64 i else .int .i64 0)) (fun vi _ => n - (intOf vi).toNat)
  case atStart =>
    refine ⟨0, Nat.zero_le _, rfl, (((Below.refl _ _).alloc (Nat.le_refl _) _).alloc (by rw [World.size_alloc]; omega) _).alloc (by rw [World.size_alloc, World.size_alloc]; omega) _, ?_, ?_, ?_, ?_⟩
    · rw [World.size_alloc, World.size_alloc, World.size_alloc]; omega
    · exact cell_alloc (cell_alloc ((Row.one w _ 26).cell 0 (by omega)) _) _
    · have := Row.one ((w.alloc (.cells #[.pointer (some ⟨pl, 0, none⟩)] 26)).alloc (.cells (zeros (.int .i64 0) n) 3)) (.slice (some ⟨w.heap.size + 1, 0, none⟩) n n) 24
      simp only [World.size_alloc] at this
      exact this.cell 0 (by omega)
    have := Row.made (w.alloc (.cells #[.pointer (some ⟨pl, 0, none⟩)] 26)) (.int .i64 0) 3 n
    simp only [World.size_alloc] at this
    exact (this.alloc _).ext (by simp)
  case round =>
    obtain ⟨k, hk, rfl, hB, hsz, c1, c2, hR⟩ := hrel
    by_cases hlt : k < n
    · have hd := hR.cell k hlt
      have hf := hR.free k
      rw [if_neg (by omega)] at hd
      go_wp2
      go_roundw
      case rel => exact ⟨k + 1, by omega, by go_num, hB.setCell (by simp) _, by simpa using hsz, by rw [World.cell?_setCell_other _ _ _ _ (by simp)]; exact c1, by rw [World.cell?_setCell_other _ _ _ _ (by simp)]; exact c2, (hR.set k _).ext (fun i _ => fill_step (fun i => .int .i64 i) _ _ k rfl i)⟩
      case measure => simp [intOf]; omega
    · have e : k = n := by omega
      subst e
      have hE : Env k (w.heap.size + 1) w.heap.size (w.heap.size + 1 + 1) pl ev D wr :=
        ⟨hn, c1, (hB.cell (p := ⟨pl, 7, none⟩) hpl).trans hc, c2, fun t ht => (hB.cell (p := ⟨ev, t * 8, none⟩) hev).trans (HD.out t ht).1, fun t ht => (hB.cell (p := ⟨ev, t * 8 + 1, none⟩) hev).trans (HD.out t ht).2.1,
          fun t ht => (hB.cell (p := ⟨ev, t * 8 + 2, none⟩) hev).trans (HD.out t ht).2.2, by omega, by omega, by omega, by omega⟩
      have hO : Ord wr (w.heap.size + 1) k (fun i => i) := hR.ext (fun i hi => by rw [if_pos hi])
      go_wp2_with fail
      refine (sliceStable_any k (w.heap.size + 1) w.heap.size (w.heap.size + 1 + 1) pl ev D (fun i => i) _ hE hO (fun t _ _ => rfl)).mono ?_
      rintro e w1 ⟨rfl, hg1, d1, hO1, hb1⟩
      have k2 := grown_cell hg1 c2 (by simp)
      have hB1 := grown_below hB hg1 hsz (by omega)
      clear hE hO c1 c2
      go_wp2
      go_ret
      exact ⟨_, d1, rfl, hB1, hO1, hb1⟩

theorem zzOrder_any (pl n : Nat) (D : Nat → Date) (w : World) (hn : n ≤ 65536) (hP : IsPlan w pl n D) :
    Calls Try.prog 6 #[.pointer (some ⟨pl, 0, none⟩)] w fun e w' => ∃ ob d, e = .returned (.slice (some ⟨ob, 0, none⟩) n n) ∧ Below w.heap.size w w' ∧ Ord w' ob n d ∧ Blk D d 0 n := by
  go_enter Try.func6, Try.ntmps6
  go_wp2_with fail
  refine (eventOrder_any pl n D w hn hP).mono ?_
  rintro e w1 ⟨ob, d, rfl, hB, hO, hb⟩
  go_wp2
  go_ret
  exact ⟨ob, d, rfl, hB, hO, hb⟩
end Go.Proofs.Qxb6616128a
