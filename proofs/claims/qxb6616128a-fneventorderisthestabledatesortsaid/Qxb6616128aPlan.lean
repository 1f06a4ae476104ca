import Derived.Test.Qxb6616128aSlice
namespace Go.Proofs.Qxb6616128a
open Go.RowKit
open Plain (Date dlt Keep Blk Fresh Srt Pre Post R Runs Done)
set_option linter.unusedVariables false

theorem zzdate_any (y m d : Int) (w : World) : Calls Try.prog 11 #[.int .i64 y, .int .i64 m, .int .i64 d] w fun e w' => e = .returned (.agg #[.int .i64 y, .int .i64 m, .int .i64 d]) ∧ w.grownBy w' none := by
  go_enter Try.func11, Try.ntmps11
  go_wp2
  exact bodyPost_ret (v := .agg #[.int .i64 y, .int .i64 m, .int .i64 d]) (by simp [results, Try.results11, go_sem]) rfl ⟨rfl, grown_alloc (grown_refl _ _) _⟩

theorem info41 : (Try.prog.info? 41).map (fun i => (i.zero, i.size, i.bytes)) = some (some (.agg #[.int .i64 0, .int .i64 0, .int .i64 0, .string ⟨#[]⟩, .pointer none, .pointer none, .pointer none, .pointer none]), 8, 72) := by kernel_rfl
theorem mk_many (t e : TypeId) (cs : Array Value) (size b : Nat) (hu : Try.prog.underlying t = some (.slice e)) (h : (Try.prog.info? e).map (fun i => (i.zero, i.size, i.bytes)) = some (some (.agg cs), size, b)) (n : Nat)
    (hn : b * n ≤ 281474976710656) (hm : n ≤ 9223372036854775807) (w : World) :
    (Instr.makeSlice t (.int .i64 n) (.int .i64 n)).run Try.prog w = .ok (.slice (some ⟨w.heap.size, 0, none⟩) n n) (w.alloc (.cells (madeCells cs (n * size)) e)) := by
  obtain ⟨i0, hi, hz0, hz1, hz2⟩ := info_parts h
  have hb' : (i0.bytes : Int) * (n : Int) ≤ 281474976710656 := by
    rw [hz2]
    have h : ((b * n : Nat) : Int) ≤ 281474976710656 := by omega
    rwa [Int.natCast_mul] at h
  have hmk := run_make (P := Try.prog) w t e i0 _ hu hi hz0 .i64 .i64 n n (by omega) (by omega) hb' (by omega)
  rw [hz1] at hmk
  simp only [Int.toNat_natCast, Value.cells] at hmk
  exact hmk
theorem Row.madeN (w : World) (cs : Array Value) (t : TypeId) (n : Nat) : Row (w.alloc (.cells (madeCells cs n) t)) w.heap.size t n (fun i => cs[i % cs.size]!) := by
  unfold Row
  rw [heap_alloc_new w]
  congr 2
  apply Array.ext <;> simp [madeCells]

/-- the dates of a slice of EvDate -/
def Dates (w : World) (a : Option Addr) (n : Nat) (D : Nat → Date) : Prop := ∀ t, t < n → ∃ b o, a = some ⟨b, o, none⟩ ∧ w.cell? ⟨b, o + t * 3, none⟩ = some (.int .i64 (D t).y) ∧ w.cell? ⟨b, o + t * 3 + 1, none⟩ = some (.int .i64 (D t).m) ∧ w.cell? ⟨b, o + t * 3 + 2, none⟩ = some (.int .i64 (D t).d)

/-- a plan with n events of the dates D -/
def IsPlan (w : World) (pl : Nat) (n : Nat) (D : Nat → Date) : Prop := ∃ ev, ev < w.heap.size ∧ w.cell? ⟨pl, 7, none⟩ = some (.slice (some ⟨ev, 0, none⟩) n n) ∧
      ∀ t, t < n → w.cell? ⟨ev, t * 8, none⟩ = some (.int .i64 (D t).y) ∧ w.cell? ⟨ev, t * 8 + 1, none⟩ = some (.int .i64 (D t).m) ∧ w.cell? ⟨ev, t * 8 + 2, none⟩ = some (.int .i64 (D t).d)
theorem plan_step {w wr w1 : World} {n k : Nat} {f : Nat → Value} {D : Nat → Date} (hB : Below w.heap.size w wr) (hsz : w.heap.size < wr.heap.size) (hR : Row wr w.heap.size 41 (n * 8) f)
    (hf : ∀ t, t < k → f (t * 8) = .int .i64 (D t).y ∧ f (t * 8 + 1) = .int .i64 (D t).m ∧ f (t * 8 + 2) = .int .i64 (D t).d) (hg : wr.drew.grownBy w1 none) :
    ∃ f', Below w.heap.size w (((w1.setCell ⟨w.heap.size, k * 8, none⟩ (.int .i64 (D k).y)).setCell ⟨w.heap.size, k * 8 + 1, none⟩ (.int .i64 (D k).m)).setCell ⟨w.heap.size, k * 8 + 2, none⟩ (.int .i64 (D k).d)) ∧
      w.heap.size < (((w1.setCell ⟨w.heap.size, k * 8, none⟩ (.int .i64 (D k).y)).setCell ⟨w.heap.size, k * 8 + 1, none⟩ (.int .i64 (D k).m)).setCell ⟨w.heap.size, k * 8 + 2, none⟩ (.int .i64 (D k).d)).heap.size ∧
      Row (((w1.setCell ⟨w.heap.size, k * 8, none⟩ (.int .i64 (D k).y)).setCell ⟨w.heap.size, k * 8 + 1, none⟩ (.int .i64 (D k).m)).setCell ⟨w.heap.size, k * 8 + 2, none⟩ (.int .i64 (D k).d)) w.heap.size 41 (n * 8) f' ∧
      ∀ t, t < k + 1 → f' (t * 8) = .int .i64 (D t).y ∧ f' (t * 8 + 1) = .int .i64 (D t).m ∧ f' (t * 8 + 2) = .int .i64 (D t).d := by
  have hR1 : Row w1 w.heap.size 41 (n * 8) f := grown_row (Row.drew hR) hg (by simp)
  have hB1 : Below w.heap.size w w1 := hB.drew.grown hg (by simp; omega) (fun k e => by cases e)
  have hs : wr.heap.size ≤ w1.heap.size := hg.size
  refine ⟨_, ((hB1.setCell (Nat.le_refl _) _).setCell (Nat.le_refl _) _).setCell (Nat.le_refl _) _, by simp; omega, ((hR1.set (k * 8) _).set (k * 8 + 1) _).set (k * 8 + 2) _, fun t ht => ?_⟩
  by_cases e : t = k
  · subst e
    simp
  · obtain ⟨a1, a2, a3⟩ := hf t (by omega)
    rw [if_neg (by omega), if_neg (by omega), if_neg (by omega), if_neg (by omega), if_neg (by omega), if_neg (by omega), if_neg (by omega), if_neg (by omega), if_neg (by omega)]
    exact ⟨a1, a2, a3⟩

set_option maxRecDepth 100000 in
set_option maxHeartbeats 800000 in
theorem planOf_any (a : Option Addr) (n c : Nat) (D : Nat → Date) (w : World) (hn : n ≤ 65536) (hD : Dates w a n D) :
    Calls Try.prog 7 #[.slice a n c] w fun e w' => ∃ pl, e = .returned (.pointer (some ⟨pl, 0, none⟩)) ∧ Below w.heap.size w w' ∧ IsPlan w' pl n D := by
  have hmk := mk_many 33 41 _ 8 72 Try.underlying33 info41 n (by omega) (by omega)
  go_enter Try.func7, Try.ntmps7
  go_wp2
  go_loopw [4] (fun vi wr => ∃ (k : Nat) (f : Nat → Value), k ≤ n ∧ vi = .int .i64 k ∧ Below w.heap.size w wr ∧ w.heap.size < wr.heap.size ∧ Row wr w.heap.size 41 (n * 8) f ∧
      ∀ t, t < k → f (t * 8) = .int .i64 (D t).y ∧ f (t * 8 + 1) = .int .i64 (D t).m ∧ f (t * 8 + 2) = .int .i64 (D t).d) (fun vi _ => n - (intOf vi).toNat)
  case atStart => exact ⟨0, _, Nat.zero_le _, rfl, (Below.refl _ _).alloc (Nat.le_refl _) _, by simp, Row.madeN w _ 41 (n * 8), fun t ht => absurd ht (by omega)⟩
  case round =>
    obtain ⟨k, f, hk, rfl, hB, hsz, hR, hf⟩ := hrel
    by_cases hlt : k < n
    · obtain ⟨b, o, rfl, c1, c2, c3⟩ := hD k hlt
      have hbw : b < w.heap.size := World.block_lt_of_cell? _ _ c1
      replace c1 := (hB.cell (p := ⟨b, o + k * 3, none⟩) hbw).trans c1
      replace c2 := (hB.cell (p := ⟨b, o + k * 3 + 1, none⟩) hbw).trans c2
      replace c3 := (hB.cell (p := ⟨b, o + k * 3 + 2, none⟩) hbw).trans c3
      have HF : Hid _ := hf
      clear hD hf
      go_wp2_with fail
      go_region_with (go_at_call 11; refine (zzdate_any _ _ _ _).mono ?_; rintro e w1 ⟨rfl, hg1⟩; have hR1 : Row w1 w.heap.size 41 (n * 8) f := grown_row (Row.drew hR) hg1 (by simp); have e0 := hR1.cell (k * 8) (by omega); have e1 := hR1.cell (k * 8 + 1) (by omega); have e2 := hR1.cell (k * 8 + 2) (by omega); have f0 := hR1.free (k * 8); have f1 := hR1.free (k * 8 + 1); have f2 := hR1.free (k * 8 + 2))
      all_goals
        obtain ⟨f', g1, g2, g3, g4⟩ := plan_step hB hsz hR HF.out hg1
        clear hR hR1 e0 e1 e2 f0 f1 f2 c1 c2 c3
        go_wp2
        go_roundw
        case rel => exact ⟨k + 1, f', by omega, by go_num, g1, g2, g3, g4⟩
        case measure => simp [intOf]; omega
    · have e : k = n := by omega
      subst e
      go_wp2
      go_ret
      refine ⟨wr.heap.size, rfl, hB.alloc (by omega) _, w.heap.size, by simp; omega, by simp, fun t ht => ?_⟩
      obtain ⟨a1, a2, a3⟩ := hf t ht
      have r := hR.alloc (.cells #[.string ⟨#[]⟩, .int .i64 0, .bool false, .pointer none, .int .i64 0, .pointer none, .slice none 0 0, .slice (some ⟨w.heap.size, 0, none⟩) k k, .slice none 0 0, .map none] 48)
      exact ⟨by rw [← a1]; exact r.cell _ (by omega), by rw [← a2]; exact r.cell _ (by omega), by rw [← a3]; exact r.cell _ (by omega)⟩
end Go.Proofs.Qxb6616128a
