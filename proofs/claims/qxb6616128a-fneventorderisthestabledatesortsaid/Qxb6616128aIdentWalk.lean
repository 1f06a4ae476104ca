import Derived.Test.Qxb6616128aOrder
namespace Go.Proofs.Qxb6616128a
open Go.RowKit
open Plain (Date dlt Keep Blk Fresh Srt Pre Post R Runs Done)
set_option linter.unusedVariables false

theorem info31 : (Try.prog.info? 31).map (fun i => (i.zero, i.size, i.bytes)) = some (some (.agg #[.int .i64 0, .int .i64 0, .int .i64 0]), 3, 24) := by kernel_rfl
theorem Dates.below {w w' : World} {a : Option Addr} {n : Nat} {D : Nat → Date} (h : Dates w a n D) (hB : Below w.heap.size w w') : Dates w' a n D := fun t ht => by
  obtain ⟨b, o, e, c1, c2, c3⟩ := h t ht
  have hb : b < w.heap.size := World.block_lt_of_cell? _ _ c1
  exact ⟨b, o, e, (hB.cell (by exact hb)).trans c1, (hB.cell (by exact hb)).trans c2, (hB.cell (by exact hb)).trans c3⟩
theorem Dates.lt {w : World} {b o n : Nat} {D : Nat → Date} (h : Dates w (some ⟨b, o, none⟩) n D) (hn : 0 < n) : b < w.heap.size := by
  obtain ⟨b', o', e, c1, _⟩ := h 0 hn
  cases e
  exact World.block_lt_of_cell? _ _ c1
theorem Dates.at {w : World} {b o n : Nat} {D : Nat → Date} (h : Dates w (some ⟨b, o, none⟩) n D) (t : Nat) (ht : t < n) : w.cell? ⟨b, o + t * 3, none⟩ = some (.int .i64 (D t).y) ∧ w.cell? ⟨b, o + t * 3 + 1, none⟩ = some (.int .i64 (D t).m) ∧ w.cell? ⟨b, o + t * 3 + 2, none⟩ = some (.int .i64 (D t).d) := by
  obtain ⟨b', o', e, c1, c2, c3⟩ := h t ht
  cases e
  exact ⟨c1, c2, c3⟩

theorem bytes9 (a : Option Addr) (len cap : Nat) (w : World) (h : len ≤ 1048576) :
    Calls Try.prog 9 #[.slice a len cap] w fun e w' => e = .returned (.bool true) ∧ w = w' := by
  go_enter Try.func9, Try.ntmps9
  go_wp2
  go_ret
  exact ⟨rfl, rfl⟩
theorem bytes9_no (a : Option Addr) (len cap : Nat) (w : World) (h : ¬ len ≤ 1048576) :
    Calls Try.prog 9 #[.slice a len cap] w fun e w' => e = .returned (.bool false) ∧ w = w' := by
  go_enter Try.func9, Try.ntmps9
  go_wp2
  go_ret
  exact ⟨rfl, rfl⟩
set_option maxRecDepth 100000 in
theorem ident_off (a : Option Addr) (n c : Nat) (w : World) (hn : 40000 < n) : Calls Try.prog 4 #[.slice a n c] w fun e w' => e = .returned (.bool true) ∧ Below w.heap.size w w' := by
  by_cases h : n ≤ 1048576
  · go_enter Try.func4, Try.ntmps4
    go_wp2_with fail
    refine (bytes9 _ _ _ _ h).mono ?_
    rintro e w1 ⟨rfl, rfl⟩
    go_wp2
    go_ret
    exact ⟨rfl, Below.refl _ _⟩
  · go_enter Try.func4, Try.ntmps4
    go_wp2_with fail
    refine (bytes9_no _ _ _ _ h).mono ?_
    rintro e w1 ⟨rfl, rfl⟩
    go_wp2
    go_ret
    exact ⟨rfl, Below.refl _ _⟩

/-- the dates that lie copied -/
def Copied (f : Nat → Value) (k : Nat) (E : Nat → Date) : Prop := ∀ t, t < k → f (t * 3) = .int .i64 (E t).y ∧ f (t * 3 + 1) = .int .i64 (E t).m ∧ f (t * 3 + 2) = .int .i64 (E t).d
theorem Copied.step {f : Nat → Value} {k : Nat} {E : Nat → Date} (h : Copied f k E) : Copied (fun i => if i = k * 3 + 2 then .int .i64 (E k).d else if i = k * 3 + 1 then .int .i64 (E k).m else if i = k * 3 then .int .i64 (E k).y else f i) (k + 1) E := by
  intro t ht
  by_cases e : t = k
  · subst e; simp
  · obtain ⟨a1, a2, a3⟩ := h t (by omega)
    dsimp only
    rw [if_neg (by omega), if_neg (by omega), if_neg (by omega), if_neg (by omega), if_neg (by omega), if_neg (by omega), if_neg (by omega), if_neg (by omega), if_neg (by omega)]
    exact ⟨a1, a2, a3⟩
theorem Copied.dates {w : World} {b n : Nat} {f : Nat → Value} {E : Nat → Date} (hR : Row w b 31 (n * 3) f) (h : Copied f n E) : Dates w (some ⟨b, 0, none⟩) n E := by
  intro t ht
  obtain ⟨a1, a2, a3⟩ := h t ht
  refine ⟨b, 0, rfl, ?_, ?_, ?_⟩
  · rw [Nat.zero_add, ← a1]; exact hR.cell _ (by omega)
  · rw [Nat.zero_add, ← a2]; exact hR.cell _ (by omega)
  · rw [Nat.zero_add, ← a3]; exact hR.cell _ (by omega)

set_option maxRecDepth 100000 in
set_option maxHeartbeats 800000 in
theorem ident_main (a : Option Addr) (n c : Nat) (D : Nat → Date) (w : World) (hn : n ≤ 40000) (hD : Dates w a n D) : Calls Try.prog 4 #[.slice a n c] w fun e w' => e = .returned (.bool true) ∧ Below w.heap.size w w' := by
  have hmk := mk_many 22 31 _ 3 24 Try.underlying22 info31 n (by omega) (by omega)
  go_enter Try.func4, Try.ntmps4
  go_wp2_with fail
  refine (bytes9 _ _ _ _ (by omega)).mono ?_
  rintro e w1 ⟨rfl, rfl⟩
  go_wp2_with fail
  refine (planOf_any a n c D w (by omega) hD).mono ?_
  rintro e w1 ⟨pl, rfl, hB1, hP1⟩
  go_wp2_with fail
  refine (zzOrder_any pl n D w1 (by omega) hP1).mono ?_
  rintro e w2 ⟨ob, o, rfl, hB2, hO, hb⟩
  have hB : Below w.heap.size w w2 := hB1.trans (hB2.mono hB1.size)
  replace hD := hD.below hB
  have hob := hO.lt
  clear hB1 hB2 hP1
  go_wp2
  go_loopw [6] (fun vk wr => ∃ (k : Nat) (f : Nat → Value), k ≤ n ∧ vk = .int .i64 k ∧ Below w2.heap.size w2 wr ∧ Row wr w2.heap.size 31 (n * 3) f ∧ Copied f k (fun t => D (o t))) (fun vk _ => n - (intOf vk).toNat)
  case atStart => exact ⟨0, _, Nat.zero_le _, rfl, (Below.refl _ _).alloc (Nat.le_refl _) _, Row.madeN w2 _ 31 (n * 3), fun t ht => absurd ht (by omega)⟩
  case round =>
    obtain ⟨k, f, hk, rfl, hBr, hR, hC⟩ := hrel
    by_cases hlt : k < n
    · have o1 := (Row.below hO hBr hob).cell k hlt
      have h0 := (hb.2 k (Nat.zero_le _) hlt).2
      obtain ⟨b, of, rfl, c1, c2, c3⟩ := (hD.below hBr) (o k) h0
      have e0 := hR.cell (k * 3) (by omega)
      have e1 := hR.cell (k * 3 + 1) (by omega)
      have e2 := hR.cell (k * 3 + 2) (by omega)
      have f0 := hR.free (k * 3)
      have f1 := hR.free (k * 3 + 1)
      have f2 := hR.free (k * 3 + 2)
      have hC2 : Copied _ (k + 1) (fun t => D (o t)) := hC.step
      clear hD hO hb hC
      go_wp2
      go_roundw
      case rel => exact ⟨k + 1, _, by omega, by go_num, ((hBr.setCell (Nat.le_refl _) _).setCell (Nat.le_refl _) _).setCell (Nat.le_refl _) _, ((hR.set (k * 3) _).set (k * 3 + 1) _).set (k * 3 + 2) _, hC2⟩
      case measure => simp [intOf]; omega
    · have e : k = n := by omega
      subst e
      have hD2 := Copied.dates hR hC
      clear hD hR hC hO hmk
      go_wp2_with fail
      refine (planOf_any _ k k (fun t => D (o t)) _ (by omega) hD2).mono ?_
      rintro e w3 ⟨pl2, rfl, hB3, hP3⟩
      go_wp2_with fail
      refine (zzOrder_any pl2 k (fun t => D (o t)) w3 (by omega) hP3).mono ?_
      rintro e w4 ⟨ob2, o2, rfl, hB4, hO2, hb2⟩
      replace hB := hB.trans (hBr.mono hB.size)
      replace hB := hB.trans (hB3.mono hB.size)
      replace hB := hB.trans (hB4.mono hB.size)
      have hid := Plain.again_id hb hb2
      have HI : Hid (∀ t, t < k → o2 t = t) := hid
      have hob2 := hO2.lt
      clear hb hb2 hid hBr hB3 hB4 hP3 hD2 hlt hk
      go_wp2
      go_loopw [9] (fun vq wr => ∃ q : Nat, q ≤ k ∧ vq = .int .i64 q ∧ Below w4.heap.size w4 wr) (fun vq _ => k - (intOf vq).toNat)
      case atStart => exact ⟨0, Nat.zero_le _, rfl, Below.refl _ _⟩
      case round =>
        obtain ⟨q, hq, rfl, hBr⟩ := hrel
        by_cases hlt : q < k
        · have o1 := (Row.below hO2 hBr hob2).cell q hlt
          rw [HI.out q hlt] at o1
          go_wp2
          go_roundw
          case rel => exact ⟨q + 1, by omega, by go_num, hBr⟩
          case measure => simp [intOf]; omega
        · go_wp2
          go_ret
          exact ⟨rfl, hB.trans (hBr.mono hB.size)⟩
end Go.Proofs.Qxb6616128a
