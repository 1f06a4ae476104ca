import Derived.Test.Qxb6616022aOr
namespace Go.Proofs.Qxb6616022a
open Go.RowKit
attribute [local go_sem] eqnil22 eqnil24 eqnil62 neqnil28 ptr31

theorem pair_cell (w : World) (x y : Addr) (t : TypeId) (i : Nat) (hi : i < 2) :
    (w.alloc (.cells #[.pointer (some x), .pointer (some y)] t)).cell? ((⟨w.heap.size, 0, none⟩ : Addr).add i) = some (.pointer (some (if i = 0 then x else y))) := by
  rw [add_at, World.cell?_alloc_new]
  match i, hi with
  | 0, _ => rfl
  | 1, _ => rfl

theorem bytes13 (a : Option Addr) (len cap : Nat) (k : Int) (w : World) (h : len ≤ 1048576) :
    Calls Try.prog 13 #[.slice a len cap, .int .i64 k] w fun e w' => e = .returned (.bool true) ∧ w = w' := by
  go_enter Try.func13, Try.ntmps13
  go_wp2
  go_ret
  exact ⟨rfl, rfl⟩
theorem bytes13_no (a : Option Addr) (len cap : Nat) (k : Int) (w : World) (h : ¬ len ≤ 1048576) :
    Calls Try.prog 13 #[.slice a len cap, .int .i64 k] w fun e w' => e = .returned (.bool false) ∧ w = w' := by
  go_enter Try.func13, Try.ntmps13
  go_wp2
  go_ret
  exact ⟨rfl, rfl⟩

set_option maxRecDepth 100000 in
set_option maxHeartbeats 400000 in
theorem nest_off (a : Option Addr) (len cap : Nat) (k : Int) (w : World) (h : 65536 < len ∨ k < 0 ∨ (len : Int) < k) :
    Calls Try.prog 4 #[.slice a len cap, .int .i64 k] w fun e w' => e = .returned (.bool true) ∧ Below w.heap.size w w' := by
  by_cases h1 : len ≤ 1048576
  · by_cases h2 : 65536 < len
    · go_enter Try.func4, Try.ntmps4
      go_wp2_with fail
      refine (bytes13 _ _ _ _ _ (by omega)).mono ?_
      rintro e w1 ⟨rfl, rfl⟩
      go_wp2
      go_ret
      exact ⟨rfl, Below.refl _ _⟩
    · by_cases h3 : k < 0
      · go_enter Try.func4, Try.ntmps4
        go_wp2_with fail
        refine (bytes13 _ _ _ _ _ (by omega)).mono ?_
        rintro e w1 ⟨rfl, rfl⟩
        go_wp2
        go_ret
        exact ⟨rfl, Below.refl _ _⟩
      · have h4 : (len : Int) < k := by omega
        go_enter Try.func4, Try.ntmps4
        go_wp2_with fail
        refine (bytes13 _ _ _ _ _ (by omega)).mono ?_
        rintro e w1 ⟨rfl, rfl⟩
        go_wp2
        go_ret
        exact ⟨rfl, Below.refl _ _⟩
  · go_enter Try.func4, Try.ntmps4
    go_wp2_with fail
    refine (bytes13_no _ _ _ _ _ (by omega)).mono ?_
    rintro e w1 ⟨rfl, rfl⟩
    go_wp2
    go_ret
    exact ⟨rfl, Below.refl _ _⟩

set_option maxRecDepth 100000 in
set_option maxHeartbeats 400000 in
theorem nest_main (x : Addr) (len cap k : Nat) (zs : List Int) (w : World) (hl : len ≤ 65536) (hz : len ≤ zs.length) (hk : k ≤ len)
    (hc : ∀ i, i < len → w.cell? (x.add i) = some (.int .u8 (zs.getD i 0))) (hb : ∀ i, 0 ≤ zs.getD i 0 ∧ zs.getD i 0 ≤ 255) :
    Calls Try.prog 4 #[.slice (some x) len cap, .int .i64 k] w fun e w' => e = .returned (.bool true) ∧ Below w.heap.size w w' := by
  have HC : Hid (∀ i, i < len → w.cell? (x.add i) = some (.int .u8 (zs.getD i 0))) := hc
  have HB : Hid (∀ i, 0 ≤ zs.getD i 0 ∧ zs.getD i 0 ≤ 255) := hb
  clear hc hb
  obtain ⟨cs, h27⟩ := zero27
  go_enter Try.func4, Try.ntmps4
  go_wp2_with fail
  refine (bytes13 _ _ _ _ _ (by omega)).mono ?_
  rintro e w1 ⟨rfl, rfl⟩
  go_wp2_with fail
  refine (orList_some w.heap.size x len cap zs _ hl hz (fun i hi => (cell_alloc (HC.out i hi) _)) HB.out).mono ?_
  rintro e w2 ⟨bl, rfl, hB, hR⟩
  have hcut := cut_run 28 31 1 Try.underlying28 (sizeRun info31) ⟨bl, 0, none⟩ k len hk
  replace hB : Below w.heap.size w w2 := ((Below.refl _ _).alloc (Nat.le_refl _) _).trans (hB.mono (by simp))
  go_wp2_with fail
  refine (newOr_some ⟨bl, 0, none⟩ k len (fun i => ⟨w.heap.size, (zs.getD i 0).toNat, none⟩) _ (by omega) (fun i hi => by rw [add_at, Nat.zero_add]; exact hR.cell i (by omega))).mono ?_
  rintro e w4 ⟨p1, c1, rfl, hB3, hN1⟩
  replace hR := hR.below hB3 hR.lt
  replace hB := hB.trans (hB3.mono hB.size)
  clear hB3
  go_wp2_with fail
  refine (newOr_some (cutAt ⟨bl, 0, none⟩ k len 1) (len - k) (len - k) (fun i => ⟨w.heap.size, (zs.getD (k + i) 0).toNat, none⟩) _ (by omega) (fun i hi => by rw [cutAt_add _ _ _ _ _ _ (by omega), Nat.zero_add, Nat.mul_one]; exact hR.cell (k + i) (by omega))).mono ?_
  rintro e w5 ⟨p2, c2, rfl, hB3, hN2⟩
  replace hN1 := hN1.below hB3
  replace hB := hB.trans (hB3.mono hB.size)
  clear hB3 hR hcut
  go_wp2_with fail
  refine (newOr_some ⟨w5.heap.size, 0, none⟩ 2 2 (fun i => if i = 0 then ⟨p1, 0, none⟩ else ⟨p2, 0, none⟩) _ (by omega) (fun i hi => pair_cell w5 _ _ 31 i hi)).mono ?_
  rintro e w6 ⟨p3, c3, rfl, hB3, hN3⟩
  replace hB3 : Below w5.heap.size w5 w6 := ((Below.refl _ _).alloc (Nat.le_refl _) _).trans (hB3.mono (by simp))
  replace hN1 := hN1.below hB3
  replace hN2 := hN2.below hB3
  replace hB := hB.trans (hB3.mono hB.size)
  clear hB3
  go_wp2_with fail
  refine (orParts_node _ _ _ _ _ hN3).mono ?_
  rintro e w7 ⟨b3, rfl, hB3, hR3⟩
  replace hN1 := hN1.below hB3
  replace hN2 := hN2.below hB3
  replace hB := hB.trans (hB3.mono hB.size)
  clear hB3 hN3
  have hd0 := hR3.cell 0 (by omega)
  have hd1 := hR3.cell 1 (by omega)
  simp only [if_true, if_neg (show ¬ (1 = 0) by omega)] at hd0 hd1
  go_wp2_with fail
  refine (orParts_node _ _ _ _ _ hN1).mono ?_
  rintro e w8 ⟨b1, rfl, hB3, hR1⟩
  replace hN2 := hN2.below hB3
  replace hR3 := hR3.below hB3 hR3.lt
  replace hB := hB.trans (hB3.mono hB.size)
  clear hB3 hN1 hd0 hd1
  have hd1 := hR3.cell 1 (by omega)
  simp only [if_neg (show ¬ (1 = 0) by omega)] at hd1
  go_wp2_with fail
  refine (orParts_node _ _ _ _ _ hN2).mono ?_
  rintro e w9 ⟨b2, rfl, hB3, hR2⟩
  replace hR1 := hR1.below hB3 hR1.lt
  replace hB := hB.trans (hB3.mono hB.size)
  clear hB3 hN2 hd1 hR3
  go_wp2
  go_loopw [25] (fun i wr => ∃ j : Nat, j ≤ k ∧ i = .int .i64 j ∧ Below w9.heap.size w9 wr) (fun i _ => k - (intOf i).toNat)
  case atStart => exact ⟨0, Nat.zero_le _, rfl, Below.refl _ _⟩
  case round =>
    obtain ⟨j, hj, rfl, hBr⟩ := hrel
    by_cases hlt : j < k
    · have hlt2 : j < len := by omega
      have hck := HC.out j hlt2
      obtain ⟨b, off, rfl, hbw⟩ := addr_at (HC.out 0 (by omega))
      rw [add_at] at hck
      replace hck := (hBr.cell (p := ⟨b, off + j, none⟩) (by have := hB.size; simp only; omega)).trans ((hB.cell (p := ⟨b, off + j, none⟩) hbw).trans hck)
      have hd := (hR1.below hBr hR1.lt).cell j hlt
      obtain ⟨hb0, hb1⟩ := HB.out j
      generalize zs.getD j 0 = z at hck hd hb0 hb1
      clear hR1 hR2
      go_wp2
      go_quiet (fail)
      go_wp2
      go_roundw
      case rel => exact ⟨j + 1, by omega, by go_num, belowN hBr _⟩
      case measure => simp [intOf]; omega
    · go_wp2
      go_loopw [26] (fun i wr => ∃ j : Nat, j ≤ len - k ∧ i = .int .i64 j ∧ Below w9.heap.size w9 wr) (fun i _ => (len - k) - (intOf i).toNat)
      case atStart => exact ⟨0, Nat.zero_le _, rfl, hBr⟩
      case round =>
        clear hBr hlt hj
        obtain ⟨j, hj, rfl, hBr⟩ := hrel
        by_cases hlt : j < len - k
        · have hlt2 : k + j < len := by omega
          have hck := HC.out (k + j) hlt2
          obtain ⟨b, off, rfl, hbw⟩ := addr_at (HC.out 0 (by omega))
          rw [add_at] at hck
          replace hck := (hBr.cell (p := ⟨b, off + (k + j), none⟩) (by have := hB.size; simp only; omega)).trans ((hB.cell (p := ⟨b, off + (k + j), none⟩) hbw).trans hck)
          have hd := (hR2.below hBr hR2.lt).cell j hlt
          obtain ⟨hb0, hb1⟩ := HB.out (k + j)
          generalize zs.getD (k + j) 0 = z at hck hd hb0 hb1
          clear hR1 hR2
          go_wp2
          go_quiet (fail)
          go_wp2
          go_roundw
          case rel => exact ⟨j + 1, by omega, by go_num, belowN hBr _⟩
          case measure => simp [intOf]; omega
        · go_wp2
          go_ret
          exact ⟨rfl, hB.trans (hBr.mono hB.size)⟩

set_option maxRecDepth 100000 in
set_option maxHeartbeats 400000 in
theorem nest_nil (w : World) : Calls Try.prog 4 #[.slice none 0 0, .int .i64 0] w fun e w' => e = .returned (.bool true) ∧ Below w.heap.size w w' := by
  obtain ⟨cs, h27⟩ := zero27
  go_enter Try.func4, Try.ntmps4
  go_wp2_with fail
  refine (bytes13 _ _ _ _ _ (by omega)).mono ?_
  rintro e w1 ⟨rfl, rfl⟩
  go_wp2_with fail
  refine (orList_nil w.heap.size _).mono ?_
  rintro e w2 ⟨rfl, rfl⟩
  go_wp2_with fail
  refine (newOr_none (fun _ => ⟨0, 0, none⟩) _ _).mono ?_
  rintro e w3 ⟨p1, rfl, hB3, hN1⟩
  have hB : Below w.heap.size w w3 := ((Below.refl _ _).alloc (Nat.le_refl _) _).trans (hB3.mono (by simp))
  clear hB3
  go_wp2_with fail
  refine (newOr_none (fun _ => ⟨0, 0, none⟩) _ _).mono ?_
  rintro e w5 ⟨p2, rfl, hB3, hN2⟩
  replace hN1 := hN1.below hB3
  replace hB := hB.trans (hB3.mono hB.size)
  clear hB3
  go_wp2_with fail
  refine (newOr_some ⟨w5.heap.size, 0, none⟩ 2 2 (fun i => if i = 0 then ⟨p1, 0, none⟩ else ⟨p2, 0, none⟩) _ (by omega) (fun i hi => pair_cell w5 _ _ 31 i hi)).mono ?_
  rintro e w6 ⟨p3, c3, rfl, hB3, hN3⟩
  replace hB3 : Below w5.heap.size w5 w6 := ((Below.refl _ _).alloc (Nat.le_refl _) _).trans (hB3.mono (by simp))
  replace hN1 := hN1.below hB3
  replace hN2 := hN2.below hB3
  replace hB := hB.trans (hB3.mono hB.size)
  clear hB3
  go_wp2_with fail
  refine (orParts_node _ _ _ _ _ hN3).mono ?_
  rintro e w7 ⟨b3, rfl, hB3, hR3⟩
  replace hN1 := hN1.below hB3
  replace hN2 := hN2.below hB3
  replace hB := hB.trans (hB3.mono hB.size)
  clear hB3 hN3
  have hd0 := hR3.cell 0 (by omega)
  have hd1 := hR3.cell 1 (by omega)
  simp only [if_true, if_neg (show ¬ (1 = 0) by omega)] at hd0 hd1
  go_wp2_with fail
  refine (orParts_node _ _ _ _ _ hN1).mono ?_
  rintro e w8 ⟨b1, rfl, hB3, hR1⟩
  replace hN2 := hN2.below hB3
  replace hR3 := hR3.below hB3 hR3.lt
  replace hB := hB.trans (hB3.mono hB.size)
  clear hB3 hN1 hd0 hd1
  have hd1 := hR3.cell 1 (by omega)
  simp only [if_neg (show ¬ (1 = 0) by omega)] at hd1
  go_wp2_with fail
  refine (orParts_node _ _ _ _ _ hN2).mono ?_
  rintro e w9 ⟨b2, rfl, hB3, hR2⟩
  replace hR1 := hR1.below hB3 hR1.lt
  replace hB := hB.trans (hB3.mono hB.size)
  clear hB3 hN2 hd1 hR3
  go_wp2
  refine wp_loop_rounds 1 ?_
  rw [rounds_succ]
  go_wp2
  refine wp_loop_rounds 1 ?_
  rw [rounds_succ]
  go_wp2
  go_ret
  exact ⟨rfl, hB⟩

end Go.Proofs.Qxb6616022a
