import Derived.Test.Qxb6616022aArith2
namespace Go.Proofs.Qxb6616022a
open Go.RowKit
attribute [local go_sem] eqnil22 eqnil24 eqnil62 neqnil22 ptr49

theorem bytes26 (a : Option Addr) (len cap : Nat) (k : Int) (w : World) (h : len ≤ 1048576) :
    Calls Try.prog 26 #[.slice a len cap, .int .i64 k] w fun e w' => e = .returned (.bool true) ∧ w = w' := by
  go_enter Try.func26, Try.ntmps26
  go_wp2
  go_ret
  exact ⟨rfl, rfl⟩
theorem bytes26_no (a : Option Addr) (len cap : Nat) (k : Int) (w : World) (h : ¬ len ≤ 1048576) :
    Calls Try.prog 26 #[.slice a len cap, .int .i64 k] w fun e w' => e = .returned (.bool false) ∧ w = w' := by
  go_enter Try.func26, Try.ntmps26
  go_wp2
  go_ret
  exact ⟨rfl, rfl⟩

theorem out_inner (p L k j : Nat) (hj : 1 ≤ j) : outAt ⟨p, 0, none⟩ (fun i => ⟨L, (k + i + 1) * 2, none⟩) j = ⟨L, (k + j) * 2, none⟩ := by
  unfold outAt
  rw [if_neg (by omega)]
  show (⟨L, (k + (j - 1) + 1) * 2, none⟩ : Addr) = _
  rw [show k + (j - 1) + 1 = k + j by omega]

set_option maxRecDepth 100000 in
set_option maxHeartbeats 400000 in
theorem anest_off (a : Option Addr) (len cap : Nat) (k : Int) (w : World) (h : 65536 < len ∨ k < 0 ∨ (len : Int) < k) :
    Calls Try.prog 7 #[.slice a len cap, .int .i64 k] w fun e w' => e = .returned (.bool true) ∧ Below w.heap.size w w' := by
  by_cases h1 : len ≤ 1048576
  · by_cases h2 : 65536 < len
    · go_enter Try.func7, Try.ntmps7
      go_wp2_with fail
      refine (bytes26 _ _ _ _ _ (by omega)).mono ?_
      rintro e w1 ⟨rfl, rfl⟩
      go_wp2
      go_ret
      exact ⟨rfl, Below.refl _ _⟩
    · by_cases h3 : k < 0
      · go_enter Try.func7, Try.ntmps7
        go_wp2_with fail
        refine (bytes26 _ _ _ _ _ (by omega)).mono ?_
        rintro e w1 ⟨rfl, rfl⟩
        go_wp2
        go_ret
        exact ⟨rfl, Below.refl _ _⟩
      · have h4 : (len : Int) < k := by omega
        go_enter Try.func7, Try.ntmps7
        go_wp2_with fail
        refine (bytes26 _ _ _ _ _ (by omega)).mono ?_
        rintro e w1 ⟨rfl, rfl⟩
        go_wp2
        go_ret
        exact ⟨rfl, Below.refl _ _⟩
  · go_enter Try.func7, Try.ntmps7
    go_wp2_with fail
    refine (bytes26_no _ _ _ _ _ (by omega)).mono ?_
    rintro e w1 ⟨rfl, rfl⟩
    go_wp2
    go_ret
    exact ⟨rfl, Below.refl _ _⟩

set_option maxRecDepth 100000 in
set_option maxHeartbeats 400000 in
theorem anest_main (x : Addr) (n cap k : Nat) (o : Nat → Int) (w : World) (hl : n ≤ 65536) (hk : k ≤ n)
    (hc : ∀ i, i < n → w.cell? (x.add i) = some (.int .u8 (o i))) (hb : ∀ i, 0 ≤ o i ∧ o i ≤ 255) :
    Calls Try.prog 7 #[.slice (some x) n cap, .int .i64 k] w fun e w' => e = .returned (.bool true) ∧ Below w.heap.size w w' := by
  have hmk := mk_one 22 5 (.int .u8 0) 1 Try.underlying22 info5 rfl n (by omega) (by omega)
  have hcp := copy_new 22 5 Try.underlying22 (by kernel_rfl) (.int .u8 0) n x cap (fun i => .int .u8 (o i)) (fun _ => rfl) w hc
  have HB : Hid (∀ i, 0 ≤ o i ∧ o i ≤ 255) := hb
  clear hc hb
  go_enter Try.func7, Try.ntmps7
  go_wp2_with fail
  refine (bytes26 _ _ _ _ _ (by omega)).mono ?_
  rintro e w1 ⟨rfl, rfl⟩
  go_wp2_with fail
  refine (leaves_any n _ hl).mono ?_
  rintro e w2 ⟨L, by2, rfl, hB2, hY⟩
  have hO := (Row.arr w (fun i => .int .u8 (o i)) 5 n).below hB2 (by simp)
  have hB : Below w.heap.size w w2 := ((Below.refl _ _).alloc (Nat.le_refl _) _).trans (hB2.mono (by simp))
  clear hB2 hcp hmk
  have hcut := cut_run 22 5 1 Try.underlying22 (sizeRun info5) ⟨w.heap.size, 0, none⟩ k n hk
  have hcut2 := cut_run 46 49 1 Try.underlying46 (sizeRun info49) ⟨by2, 0, none⟩ k n hk
  go_wp2_with fail
  refine (newArith_any ⟨L, 0, none⟩ _ n n ⟨by2, 0, none⟩ n o (fun i => ⟨L, (i + 1) * 2, none⟩) _ hl (fun i _ => HB.out i) (fun i hi => ⟨_, rfl, by rw [add_at, Nat.zero_add]; exact hO.cell i hi⟩) (fun i hi => by rw [add_at, Nat.zero_add]; exact hY.cell i hi)).mono ?_
  rintro e w3 ⟨p1, rfl, hB3, hN1⟩
  replace hO := hO.below hB3 hO.lt
  replace hY := hY.below hB3 hY.lt
  replace hB := hB.trans (hB3.mono hB.size)
  clear hB3
  go_wp2_with fail
  go_region_with (go_at_call 23; refine (newArith_any ⟨L, 0, none⟩ _ k n ⟨by2, 0, none⟩ n o (fun i => ⟨L, (i + 1) * 2, none⟩) _ (by omega) (fun i _ => HB.out i) (fun i hi => ⟨_, rfl, by rw [add_at, Nat.zero_add]; exact hO.cell i (by omega)⟩) (fun i hi => by rw [add_at, Nat.zero_add]; exact hY.cell i (by omega))).mono ?_; rintro e w4 ⟨p2, rfl, hB3, hN2⟩)
  replace hB3 : Below w3.heap.size w3 w4 := (Below.refl _ w3).drew.trans hB3
  replace hO := hO.below hB3 hO.lt
  replace hY := hY.below hB3 hY.lt
  replace hN1 := hN1.below hB3
  replace hB := hB.trans (hB3.mono hB.size)
  clear hB3
  have hkn : k < n + 1 := by omega
  go_wp2_with fail
  go_region_with (go_at_call 23; refine (newArith_any ⟨p2, 0, none⟩ _ (n - k) (n - k) (cutAt ⟨by2, 0, none⟩ k n 1) (n - k) (fun i => o (k + i)) (fun i => ⟨L, (k + i + 1) * 2, none⟩) _ (by omega) (fun i _ => HB.out _) (fun i hi => ⟨_, rfl, by rw [cutAt_add _ _ _ _ _ _ (by omega), Nat.zero_add, Nat.mul_one]; exact hO.cell (k + i) (by omega)⟩) (fun i hi => by rw [cutAt_add _ _ _ _ _ _ (by omega), Nat.zero_add, Nat.mul_one]; exact hY.cell (k + i) (by omega))).mono ?_; rintro e w5 ⟨p3, rfl, hB3, hN3⟩)
  replace hB3 : Below w4.heap.size w4 w5 := (Below.refl _ w4).drew.trans hB3
  replace hO := hO.below hB3 hO.lt
  replace hN1 := hN1.below hB3
  replace hN2 := hN2.below hB3
  replace hB := hB.trans (hB3.mono hB.size)
  clear hB3 hcut hcut2 hY
  go_wp2_with fail
  refine (arithParts_any _ _ _ _ _ _ hN1).mono ?_
  rintro e w6 ⟨b1, rfl, hB3, hR1⟩
  replace hO := hO.below hB3 hO.lt
  replace hN2 := hN2.below hB3
  replace hN3 := hN3.below hB3
  replace hB := hB.trans (hB3.mono hB.size)
  clear hB3 hN1
  go_wp2_with fail
  refine (sameBytes_any o n _ n _ hl (fun i _ => HB.out i) (fun i hi => ⟨_, rfl, by rw [add_at, Nat.zero_add]; exact hO.cell i hi⟩)).mono ?_
  rintro e w9 ⟨rfl, hB3⟩
  replace hR1 := hR1.below hB3 hR1.lt
  replace hN2 := hN2.below hB3
  replace hN3 := hN3.below hB3
  replace hB := hB.trans (hB3.mono hB.size)
  clear hB3 hO
  replace hR1 := hR1.ext (g := fun i => .pointer (some ⟨L, i * 2, none⟩)) (fun i _ => by rw [out_leaf0])
  go_wp2
  go_loopw [17] (fun i wr => ∃ j : Nat, j ≤ n + 1 ∧ i = .int .i64 j ∧ Below w9.heap.size w9 wr) (fun i _ => n + 1 - (intOf i).toNat)
  case atStart => exact ⟨0, Nat.zero_le _, rfl, Below.refl _ _⟩
  case round =>
    obtain ⟨j, hj, rfl, hBr⟩ := hrel
    by_cases hlt : j < n + 1
    · have hd := (hR1.below hBr hR1.lt).cell j hlt
      clear hR1 hN2 hN3
      go_wp2
      go_quiet (fail)
      go_wp2
      go_roundw
      case rel => exact ⟨j + 1, by omega, by go_num, belowN hBr _⟩
      case measure => simp [intOf]; omega
    · have hadd := join_run o n k hk hl
      have hadd2 := join_bin o n k hk hl
      go_wp2_with fail
      refine (arithParts_any _ _ _ _ _ _ (hN3.below hBr)).mono ?_
      rintro e wa ⟨b3, rfl, hBa, hR3⟩
      replace hBa := hBr.trans (hBa.mono hBr.size)
      have hd3 := hR3.cell 0 (by omega)
      rw [show outAt ⟨p2, 0, none⟩ (fun i => ⟨L, (k + i + 1) * 2, none⟩) 0 = ⟨p2, 0, none⟩ from rfl] at hd3
      clear hBr hN3
      go_wp2_with fail
      refine (arithParts_any _ _ _ _ _ _ (hN2.below hBa)).mono ?_
      rintro e wb ⟨b2, rfl, hBb, hR2⟩
      replace hR1 := (hR1.below hBa hR1.lt).below hBb (hR1.below hBa hR1.lt).lt
      replace hR3 := hR3.below hBb hR3.lt
      replace hB := (hB.trans (hBa.mono hB.size)).trans (hBb.mono (hB.trans (hBa.mono hB.size)).size)
      replace hR2 := hR2.ext (g := fun i => .pointer (some ⟨L, i * 2, none⟩)) (fun i _ => by rw [out_leaf0])
      clear hBa hBb hd3 hlt hj hN2
      go_wp2
      clear hadd hadd2
      go_loopw [28] (fun i wr => ∃ j : Nat, j ≤ k + 1 ∧ i = .int .i64 j ∧ Below wb.heap.size wb wr) (fun i _ => k + 1 - (intOf i).toNat)
      case atStart => exact ⟨0, Nat.zero_le _, rfl, Below.refl _ _⟩
      case round =>
        obtain ⟨j, hj, rfl, hBr⟩ := hrel
        by_cases hlt : j < k + 1
        · have hd := (hR1.below hBr hR1.lt).cell j (by omega)
          have hd2 := (hR2.below hBr hR2.lt).cell j hlt
          clear hR1 hR2 hR3
          have hlt2 : j < n + 1 := by omega
          go_wp2
          go_quiet (fail)
          go_wp2
          go_roundw
          case rel => exact ⟨j + 1, by omega, by go_num, belowN hBr _⟩
          case measure => simp [intOf]; omega
        · go_wp2
          go_loopw [29] (fun i wr => ∃ j : Nat, 1 ≤ j ∧ j ≤ n - k + 1 ∧ i = .int .i64 j ∧ Below wb.heap.size wb wr) (fun i _ => n - k + 1 - (intOf i).toNat)
          case atStart => exact ⟨1, by omega, by omega, rfl, hBr⟩
          case round =>
            clear hBr hlt hj
            obtain ⟨j, hj1, hj, rfl, hBr⟩ := hrel
            by_cases hlt : j < n - k + 1
            · have hd := (hR1.below hBr hR1.lt).cell (k + j) (by omega)
              have hd2 := (hR3.below hBr hR3.lt).cell j hlt
              rw [out_inner p2 L k j hj1] at hd2
              clear hR1 hR2 hR3
              have hlt2 : k + j < n + 1 := by omega
              go_wp2
              go_quiet (fail)
              go_wp2
              go_roundw
              case rel => exact ⟨j + 1, by omega, by omega, by go_num, belowN hBr _⟩
              case measure => simp [intOf]; omega
            · go_wp2
              go_ret
              exact ⟨rfl, hB.trans (hBr.mono hB.size)⟩

end Go.Proofs.Qxb6616022a
