import Derived.Test.Qxb6616022aOr
namespace Go.Proofs.Qxb6616022a
open Go.RowKit
attribute [local go_sem] eqnil22 eqnil24 eqnil62 neqnil28 ptr31

theorem cell_alloc {w : World} {a : Addr} {v : Value} (h : w.cell? a = some v) (o : Obj) : (w.alloc o).cell? a = some v := by
  rw [World.cell?_alloc_lt w o a (World.block_lt_of_cell? w a h)]; exact h
theorem z27 : ((Try.prog.info? 27).bind (·.zero)).any (fun v => match v with | .agg _ => true | _ => false) = true := by kernel_rfl
theorem zero27 : ∃ cs : Array Value, ∀ w, (zeroValue 27).run Try.prog w = .ok (.agg cs) w := by
  have h := z27
  cases hi : Try.prog.info? 27 with
  | none => rw [hi] at h; simp at h
  | some i =>
    rw [hi] at h
    simp only [Option.bind_some] at h
    cases hz : i.zero with
    | none => rw [hz] at h; simp at h
    | some v =>
      rw [hz] at h
      cases v <;> simp at h
      case agg cs => exact ⟨cs, fun w => by simp [zeroValue, typeInfo, hi, hz]⟩

set_option maxRecDepth 100000 in
set_option maxHeartbeats 400000 in
theorem split_main (x : Addr) (len cap k : Nat) (zs : List Int) (w : World) (hl : len ≤ 65536) (hz : len ≤ zs.length) (hk : k ≤ len)
    (hc : ∀ i, i < len → w.cell? (x.add i) = some (.int .u8 (zs.getD i 0))) (hb : ∀ i, 0 ≤ zs.getD i 0 ∧ zs.getD i 0 ≤ 255) :
    Calls Try.prog 3 #[.slice (some x) len cap, .int .i64 k] w fun e w' => e = .returned (.bool true) ∧ Below w.heap.size w w' := by
  have HC : Hid (∀ i, i < len → w.cell? (x.add i) = some (.int .u8 (zs.getD i 0))) := hc
  have HB : Hid (∀ i, 0 ≤ zs.getD i 0 ∧ zs.getD i 0 ≤ 255) := hb
  clear hc hb
  obtain ⟨cs, h27⟩ := zero27
  go_enter Try.func3, Try.ntmps3
  go_wp2_with fail
  refine (bytes9 _ _ _ _ _ (by omega)).mono ?_
  rintro e w1 ⟨rfl, rfl⟩
  go_wp2_with fail
  refine (orList_some w.heap.size x len cap zs _ hl hz (fun i hi => (cell_alloc (HC.out i hi) _)) HB.out).mono ?_
  rintro e w2 ⟨bl, rfl, hB, hR⟩
  have hcut := cut_run 28 31 1 Try.underlying28 (sizeRun info31) ⟨bl, 0, none⟩ k len hk
  replace hB : Below w.heap.size w w2 := ((Below.refl _ _).alloc (Nat.le_refl _) _).trans (hB.mono (by simp))
  go_wp2_with fail
  refine (newOr_some ⟨bl, 0, none⟩ len len (fun i => ⟨w.heap.size, (zs.getD i 0).toNat, none⟩) _ hl (fun i hi => by rw [add_at, Nat.zero_add]; exact hR.cell i hi)).mono ?_
  rintro e w3 ⟨p1, c1, rfl, hB3, hN1⟩
  replace hR := hR.below hB3 hR.lt
  replace hB := hB.trans (hB3.mono hB.size)
  clear hB3
  go_wp2_with fail
  refine (newOr_some ⟨bl, 0, none⟩ k len (fun i => ⟨w.heap.size, (zs.getD i 0).toNat, none⟩) _ (by omega) (fun i hi => by rw [add_at, Nat.zero_add]; exact hR.cell i (by omega))).mono ?_
  rintro e w4 ⟨p2, c2, rfl, hB3, hN2⟩
  replace hR := hR.below hB3 hR.lt
  replace hN1 := hN1.below hB3
  replace hB := hB.trans (hB3.mono hB.size)
  clear hB3
  go_wp2_with fail
  refine (newOr_some (cutAt ⟨bl, 0, none⟩ k len 1) (len - k) (len - k) (fun i => ⟨w.heap.size, (zs.getD (k + i) 0).toNat, none⟩) _ (by omega) (fun i hi => by rw [cutAt_add _ _ _ _ _ _ (by omega), Nat.zero_add, Nat.mul_one]; exact hR.cell (k + i) (by omega))).mono ?_
  rintro e w5 ⟨p3, c3, rfl, hB3, hN3⟩
  replace hN1 := hN1.below hB3
  replace hN2 := hN2.below hB3
  replace hB := hB.trans (hB3.mono hB.size)
  clear hB3 hR hcut
  go_wp2_with fail
  refine (orParts_node _ _ _ _ _ hN1).mono ?_
  rintro e w6 ⟨b1, rfl, hB3, hR1⟩
  replace hN2 := hN2.below hB3
  replace hN3 := hN3.below hB3
  replace hB := hB.trans (hB3.mono hB.size)
  clear hB3 hN1
  go_wp2_with fail
  refine (orParts_node _ _ _ _ _ hN2).mono ?_
  rintro e w7 ⟨b2, rfl, hB3, hR2⟩
  replace hR1 := hR1.below hB3 hR1.lt
  replace hN3 := hN3.below hB3
  replace hB := hB.trans (hB3.mono hB.size)
  clear hB3 hN2
  go_wp2_with fail
  refine (orParts_node _ _ _ _ _ hN3).mono ?_
  rintro e w8 ⟨b3, rfl, hB3, hR3⟩
  replace hR1 := hR1.below hB3 hR1.lt
  replace hR2 := hR2.below hB3 hR2.lt
  replace hB := hB.trans (hB3.mono hB.size)
  clear hB3 hN3
  go_wp2
  go_loopw [25] (fun i wr => ∃ j : Nat, j ≤ len ∧ i = .int .i64 j ∧ Below w8.heap.size w8 wr) (fun i _ => len - (intOf i).toNat)
  case atStart => exact ⟨0, Nat.zero_le _, rfl, Below.refl _ _⟩
  case round =>
    obtain ⟨j, hj, rfl, hBr⟩ := hrel
    by_cases hlt : j < len
    · have hck := HC.out j hlt
      obtain ⟨b, off, rfl, hbw⟩ := addr_at (HC.out 0 (by omega))
      rw [add_at] at hck
      replace hck := (hBr.cell (p := ⟨b, off + j, none⟩) (by have := hB.size; simp only; omega)).trans ((hB.cell (p := ⟨b, off + j, none⟩) hbw).trans hck)
      have hd := (hR1.below hBr hR1.lt).cell j hlt
      obtain ⟨hb0, hb1⟩ := HB.out j
      generalize zs.getD j 0 = z at hck hd hb0 hb1
      clear hR1 hR2 hR3
      go_wp2
      go_quiet (fail)
      go_wp2
      go_roundw
      case rel => exact ⟨j + 1, by omega, by go_num, belowN hBr _⟩
      case measure => simp [intOf]; omega
    · clear HC HB
      go_wp2
      go_loopw [26] (fun i wr => ∃ j : Nat, j ≤ k ∧ i = .int .i64 j ∧ Below w8.heap.size w8 wr) (fun i _ => k - (intOf i).toNat)
      case atStart => exact ⟨0, Nat.zero_le _, rfl, hBr⟩
      case round =>
        clear hBr hlt hj
        obtain ⟨j, hj, rfl, hBr⟩ := hrel
        by_cases hlt : j < k
        · have hd := (hR1.below hBr hR1.lt).cell j (by omega)
          have hd2 := (hR2.below hBr hR2.lt).cell j (by omega)
          generalize zs.getD j 0 = z at hd hd2
          clear hR1 hR2 hR3
          have hlt2 : j < len := by omega
          go_wp2
          go_quiet (fail)
          go_wp2
          go_roundw
          case rel => exact ⟨j + 1, by omega, by go_num, belowN hBr _⟩
          case measure => simp [intOf]; omega
        · go_wp2
          go_loopw [27] (fun i wr => ∃ j : Nat, j ≤ len - k ∧ i = .int .i64 j ∧ Below w8.heap.size w8 wr) (fun i _ => (len - k) - (intOf i).toNat)
          case atStart => exact ⟨0, Nat.zero_le _, rfl, hBr⟩
          case round =>
            clear hBr hlt hj
            obtain ⟨j, hj, rfl, hBr⟩ := hrel
            by_cases hlt : j < len - k
            · have hd := (hR1.below hBr hR1.lt).cell (k + j) (by omega)
              have hd2 := (hR3.below hBr hR3.lt).cell j (by omega)
              generalize zs.getD (k + j) 0 = z at hd hd2
              clear hR1 hR2 hR3
              have hlt2 : k + j < len := by omega
              go_wp2
              go_quiet (fail)
              go_wp2
              go_roundw
              case rel => exact ⟨j + 1, by omega, by go_num, belowN hBr _⟩
              case measure => simp [intOf]; omega
            · go_wp2
              go_ret
              exact ⟨rfl, hB.trans (hBr.mono hB.size)⟩

set_option maxRecDepth 100000 in
set_option maxHeartbeats 400000 in
theorem split_nil (w : World) : Calls Try.prog 3 #[.slice none 0 0, .int .i64 0] w fun e w' => e = .returned (.bool true) ∧ Below w.heap.size w w' := by
  obtain ⟨cs, h27⟩ := zero27
  go_enter Try.func3, Try.ntmps3
  go_wp2_with fail
  refine (bytes9 _ _ _ _ _ (by omega)).mono ?_
  rintro e w1 ⟨rfl, rfl⟩
  go_wp2_with fail
  refine (orList_nil w.heap.size _).mono ?_
  rintro e w2 ⟨rfl, rfl⟩
  go_wp2_with fail
  refine (newOr_none (fun _ => ⟨0, 0, none⟩) _ _).mono ?_
  rintro e w3 ⟨p1, rfl, hB3, hN1⟩
  have hB : Below w.heap.size w w3 := ((Below.refl _ _).alloc (Nat.le_refl _) _).trans (hB3.mono (by simp))
  clear hB3
  go_wp2_with fail
  refine (newOr_none (fun _ => ⟨0, 0, none⟩) _ _).mono ?_
  rintro e w4 ⟨p2, rfl, hB3, hN2⟩
  replace hN1 := hN1.below hB3
  replace hB := hB.trans (hB3.mono hB.size)
  clear hB3
  go_wp2_with fail
  refine (newOr_none (fun _ => ⟨0, 0, none⟩) _ _).mono ?_
  rintro e w5 ⟨p3, rfl, hB3, hN3⟩
  replace hN1 := hN1.below hB3
  replace hN2 := hN2.below hB3
  replace hB := hB.trans (hB3.mono hB.size)
  clear hB3
  go_wp2_with fail
  refine (orParts_node _ _ _ _ _ hN1).mono ?_
  rintro e w6 ⟨b1, rfl, hB3, hR1⟩
  replace hN2 := hN2.below hB3
  replace hN3 := hN3.below hB3
  replace hB := hB.trans (hB3.mono hB.size)
  clear hB3 hN1
  go_wp2_with fail
  refine (orParts_node _ _ _ _ _ hN2).mono ?_
  rintro e w7 ⟨b2, rfl, hB3, hR2⟩
  replace hN3 := hN3.below hB3
  replace hB := hB.trans (hB3.mono hB.size)
  clear hB3 hN2
  go_wp2_with fail
  refine (orParts_node _ _ _ _ _ hN3).mono ?_
  rintro e w8 ⟨b3, rfl, hB3, hR3⟩
  replace hB := hB.trans (hB3.mono hB.size)
  clear hB3 hN3 hR1 hR2 hR3
  go_wp2
  refine wp_loop_rounds 1 ?_
  rw [rounds_succ]
  go_wp2
  refine wp_loop_rounds 1 ?_
  rw [rounds_succ]
  go_wp2
  refine wp_loop_rounds 1 ?_
  rw [rounds_succ]
  go_wp2
  go_ret
  exact ⟨rfl, hB⟩

set_option maxRecDepth 100000 in
set_option maxHeartbeats 400000 in
theorem split_off (a : Option Addr) (len cap : Nat) (k : Int) (w : World) (h : 65536 < len ∨ k < 0 ∨ (len : Int) < k) :
    Calls Try.prog 3 #[.slice a len cap, .int .i64 k] w fun e w' => e = .returned (.bool true) ∧ Below w.heap.size w w' := by
  by_cases h1 : len ≤ 1048576
  · by_cases h2 : 65536 < len
    · go_enter Try.func3, Try.ntmps3
      go_wp2_with fail
      refine (bytes9 _ _ _ _ _ (by omega)).mono ?_
      rintro e w1 ⟨rfl, rfl⟩
      go_wp2
      go_ret
      exact ⟨rfl, Below.refl _ _⟩
    · by_cases h3 : k < 0
      · go_enter Try.func3, Try.ntmps3
        go_wp2_with fail
        refine (bytes9 _ _ _ _ _ (by omega)).mono ?_
        rintro e w1 ⟨rfl, rfl⟩
        go_wp2
        go_ret
        exact ⟨rfl, Below.refl _ _⟩
      · have h4 : (len : Int) < k := by omega
        go_enter Try.func3, Try.ntmps3
        go_wp2_with fail
        refine (bytes9 _ _ _ _ _ (by omega)).mono ?_
        rintro e w1 ⟨rfl, rfl⟩
        go_wp2
        go_ret
        exact ⟨rfl, Below.refl _ _⟩
  · go_enter Try.func3, Try.ntmps3
    go_wp2_with fail
    refine (bytes9_no _ _ _ _ _ (by omega)).mono ?_
    rintro e w1 ⟨rfl, rfl⟩
    go_wp2
    go_ret
    exact ⟨rfl, Below.refl _ _⟩

end Go.Proofs.Qxb6616022a
