import Derived.Test.Qxb6616022aText3
namespace Go.Proofs.Qxb6616022a
open Go.RowKit
set_option linter.unusedVariables false
attribute [local go_sem] neqnil35 neqnil36

theorem grow_join1 (src : ByteArray) (R : Nat → ByteArray) (P : Nat → Int) (k j n : Nat) (hn : k + 1 < n) (hj : j ≤ k) (hsrc : src.size ≤ 65536) (hL : AllLie src R P n) (hO : InOrder R P n) (w : World) :
    (Op.stringOp .add (src.extract (P j).toNat (P k + (R k).size).toNat) (src.extract (P k + (R k).size).toNat (P (k + 1)).toNat)).run Try.prog w = .ok (.string (src.extract (P j).toNat (P (k + 1)).toNat)) w := by
  have h1 := order_chain hL hO j (k - j) (by omega)
  rw [show j + (k - j) = k by omega] at h1
  have h2 := hO k hn
  have h3 := (hL (k + 1) hn).2.1
  have h4 := (hL j (by omega)).1
  exact cut_join src _ _ _ h4 (by omega) h2 (by omega) hsrc w
theorem grow_join2 (src : ByteArray) (R : Nat → ByteArray) (P : Nat → Int) (k j n : Nat) (hn : k + 1 < n) (hj : j ≤ k) (hsrc : src.size ≤ 65536) (hL : AllLie src R P n) (hO : InOrder R P n) (w : World) :
    (Op.stringOp .add (src.extract (P j).toNat (P (k + 1)).toNat) (R (k + 1))).run Try.prog w = .ok (.string (src.extract (P j).toNat (P (k + 1) + (R (k + 1)).size).toNat)) w := by
  have h1 := order_chain hL hO j (k - j) (by omega)
  rw [show j + (k - j) = k by omega] at h1
  have h2 := hO k hn
  have h3 := (hL (k + 1) hn).2.1
  have h4 := (hL j (by omega)).1
  have h5 := (hL (k + 1) hn).2.2
  have h6 := cut_join src (P j) (P (k + 1)) (P (k + 1) + (R (k + 1)).size) h4 (by omega) (by omega) h3 hsrc w
  rw [h5] at h6
  exact h6
theorem grow_prefix (src : ByteArray) (R : Nat → ByteArray) (P : Nat → Int) (k j n : Nat) (hn : k + 1 < n) (hj : j ≤ k) (hL : AllLie src R P n) (hO : InOrder R P n) :
    (R j).size ≤ (src.extract (P j).toNat (P k + (R k).size).toNat).size ∧ ∀ i (h1 : i < (src.extract (P j).toNat (P k + (R k).size).toNat).size) (h2 : i < (R j).size), (src.extract (P j).toNat (P k + (R k).size).toNat)[i] = (R j)[i] := by
  have h1 := order_chain hL hO j (k - j) (by omega)
  rw [show j + (k - j) = k by omega] at h1
  have h3 := (hL k (by omega)).2.1
  obtain ⟨h4, h5, h6⟩ := hL j (by omega)
  refine ⟨by rw [ByteArray.size_extract]; omega, fun i a b => ?_⟩
  rw [ByteArray.getElem_extract]
  have h7 : ∀ (r : ByteArray) (e : r = R j) (hi : i < r.size), r[i] = (R j)[i] := by
    intro r e hi
    subst e
    rfl
  have h8 := h7 _ h6 (by rw [h6]; exact b)
  rw [ByteArray.getElem_extract] at h8
  exact h8

set_option maxRecDepth 100000 in
set_option maxHeartbeats 400000 in
theorem tgrow_main (src : ByteArray) (x1 : Addr) (c1 : Nat) (x2 : Addr) (n c2 : Nat) (k j : Nat) (w : World) (R : Nat → ByteArray) (P : Nat → Int) (hsrc : src.size ≤ 65536) (hn : n ≤ 65536) (hk : k + 1 < n) (hj : j ≤ k)
    (h1 : Strs w (some x1) n R) (h2 : Nums w (some x2) n P) :
    Calls Try.prog 5 #[.string src, .slice (some x1) n c1, .slice (some x2) n c2, .int .i64 (k + 1), .int .i64 j] w fun e w' => e = .returned (.bool true) ∧ Below w.heap.size w w' := by
  have hb := bytes14 src (some x1) n c1 (some x2) n c2 (k + 1) j w R h1
  have hmk1 := mk_one 35 9 (.string ⟨#[]⟩) 16 Try.underlying35 info9 rfl n (by omega) (by omega)
  have hmk2 := mk_one 36 3 (.int .i64 0) 8 Try.underlying36 info3 rfl n (by omega) (by omega)
  have hcp1 := copy_new 35 9 Try.underlying35 (by kernel_rfl) (.string ⟨#[]⟩) n x1 c1 (fun i => .string (R i)) (fun _ => rfl) w h1.cellOf
  have hcp2 := copy_new 36 3 Try.underlying36 (by kernel_rfl) (.int .i64 0) n x2 c2 (fun i => .int .i64 (P i)) (fun _ => rfl) (w.alloc (.cells (rowArr (fun i => .string (R i)) n) 9)) (h2.alloc _).cellOf
  simp only [World.size_alloc] at hcp2
  clear h1 h2
  go_enter Try.func5, Try.ntmps5
  go_wp2_with fail
  refine hb.mono ?_
  rintro e w1 ⟨⟨b, rfl⟩, rfl⟩
  cases b
  · go_wp2
    go_ret
    exact ⟨rfl, Below.refl _ _⟩
  go_wp2_with fail
  have hW1 : Strs ((w.alloc (.cells (rowArr (fun i => .string (R i)) n) 9)).alloc (.cells (rowArr (fun i => .int .i64 (P i)) n) 3)) (some ⟨w.heap.size, 0, none⟩) n R := Strs.ofRow ((Row.arr w _ 9 n).alloc _)
  have hW2 : Nums ((w.alloc (.cells (rowArr (fun i => .string (R i)) n) 9)).alloc (.cells (rowArr (fun i => .int .i64 (P i)) n) 3)) (some ⟨w.heap.size + 1, 0, none⟩) n P := Nums.ofRow (by have := Row.arr (w.alloc (.cells (rowArr (fun i => .string (R i)) n) 9)) (fun i => .int .i64 (P i)) 3 n; simp only [World.size_alloc] at this; exact this)
  refine (addStrings_any _ _ n n _ R hn hW1).mono ?_
  rintro e w2 ⟨⟨t, rfl⟩, rfl⟩
  have hB : Below w.heap.size w ((w.alloc (.cells (rowArr (fun i => .string (R i)) n) 9)).alloc (.cells (rowArr (fun i => .int .i64 (P i)) n) 3)) := ((Below.refl _ _).alloc (Nat.le_refl _) _).alloc (by simp) _
  generalize (w.alloc (.cells (rowArr (fun i => .string (R i)) n) 9)).alloc (.cells (rowArr (fun i => .int .i64 (P i)) n) 3) = W at *
  clear hmk1 hmk2 hcp1 hcp2 hb
  by_cases ht : 1048576 < t
  · go_wp2
    go_ret
    exact ⟨rfl, hB⟩
  go_wp2_with fail
  refine (lieIn_any src _ n _ n n _ R P hn hsrc hW1 hW2).mono ?_
  rintro e w3 ⟨⟨b, rfl, hL⟩, hB3⟩
  cases b
  · clear hL hW1 hW2
    go_wp2
    go_ret
    exact ⟨rfl, hB.trans (hB3.mono hB.size)⟩
  replace hL := hL rfl
  replace hW1 := hW1.below hB3
  replace hW2 := hW2.below hB3
  replace hB := hB.trans (hB3.mono hB.size)
  clear hB3
  go_wp2_with fail
  refine (inOrder_any src _ n _ n n _ R P hn hsrc hL hW1 hW2).mono ?_
  rintro e w4 ⟨⟨b, rfl, hO⟩, hB3⟩
  cases b
  · clear hL hO hW1 hW2
    go_wp2
    go_ret
    exact ⟨rfl, hB.trans (hB3.mono hB.size)⟩
  replace hO := hO rfl
  replace hW1 := hW1.below hB3
  replace hW2 := hW2.below hB3
  replace hB := hB.trans (hB3.mono hB.size)
  clear hB3
  have hch := order_chain hL hO j (k - j) (by omega)
  rw [show j + (k - j) = k by omega] at hch
  obtain ⟨q0, q1, _⟩ := hL k (by omega)
  obtain ⟨r0, r1, _⟩ := hL (k + 1) hk
  obtain ⟨s0, s1, _⟩ := hL j (by omega)
  have ho := hO k hk
  have hadd1 := grow_join1 src R P k j n hk hj hsrc hL hO
  have hadd2 := grow_join2 src R P k j n hk hj hsrc hL hO
  have hpre := grow_prefix src R P k j n hk hj hL hO
  have HP : Hid _ := hpre
  have HA1 : Hid _ := hadd1
  have HA2 : Hid _ := hadd2
  clear hL hO hpre hadd1 hadd2
  go_wp2_with fail
  refine (newParser_any src _ n _ n n _ _ R P hn hW1 hW2).mono ?_
  rintro e w5 ⟨p, rfl, hB3, hP⟩
  replace hW1 := hW1.below hB3
  replace hW2 := hW2.below hB3
  replace hB := hB.trans (hB3.mono hB.size)
  clear hB3
  go_wp2_with fail
  refine (newParser_any src _ n _ n n _ _ R P hn hW1 hW2).mono ?_
  rintro e w6 ⟨p', rfl, hB3, hP'⟩
  replace hP := hP.below hB3
  replace hW1 := hW1.below hB3
  replace hW2 := hW2.below hB3
  replace hB := hB.trans (hB3.mono hB.size)
  clear hB3
  have hjn : j < n := by omega
  have d2 := hW2.cell0 j hjn
  go_wp2_with fail
  refine (textSince_any p src n _ (P j) R P _ hP hn hsrc k rfl (by omega) s0 (by omega) q1 q0).mono ?_
  rintro e w7 ⟨rfl, hB3⟩
  replace hP' := hP'.below hB3
  replace hW1 := hW1.below hB3
  replace hW2 := hW2.below hB3
  replace hB := hB.trans (hB3.mono hB.size)
  clear hB3 hP d2
  have d2 := hW2.cell0 j hjn
  go_wp2_with fail
  refine (textSince_any p' src n _ (P j) R P _ hP' hn hsrc (k + 1) (by omega) hk s0 (by omega) r1 r0).mono ?_
  rintro e w8 ⟨rfl, hB3⟩
  replace hW1 := hW1.below hB3
  replace hW2 := hW2.below hB3
  replace hB := hB.trans (hB3.mono hB.size)
  clear hB3 hP' d2
  have d0 := hW1.cell0 k (by omega)
  have d1 := hW2.cell0 k (by omega)
  have d2 := hW2.cell0 (k + 1) hk
  have hkn : k < n := by omega
  have v1 : 0 ≤ P k + (R k).size := by omega
  have v2 : P (k + 1) ≤ src.size := by omega
  go_wp2
  go_quiet (fail)
  replace hB := belowN hB nq
  replace hW1 : Strs (w8.drewN nq) _ n R := hW1
  clear d0 d1 d2 hW2
  generalize w8.drewN nq = w9 at *
  have d0 := hW1.cell0 j hjn
  go_wp2_with fail
  refine (hasPrefix_any _ _ _ (by rw [ByteArray.size_extract]; omega) HP.out.1 HP.out.2).mono ?_
  rintro e wa ⟨rfl, hB3⟩
  replace hW1 := hW1.below hB3
  replace hB := hB.trans (hB3.mono hB.size)
  clear hB3 d0
  have d1 := hW1.cell0 (k + 1) hk
  have hadd1 := HA1.out
  have hadd2 := HA2.out
  generalize src.extract (P j).toNat (P k + (R k).size).toNat = before at *
  generalize src.extract (P k + (R k).size).toNat (P (k + 1)).toNat = gap at *
  generalize src.extract (P j).toNat (P (k + 1) + (R (k + 1)).size).toNat = after at *
  generalize src.extract (P j).toNat (P (k + 1)).toNat = mid at *
  clear HP HA1 HA2 hW1
  go_wp2
  go_ret
  exact ⟨rfl, hB⟩

end Go.Proofs.Qxb6616022a
