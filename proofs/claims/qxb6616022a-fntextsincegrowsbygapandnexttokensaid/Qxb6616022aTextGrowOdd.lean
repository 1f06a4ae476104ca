import Derived.Test.Qxb6616022aText3
namespace Go.Proofs.Qxb6616022a
open Go.RowKit
set_option linter.unusedVariables false
attribute [local go_sem] neqnil35 neqnil36

set_option maxRecDepth 100000 in
set_option maxHeartbeats 400000 in
theorem tgrow_big (src : ByteArray) (a1 : Option Addr) (l1 c1 : Nat) (a2 : Option Addr) (l2 c2 : Nat) (i j : Int) (w : World) (R : Nat → ByteArray) (h : Strs w a1 l1 R) (hbig : 65536 < src.size ∨ 65536 < l1 ∨ 65536 < l2) :
    Calls Try.prog 5 #[.string src, .slice a1 l1 c1, .slice a2 l2 c2, .int .i64 i, .int .i64 j] w fun e w' => e = .returned (.bool true) ∧ Below w.heap.size w w' := by
  have hb := bytes14 src a1 l1 c1 a2 l2 c2 i j w R h
  clear h
  by_cases g1 : 65536 < src.size
  · go_enter Try.func5, Try.ntmps5
    go_wp2_with fail
    refine hb.mono ?_
    rintro e w1 ⟨⟨b, rfl⟩, rfl⟩
    cases b
    all_goals
      go_wp2
      go_ret
      exact ⟨rfl, Below.refl _ _⟩
  by_cases g2 : 65536 < l1
  · go_enter Try.func5, Try.ntmps5
    go_wp2_with fail
    refine hb.mono ?_
    rintro e w1 ⟨⟨b, rfl⟩, rfl⟩
    cases b
    all_goals
      go_wp2
      go_ret
      exact ⟨rfl, Below.refl _ _⟩
  have g3 : 65536 < l2 := by omega
  go_enter Try.func5, Try.ntmps5
  go_wp2_with fail
  refine hb.mono ?_
  rintro e w1 ⟨⟨b, rfl⟩, rfl⟩
  cases b
  all_goals
    go_wp2
    go_ret
    exact ⟨rfl, Below.refl _ _⟩

set_option maxRecDepth 100000 in
set_option maxHeartbeats 800000 in
theorem tgrow_odd (src : ByteArray) (a1 : Option Addr) (l1 c1 : Nat) (a2 : Option Addr) (l2 c2 : Nat) (i j : Int) (w : World) (R : Nat → ByteArray) (P : Nat → Int) (hsrc : src.size ≤ 65536) (hl1 : l1 ≤ 65536) (hl2 : l2 ≤ 65536)
    (h1 : Strs w a1 l1 R) (h2 : Nums w a2 l2 P) (hodd : l1 ≠ l2 ∨ i < 1 ∨ (l2 : Int) ≤ i ∨ j < 0 ∨ i ≤ j) :
    Calls Try.prog 5 #[.string src, .slice a1 l1 c1, .slice a2 l2 c2, .int .i64 i, .int .i64 j] w fun e w' => e = .returned (.bool true) ∧ Below w.heap.size w w' := by
  have hb := bytes14 src a1 l1 c1 a2 l2 c2 i j w R h1
  have HO : Hid (l1 ≠ l2 ∨ i < 1 ∨ (l2 : Int) ≤ i ∨ j < 0 ∨ i ≤ j) := hodd
  clear hodd
  rcases a1 with _ | x1 <;> rcases a2 with _ | x2
  · have hW1 : Strs w none l1 R := h1
    clear h1 h2
    go_enter Try.func5, Try.ntmps5
    go_wp2_with fail
    refine hb.mono ?_
    rintro e w1 ⟨⟨b, rfl⟩, rfl⟩
    cases b
    · go_wp2
      go_ret
      exact ⟨rfl, Below.refl _ _⟩
    go_wp2_with fail
    refine (addStrings_any _ _ l1 _ _ R hl1 hW1).mono ?_
    rintro e w2 ⟨⟨t, rfl⟩, rfl⟩
    have hB : Below w.heap.size w w := Below.refl _ _
    clear hb hW1 
    by_cases ht : 1048576 < t
    · go_wp2
      go_ret
      exact ⟨rfl, hB⟩
    by_cases g0 : (l1 : Int) ≠ l2
    · go_wp2
      go_ret
      exact ⟨rfl, hB⟩
    have g0' : l1 = l2 := by omega
    subst g0'
    clear g0
    by_cases g1 : i < 1
    · go_wp2
      go_ret
      exact ⟨rfl, hB⟩
    by_cases g2 : (l1 : Int) ≤ i
    · go_wp2
      go_ret
      exact ⟨rfl, hB⟩
    by_cases g3 : j < 0
    · go_wp2
      go_ret
      exact ⟨rfl, hB⟩
    have g4 : i ≤ j := by have := HO.out; omega
    go_wp2
    go_ret
    exact ⟨rfl, hB⟩
  · have hmk2 := mk_one 36 3 (.int .i64 0) 8 Try.underlying36 info3 rfl l2 (by omega) (by omega)
    have hcp2 := copy_new 36 3 Try.underlying36 (by kernel_rfl) (.int .i64 0) l2 x2 c2 (fun i => .int .i64 (P i)) (fun _ => rfl) w h2.cellOf
    have hW1 : Strs (w.alloc (.cells (rowArr (fun i => .int .i64 (P i)) l2) 3)) none l1 R := h1.alloc _
    clear h1 h2
    go_enter Try.func5, Try.ntmps5
    go_wp2_with fail
    refine hb.mono ?_
    rintro e w1 ⟨⟨b, rfl⟩, rfl⟩
    cases b
    · go_wp2
      go_ret
      exact ⟨rfl, Below.refl _ _⟩
    go_wp2_with fail
    refine (addStrings_any _ _ l1 _ _ R hl1 hW1).mono ?_
    rintro e w2 ⟨⟨t, rfl⟩, rfl⟩
    have hB : Below w.heap.size w (w.alloc (.cells (rowArr (fun i => .int .i64 (P i)) l2) 3)) := (Below.refl _ _).alloc (by simp) _
    generalize (w.alloc (.cells (rowArr (fun i => .int .i64 (P i)) l2) 3)) = W at *
    clear hb hW1 hmk2 hcp2
    by_cases ht : 1048576 < t
    · go_wp2
      go_ret
      exact ⟨rfl, hB⟩
    by_cases g0 : (l1 : Int) ≠ l2
    · go_wp2
      go_ret
      exact ⟨rfl, hB⟩
    have g0' : l1 = l2 := by omega
    subst g0'
    clear g0
    by_cases g1 : i < 1
    · go_wp2
      go_ret
      exact ⟨rfl, hB⟩
    by_cases g2 : (l1 : Int) ≤ i
    · go_wp2
      go_ret
      exact ⟨rfl, hB⟩
    by_cases g3 : j < 0
    · go_wp2
      go_ret
      exact ⟨rfl, hB⟩
    have g4 : i ≤ j := by have := HO.out; omega
    go_wp2
    go_ret
    exact ⟨rfl, hB⟩
  · have hmk1 := mk_one 35 9 (.string ⟨#[]⟩) 16 Try.underlying35 info9 rfl l1 (by omega) (by omega)
    have hcp1 := copy_new 35 9 Try.underlying35 (by kernel_rfl) (.string ⟨#[]⟩) l1 x1 c1 (fun i => .string (R i)) (fun _ => rfl) w h1.cellOf
    have hW1 : Strs (w.alloc (.cells (rowArr (fun i => .string (R i)) l1) 9)) (some ⟨w.heap.size, 0, none⟩) l1 R := Strs.ofRow (Row.arr w (fun i => .string (R i)) 9 l1)
    clear h1 h2
    go_enter Try.func5, Try.ntmps5
    go_wp2_with fail
    refine hb.mono ?_
    rintro e w1 ⟨⟨b, rfl⟩, rfl⟩
    cases b
    · go_wp2
      go_ret
      exact ⟨rfl, Below.refl _ _⟩
    go_wp2_with fail
    refine (addStrings_any _ _ l1 _ _ R hl1 hW1).mono ?_
    rintro e w2 ⟨⟨t, rfl⟩, rfl⟩
    have hB : Below w.heap.size w (w.alloc (.cells (rowArr (fun i => .string (R i)) l1) 9)) := (Below.refl _ _).alloc (Nat.le_refl _) _
    generalize (w.alloc (.cells (rowArr (fun i => .string (R i)) l1) 9)) = W at *
    clear hb hW1 hmk1 hcp1
    by_cases ht : 1048576 < t
    · go_wp2
      go_ret
      exact ⟨rfl, hB⟩
    by_cases g0 : (l1 : Int) ≠ l2
    · go_wp2
      go_ret
      exact ⟨rfl, hB⟩
    have g0' : l1 = l2 := by omega
    subst g0'
    clear g0
    by_cases g1 : i < 1
    · go_wp2
      go_ret
      exact ⟨rfl, hB⟩
    by_cases g2 : (l1 : Int) ≤ i
    · go_wp2
      go_ret
      exact ⟨rfl, hB⟩
    by_cases g3 : j < 0
    · go_wp2
      go_ret
      exact ⟨rfl, hB⟩
    have g4 : i ≤ j := by have := HO.out; omega
    go_wp2
    go_ret
    exact ⟨rfl, hB⟩
  · have hmk1 := mk_one 35 9 (.string ⟨#[]⟩) 16 Try.underlying35 info9 rfl l1 (by omega) (by omega)
    have hmk2 := mk_one 36 3 (.int .i64 0) 8 Try.underlying36 info3 rfl l2 (by omega) (by omega)
    have hcp1 := copy_new 35 9 Try.underlying35 (by kernel_rfl) (.string ⟨#[]⟩) l1 x1 c1 (fun i => .string (R i)) (fun _ => rfl) w h1.cellOf
    have hcp2 := copy_new 36 3 Try.underlying36 (by kernel_rfl) (.int .i64 0) l2 x2 c2 (fun i => .int .i64 (P i)) (fun _ => rfl) (w.alloc (.cells (rowArr (fun i => .string (R i)) l1) 9)) (h2.alloc _).cellOf
    simp only [World.size_alloc] at hcp2
    have hW1 : Strs ((w.alloc (.cells (rowArr (fun i => .string (R i)) l1) 9)).alloc (.cells (rowArr (fun i => .int .i64 (P i)) l2) 3)) (some ⟨w.heap.size, 0, none⟩) l1 R := Strs.ofRow ((Row.arr w (fun i => .string (R i)) 9 l1).alloc _)
    clear h1 h2
    go_enter Try.func5, Try.ntmps5
    go_wp2_with fail
    refine hb.mono ?_
    rintro e w1 ⟨⟨b, rfl⟩, rfl⟩
    cases b
    · go_wp2
      go_ret
      exact ⟨rfl, Below.refl _ _⟩
    go_wp2_with fail
    refine (addStrings_any _ _ l1 _ _ R hl1 hW1).mono ?_
    rintro e w2 ⟨⟨t, rfl⟩, rfl⟩
    have hB : Below w.heap.size w ((w.alloc (.cells (rowArr (fun i => .string (R i)) l1) 9)).alloc (.cells (rowArr (fun i => .int .i64 (P i)) l2) 3)) := ((Below.refl _ _).alloc (Nat.le_refl _) _).alloc (by simp) _
    generalize ((w.alloc (.cells (rowArr (fun i => .string (R i)) l1) 9)).alloc (.cells (rowArr (fun i => .int .i64 (P i)) l2) 3)) = W at *
    clear hb hW1 hmk1 hcp1 hmk2 hcp2
    by_cases ht : 1048576 < t
    · go_wp2
      go_ret
      exact ⟨rfl, hB⟩
    by_cases g0 : (l1 : Int) ≠ l2
    · go_wp2
      go_ret
      exact ⟨rfl, hB⟩
    have g0' : l1 = l2 := by omega
    subst g0'
    clear g0
    by_cases g1 : i < 1
    · go_wp2
      go_ret
      exact ⟨rfl, hB⟩
    by_cases g2 : (l1 : Int) ≤ i
    · go_wp2
      go_ret
      exact ⟨rfl, hB⟩
    by_cases g3 : j < 0
    · go_wp2
      go_ret
      exact ⟨rfl, hB⟩
    have g4 : i ≤ j := by have := HO.out; omega
    go_wp2
    go_ret
    exact ⟨rfl, hB⟩

end Go.Proofs.Qxb6616022a
