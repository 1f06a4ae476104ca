import Derived.Test.Qxb6616022aText2
namespace Go.Proofs.Qxb6616022a
open Go.RowKit
set_option linter.unusedVariables false
attribute [local go_sem] neqnil35 neqnil36

set_option maxRecDepth 100000 in
set_option maxHeartbeats 400000 in
theorem tcut_big (src : ByteArray) (a1 : Option Addr) (l1 c1 : Nat) (a2 : Option Addr) (l2 c2 : Nat) (i s m : Int) (w : World) (R : Nat → ByteArray) (h : Strs w a1 l1 R) (hbig : 65536 < src.size ∨ 65536 < l1 ∨ 65536 < l2) :
    Calls Try.prog 8 #[.string src, .slice a1 l1 c1, .slice a2 l2 c2, .int .i64 i, .int .i64 s, .int .i64 m] w fun e w' => e = .returned (.bool true) ∧ Below w.heap.size w w' := by
  have hb := bytes27 src a1 l1 c1 a2 l2 c2 i s m w R h
  clear h
  by_cases g1 : 65536 < src.size
  · go_enter Try.func8, Try.ntmps8
    go_wp2_with fail
    refine hb.mono ?_
    rintro e w1 ⟨⟨b, rfl⟩, rfl⟩
    cases b
    all_goals
      go_wp2
      go_ret
      exact ⟨rfl, Below.refl _ _⟩
  by_cases g2 : 65536 < l1
  · go_enter Try.func8, Try.ntmps8
    go_wp2_with fail
    refine hb.mono ?_
    rintro e w1 ⟨⟨b, rfl⟩, rfl⟩
    cases b
    all_goals
      go_wp2
      go_ret
      exact ⟨rfl, Below.refl _ _⟩
  have g3 : 65536 < l2 := by omega
  go_enter Try.func8, Try.ntmps8
  go_wp2_with fail
  refine hb.mono ?_
  rintro e w1 ⟨⟨b, rfl⟩, rfl⟩
  cases b
  all_goals
    go_wp2
    go_ret
    exact ⟨rfl, Below.refl _ _⟩

theorem cut_join (src : ByteArray) (s m e : Int) (h0 : 0 ≤ s) (h1 : s ≤ m) (h2 : m ≤ e) (h3 : e ≤ src.size) (hsrc : src.size ≤ 65536) (w : World) :
    (Op.stringOp .add (src.extract s.toNat m.toNat) (src.extract m.toNat e.toNat)).run Try.prog w = .ok (.string (src.extract s.toNat e.toNat)) w := by
  rw [run_string_add_sum _ _ _ (by rw [ByteArray.size_extract, ByteArray.size_extract]; omega), ByteArray.extract_append_extract]
  rw [Nat.min_eq_left (by omega), Nat.max_eq_right (by omega)]
theorem Strs.alloc {w : World} {a : Option Addr} {n : Nat} {R : Nat → ByteArray} (h : Strs w a n R) (o : Obj) : Strs (w.alloc o) a n R := fun i hi => by
  obtain ⟨x, e, hx⟩ := h i hi
  exact ⟨x, e, cell_alloc hx o⟩
theorem Nums.alloc {w : World} {a : Option Addr} {n : Nat} {P : Nat → Int} (h : Nums w a n P) (o : Obj) : Nums (w.alloc o) a n P := fun i hi => by
  obtain ⟨x, e, hx⟩ := h i hi
  exact ⟨x, e, cell_alloc hx o⟩
theorem Strs.cellOf {w : World} {x : Addr} {n : Nat} {R : Nat → ByteArray} (h : Strs w (some x) n R) (i : Nat) (hi : i < n) : w.cell? (x.add i) = some (.string (R i)) := by
  obtain ⟨y, e, hx⟩ := h i hi
  cases e
  exact hx
theorem Nums.cellOf {w : World} {x : Addr} {n : Nat} {P : Nat → Int} (h : Nums w (some x) n P) (i : Nat) (hi : i < n) : w.cell? (x.add i) = some (.int .i64 (P i)) := by
  obtain ⟨y, e, hx⟩ := h i hi
  cases e
  exact hx
theorem Strs.below {w w' : World} {a : Option Addr} {n : Nat} {R : Nat → ByteArray} (h : Strs w a n R) (hB : Below w.heap.size w w') : Strs w' a n R := fun i hi => by
  obtain ⟨x, e, hx⟩ := h i hi
  exact ⟨x, e, (hB.cell (World.block_lt_of_cell? _ _ hx)).trans hx⟩
theorem Nums.below {w w' : World} {a : Option Addr} {n : Nat} {P : Nat → Int} (h : Nums w a n P) (hB : Below w.heap.size w w') : Nums w' a n P := fun i hi => by
  obtain ⟨x, e, hx⟩ := h i hi
  exact ⟨x, e, (hB.cell (World.block_lt_of_cell? _ _ hx)).trans hx⟩
theorem Strs.cell0 {w : World} {b n : Nat} {R : Nat → ByteArray} (h : Strs w (some ⟨b, 0, none⟩) n R) (i : Nat) (hi : i < n) : w.cell? ⟨b, i, none⟩ = some (.string (R i)) := by
  have := h.cellOf i hi
  rwa [add_at, Nat.zero_add] at this
theorem Nums.cell0 {w : World} {b n : Nat} {P : Nat → Int} (h : Nums w (some ⟨b, 0, none⟩) n P) (i : Nat) (hi : i < n) : w.cell? ⟨b, i, none⟩ = some (.int .i64 (P i)) := by
  have := h.cellOf i hi
  rwa [add_at, Nat.zero_add] at this
theorem Strs.ofRow {w : World} {b t n : Nat} {R : Nat → ByteArray} (h : Row w b t n (fun i => .string (R i))) : Strs w (some ⟨b, 0, none⟩) n R := fun i hi => ⟨_, rfl, by rw [add_at, Nat.zero_add]; exact h.cell i hi⟩
theorem Nums.ofRow {w : World} {b t n : Nat} {P : Nat → Int} (h : Row w b t n (fun i => .int .i64 (P i))) : Nums w (some ⟨b, 0, none⟩) n P := fun i hi => ⟨_, rfl, by rw [add_at, Nat.zero_add]; exact h.cell i hi⟩

set_option maxRecDepth 100000 in
set_option maxHeartbeats 400000 in
theorem tcut_main (src : ByteArray) (x1 : Addr) (c1 : Nat) (x2 : Addr) (n c2 : Nat) (k : Nat) (s m : Int) (w : World) (R : Nat → ByteArray) (P : Nat → Int) (hsrc : src.size ≤ 65536) (hn : n ≤ 65536) (hk : k < n)
    (h1 : Strs w (some x1) n R) (h2 : Nums w (some x2) n P) :
    Calls Try.prog 8 #[.string src, .slice (some x1) n c1, .slice (some x2) n c2, .int .i64 (k + 1), .int .i64 s, .int .i64 m] w fun e w' => e = .returned (.bool true) ∧ Below w.heap.size w w' := by
  have hb := bytes27 src (some x1) n c1 (some x2) n c2 (k + 1) s m w R h1
  have hmk1 := mk_one 35 9 (.string ⟨#[]⟩) 16 Try.underlying35 info9 rfl n (by omega) (by omega)
  have hmk2 := mk_one 36 3 (.int .i64 0) 8 Try.underlying36 info3 rfl n (by omega) (by omega)
  have hcp1 := copy_new 35 9 Try.underlying35 (by kernel_rfl) (.string ⟨#[]⟩) n x1 c1 (fun i => .string (R i)) (fun _ => rfl) w h1.cellOf
  have hcp2 := copy_new 36 3 Try.underlying36 (by kernel_rfl) (.int .i64 0) n x2 c2 (fun i => .int .i64 (P i)) (fun _ => rfl) (w.alloc (.cells (rowArr (fun i => .string (R i)) n) 9)) (h2.alloc _).cellOf
  simp only [World.size_alloc] at hcp2
  clear h1 h2
  go_enter Try.func8, Try.ntmps8
  go_wp2_with fail
  refine hb.mono ?_
  rintro e w1 ⟨⟨b, rfl⟩, rfl⟩
  cases b
  · go_wp2
    go_ret
    exact ⟨rfl, Below.refl _ _⟩
  go_wp2_with fail
  have hW1 : Strs ((w.alloc (.cells (rowArr (fun i => .string (R i)) n) 9)).alloc (.cells (rowArr (fun i => .int .i64 (P i)) n) 3)) (some ⟨w.heap.size, 0, none⟩) n R := Strs.ofRow ((Row.arr w _ 9 n).alloc _)
  have hW2 : Nums ((w.alloc (.cells (rowArr (fun i => .string (R i)) n) 9)).alloc (.cells (rowArr (fun i => .int .i64 (P i)) n) 3)) (some ⟨w.heap.size + 1, 0, none⟩) n P := Nums.ofRow (by have := Row.arr (w.alloc (.cells (rowArr (fun i => .string (R i)) n) 9)) (fun i => .int .i64 (P i)) 3 n; simp only [World.size_alloc] at this; exact this)
  refine (addStrings_any _ _ n n _ R hn hW1).mono ?_
  rintro e w2 ⟨⟨t, rfl⟩, rfl⟩
  have hB : Below w.heap.size w ((w.alloc (.cells (rowArr (fun i => .string (R i)) n) 9)).alloc (.cells (rowArr (fun i => .int .i64 (P i)) n) 3)) := ((Below.refl _ _).alloc (Nat.le_refl _) _).alloc (by simp) _
  generalize (w.alloc (.cells (rowArr (fun i => .string (R i)) n) 9)).alloc (.cells (rowArr (fun i => .int .i64 (P i)) n) 3) = W at *
  clear hmk1 hmk2 hcp1 hcp2 hb
  by_cases ht : 1048576 < t
  · go_wp2
    go_ret
    exact ⟨rfl, hB⟩
  go_wp2_with fail
  refine (lieIn_any src _ n _ n n _ R P hn hsrc hW1 hW2).mono ?_
  rintro e w3 ⟨⟨b, rfl, hL⟩, hB3⟩
  cases b
  · clear hL hW1 hW2
    go_wp2
    go_ret
    exact ⟨rfl, hB.trans (hB3.mono hB.size)⟩
  obtain ⟨q0, q1, q2⟩ := hL rfl k hk
  have Q2 : Hid (src.extract (P k).toNat (P k + (R k).size).toNat = R k) := q2
  replace hW1 := hW1.below hB3
  replace hW2 := hW2.below hB3
  replace hB := hB.trans (hB3.mono hB.size)
  clear hB3 hL q2
  have d1 := hW1.cell0 k hk
  have d2 := hW2.cell0 k hk
  go_wp2
  go_quiet (fail)
  replace hB := belowN hB nq
  replace hW1 : Strs (w3.drewN nq) _ n R := hW1
  replace hW2 : Nums (w3.drewN nq) _ n P := hW2
  replace d1 : (w3.drewN nq).cell? _ = _ := d1
  replace d2 : (w3.drewN nq).cell? _ = _ := d2
  generalize w3.drewN nq = w4 at *
  by_cases hs : s < 0
  · go_wp2
    go_ret
    exact ⟨rfl, hB⟩
  by_cases hm : m < s
  · go_wp2
    go_ret
    exact ⟨rfl, hB⟩
  by_cases he : P k + (R k).size < m
  · go_wp2
    go_ret
    exact ⟨rfl, hB⟩
  clear d1 d2
  go_wp2_with fail
  refine (newParser_any src _ n _ n n _ _ R P hn hW1 hW2).mono ?_
  rintro e w5 ⟨p, rfl, hB3, hP⟩
  replace hW1 := hW1.below hB3
  replace hW2 := hW2.below hB3
  replace hB := hB.trans (hB3.mono hB.size)
  clear hB3
  go_wp2_with fail
  refine (textSince_any p src n _ s R P _ hP hn hsrc k rfl hk (by omega) (by omega) q1 q0).mono ?_
  rintro e w6 ⟨rfl, hB3⟩
  replace hW1 := hW1.below hB3
  replace hW2 := hW2.below hB3
  replace hP := hP.below hB3
  replace hB := hB.trans (hB3.mono hB.size)
  clear hB3
  go_wp2_with fail
  refine (textSince_any p src n _ m R P _ hP hn hsrc k rfl hk (by omega) (by omega) q1 q0).mono ?_
  rintro e w7 ⟨rfl, hB3⟩
  replace hW1 := hW1.below hB3
  replace hW2 := hW2.below hB3
  replace hP := hP.below hB3
  replace hB := hB.trans (hB3.mono hB.size)
  clear hB3
  have d2 := hW2.cell0 k hk
  go_wp2_with fail
  refine (textSince_any p src n _ (P k) R P _ hP hn hsrc k rfl hk q0 (by omega) q1 q0).mono ?_
  rintro e w8 ⟨rfl, hB3⟩
  replace hW1 := hW1.below hB3
  replace hB := hB.trans (hB3.mono hB.size)
  clear hB3 hW2 hP d2
  have d1 := hW1.cell0 k hk
  rw [Q2.out]
  have hadd := cut_join src s m (P k + (R k).size) (by omega) (by omega) (by omega) q1 hsrc
  have u1 : m ≤ src.size := by omega
  generalize src.extract s.toNat (P k + (R k).size).toNat = whole at *
  generalize src.extract m.toNat (P k + (R k).size).toNat = tl at *
  clear Q2 hW1
  go_wp2
  go_ret
  exact ⟨rfl, hB⟩
end Go.Proofs.Qxb6616022a
