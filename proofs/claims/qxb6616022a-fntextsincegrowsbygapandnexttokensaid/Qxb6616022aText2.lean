import Derived.Test.Qxb6616022aText
namespace Go.Proofs.Qxb6616022a
open Go.RowKit
set_option linter.unusedVariables false
attribute [local go_sem] neqnil35 neqnil36

theorem info69 : (Try.prog.info? 69).map (fun i => (i.zero, i.size, i.bytes)) = some (some (.agg #[.int .i64 0, .string ⟨#[]⟩, .string ⟨#[]⟩, .int .i64 0]), 4, 48) := by kernel_rfl
theorem mk_four (t e : TypeId) (cs : Array Value) (b : Nat) (hu : Try.prog.underlying t = some (.slice e)) (h : (Try.prog.info? e).map (fun i => (i.zero, i.size, i.bytes)) = some (some (.agg cs), 4, b)) (n : Nat)
    (hn : b * n ≤ 281474976710656) (hm : n ≤ 9223372036854775807) (w : World) :
    (Instr.makeSlice t (.int .i64 n) (.int .i64 n)).run Try.prog w = .ok (.slice (some ⟨w.heap.size, 0, none⟩) n n) (w.alloc (.cells (madeCells cs (n * 4)) e)) := by
  obtain ⟨i0, hi, hz0, hz1, hz2⟩ := info_parts h
  have hb' : (i0.bytes : Int) * (n : Int) ≤ 281474976710656 := by
    rw [hz2]
    have h : ((b * n : Nat) : Int) ≤ 281474976710656 := by omega
    rwa [Int.natCast_mul] at h
  have hmk := run_make (P := Try.prog) w t e i0 _ hu hi hz0 .i64 .i64 n n (by omega) (by omega) hb' (by omega)
  rw [hz1] at hmk
  simp only [Int.toNat_natCast, Value.cells] at hmk
  exact hmk
theorem Row.madeN (w : World) (cs : Array Value) (t : TypeId) (n : Nat) : Row (w.alloc (.cells (madeCells cs n) t)) w.heap.size t n (fun i => cs[i % cs.size]!) := by
  unfold Row
  rw [heap_alloc_new w]
  congr 2
  apply Array.ext <;> simp [madeCells]

/-- the cells of a list of tokens -/
def tokCell (R : Nat → ByteArray) (P : Nat → Int) (i : Nat) : Value := if i % 4 = 0 then .int .i64 0 else if i % 4 = 1 then .string ⟨#[]⟩ else if i % 4 = 2 then .string (R (i / 4)) else .int .i64 (P (i / 4))
theorem tokCell0 (R : Nat → ByteArray) (P : Nat → Int) (k : Nat) : tokCell R P (k * 4) = .int .i64 0 := by
  unfold tokCell; rw [if_pos (by omega)]
theorem tokCell1 (R : Nat → ByteArray) (P : Nat → Int) (k : Nat) : tokCell R P (k * 4 + 1) = .string ⟨#[]⟩ := by
  unfold tokCell; rw [if_neg (by omega), if_pos (by omega)]
theorem tokCell2 (R : Nat → ByteArray) (P : Nat → Int) (k : Nat) : tokCell R P (k * 4 + 2) = .string (R k) := by
  unfold tokCell; rw [if_neg (by omega), if_neg (by omega), if_pos (by omega), show (k * 4 + 2) / 4 = k by omega]
theorem tokCell3 (R : Nat → ByteArray) (P : Nat → Int) (k : Nat) : tokCell R P (k * 4 + 3) = .int .i64 (P k) := by
  unfold tokCell; rw [if_neg (by omega), if_neg (by omega), if_neg (by omega), show (k * 4 + 3) / 4 = k by omega]
theorem fill4_step (g z : Nat → Value) (k : Nat) (v0 v1 v2 v3 : Value) (h0 : v0 = g (k * 4)) (h1 : v1 = g (k * 4 + 1)) (h2 : v2 = g (k * 4 + 2)) (h3 : v3 = g (k * 4 + 3)) (i : Nat) :
    (if i = k * 4 + 3 then v3 else if i = k * 4 + 2 then v2 else if i = k * 4 + 1 then v1 else if i = k * 4 then v0 else if i < k * 4 then g i else z i) = (if i < (k + 1) * 4 then g i else z i) := by
  by_cases e3 : i = k * 4 + 3
  · subst e3; rw [if_pos rfl, if_pos (by omega), h3]
  · rw [if_neg e3]
    by_cases e2 : i = k * 4 + 2
    · subst e2; rw [if_pos rfl, if_pos (by omega), h2]
    · rw [if_neg e2]
      by_cases e1 : i = k * 4 + 1
      · subst e1; rw [if_pos rfl, if_pos (by omega), h1]
      · rw [if_neg e1]
        by_cases e0 : i = k * 4
        · subst e0; rw [if_pos rfl, if_pos (by omega), h0]
        · rw [if_neg e0]
          by_cases hc : i < k * 4
          · rw [if_pos hc, if_pos (by omega)]
          · rw [if_neg hc, if_neg (by omega)]

/-- a parser in memory, as ZZnewParserAt builds it -/
def Parser (w : World) (p : Nat) (src : ByteArray) (n : Nat) (i : Int) (R : Nat → ByteArray) (P : Nat → Int) : Prop :=
  ∃ T, w.cell? ⟨p, 0, none⟩ = some (.string src) ∧ w.cell? ⟨p, 1, none⟩ = some (.slice (some ⟨T, 0, none⟩) n n) ∧ w.cell? ⟨p, 2, none⟩ = some (.int .i64 i) ∧ Row w T 69 (n * 4) (tokCell R P)
theorem Parser.below {w w' : World} {p : Nat} {src : ByteArray} {n : Nat} {i : Int} {R : Nat → ByteArray} {P : Nat → Int} (h : Parser w p src n i R P) (hB : Below w.heap.size w w') : Parser w' p src n i R P := by
  obtain ⟨T, h0, h1, h2, h3⟩ := h
  have hp : p < w.heap.size := World.block_lt_of_cell? _ _ h0
  exact ⟨T, (hB.cell (by exact hp)).trans h0, (hB.cell (by exact hp)).trans h1, (hB.cell (by exact hp)).trans h2, h3.below hB h3.lt⟩

set_option maxHeartbeats 400000 in
theorem newParser_any (src : ByteArray) (a1 : Option Addr) (c1 : Nat) (a2 : Option Addr) (c2 n : Nat) (i : Int) (w : World) (R : Nat → ByteArray) (P : Nat → Int) (hn : n ≤ 65536) (h1 : Strs w a1 n R) (h2 : Nums w a2 n P) :
    Calls Try.prog 18 #[.string src, .slice a1 n c1, .slice a2 n c2, .int .i64 i] w fun e w' => ∃ p, e = .returned (.pointer (some ⟨p, 0, none⟩)) ∧ Below w.heap.size w w' ∧ Parser w' p src n i R P := by
  have hmk := mk_four 66 69 _ 48 Try.underlying66 info69 n (by omega) (by omega)
  go_enter Try.func18, Try.ntmps18
  go_wp2
  go_loopw [10] (fun i wr => ∃ k : Nat, k ≤ n ∧ i = .int .i64 k ∧ Below w.heap.size w wr ∧ w.heap.size ≤ wr.heap.size ∧
      Row wr w.heap.size 69 (n * 4) (fun i => if i < k * 4 then tokCell R P i else #[Value.int .i64 0, .string ⟨#[]⟩, .string ⟨#[]⟩, .int .i64 0][i % 4]!)) (fun i _ => n - (intOf i).toNat)
  case atStart => exact ⟨0, Nat.zero_le _, rfl, (Below.refl _ _).alloc (Nat.le_refl _) _, by simp, (Row.madeN w _ 69 (n * 4)).ext (by simp)⟩
  case round =>
    obtain ⟨k, hk, rfl, hB, hsz, hT⟩ := hrel
    by_cases hlt : k < n
    · obtain ⟨b, o, rfl, hb, hc⟩ := h1.at k hlt
      obtain ⟨b', o', rfl, hb', hc'⟩ := h2.at k hlt
      replace hc := (hB.cell (p := ⟨b, o + k, none⟩) hb).trans hc
      replace hc' := (hB.cell (p := ⟨b', o' + k, none⟩) hb').trans hc'
      clear h1 h2
      have hd0 := hT.cell (k * 4) (by omega)
      have hd1 := hT.cell (k * 4 + 1) (by omega)
      have hd2 := hT.cell (k * 4 + 2) (by omega)
      have hd3 := hT.cell (k * 4 + 3) (by omega)
      have hf0 := hT.free (k * 4)
      have hf1 := hT.free (k * 4 + 1)
      have hf2 := hT.free (k * 4 + 2)
      have hf3 := hT.free (k * 4 + 3)
      rw [if_neg (by omega)] at hd0 hd1 hd2 hd3
      rw [show k * 4 % 4 = 0 by omega] at hd0
      rw [show (k * 4 + 1) % 4 = 1 by omega] at hd1
      rw [show (k * 4 + 2) % 4 = 2 by omega] at hd2
      rw [show (k * 4 + 3) % 4 = 3 by omega] at hd3
      go_wp2
      go_region
      all_goals
        go_wp2
        go_roundw
        case rel => exact ⟨k + 1, by omega, by go_num, ((((hB.setCell (Nat.le_refl _) _).setCell (Nat.le_refl _) _).setCell (Nat.le_refl _) _).setCell (Nat.le_refl _) _).drew, by simpa using hsz, (((((hT.set (k * 4) _).set (k * 4 + 1) _).set (k * 4 + 2) _).set (k * 4 + 3) _).ext (fun i _ => fill4_step (tokCell R P) (fun i => #[Value.int .i64 0, .string ⟨#[]⟩, .string ⟨#[]⟩, .int .i64 0][i % 4]!) k _ _ _ _ (tokCell0 R P k).symm (tokCell1 R P k).symm (tokCell2 R P k).symm (tokCell3 R P k).symm i)).drew⟩
        case measure => simp [intOf]; omega
    · have hkl : k = n := by omega
      subst hkl
      go_wp2
      go_ret
      exact ⟨_, rfl, hB.alloc hsz _, _, by simp, by simp, by simp, (hT.ext (fun i hi => by rw [if_pos hi])).alloc _⟩

set_option maxHeartbeats 400000 in
theorem textSince29 (p : Nat) (src : ByteArray) (n : Nat) (i s : Int) (R : Nat → ByteArray) (P : Nat → Int) (w : World) (h : Parser w p src n i R P) (hn : n ≤ 65536) (hsrc : src.size ≤ 65536) (k : Nat) (hi : i = k + 1) (hk : k < n)
    (hs0 : 0 ≤ s) (hs1 : s ≤ P k + (R k).size) (hs2 : P k + (R k).size ≤ src.size) (hp0 : 0 ≤ P k) :
    Calls Try.prog 29 #[.pointer (some ⟨p, 0, none⟩), .int .i64 s] w fun e w' => e = .returned (.string (src.extract s.toNat (P k + (R k).size).toNat)) ∧ Below w.heap.size w w' := by
  subst hi
  obtain ⟨T, c0, c1, c2, hT⟩ := h
  have d0 := hT.cell (k * 4) (by omega)
  have d1 := hT.cell (k * 4 + 1) (by omega)
  have d2 := hT.cell (k * 4 + 2) (by omega)
  have d3 := hT.cell (k * 4 + 3) (by omega)
  rw [tokCell0] at d0
  rw [tokCell1] at d1
  rw [tokCell2] at d2
  rw [tokCell3] at d3
  have hpw : p < w.heap.size := World.block_lt_of_cell? _ _ c0
  have hTw : T < w.heap.size := hT.lt
  clear hT
  go_enter Try.func29, Try.ntmps29
  go_wp2
  go_region
  all_goals
    go_wp2
    go_quiet (fail)
    go_wp2
    go_ret
    exact ⟨rfl, belowN (((Below.refl _ _).alloc (Nat.le_refl _) _).drew) _⟩

theorem textSince_any (p : Nat) (src : ByteArray) (n : Nat) (i s : Int) (R : Nat → ByteArray) (P : Nat → Int) (w : World) (h : Parser w p src n i R P) (hn : n ≤ 65536) (hsrc : src.size ≤ 65536) (k : Nat) (hi : i = k + 1) (hk : k < n)
    (hs0 : 0 ≤ s) (hs1 : s ≤ P k + (R k).size) (hs2 : P k + (R k).size ≤ src.size) (hp0 : 0 ≤ P k) :
    Calls Try.prog 19 #[.pointer (some ⟨p, 0, none⟩), .int .i64 s] w fun e w' => e = .returned (.string (src.extract s.toNat (P k + (R k).size).toNat)) ∧ Below w.heap.size w w' := by
  go_enter Try.func19, Try.ntmps19
  go_wp2_with fail
  refine (textSince29 p src n i s R P w h hn hsrc k hi hk hs0 hs1 hs2 hp0).mono ?_
  rintro e w1 ⟨rfl, hB⟩
  go_wp2
  go_ret
  exact ⟨rfl, hB⟩
end Go.Proofs.Qxb6616022a
