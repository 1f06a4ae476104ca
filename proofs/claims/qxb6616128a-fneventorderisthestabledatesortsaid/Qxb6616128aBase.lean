import Derived.Test.Qxb6616128aRows
import Derived.Test.Qxb6616128aPlain3
import Derived.WalkKit
import Derived.WalkSpells
import Derived.Deep.QuietTactic
import Derived.BigQuiet
import Derived.Deep.RegionWith
import Derived.Lib.ReflectliteSwap
namespace Go.Proofs.Qxb6616128a
open Go.RowKit
set_option linter.unusedVariables false

/-- a made row of elements of one cell -/
def zeros (z : Value) (n : Nat) : Array Value := (List.replicate n z).toArray
theorem mk_one (t e : TypeId) (z : Value) (b : Nat) (hu : Try.prog.underlying t = some (.slice e)) (h : (Try.prog.info? e).map (fun i => (i.zero, i.size, i.bytes)) = some (some z, 1, b)) (hz : z.cells = #[z]) (n : Nat)
    (hn : b * n ≤ 281474976710656) (hm : n ≤ 9223372036854775807) (w : World) :
    (Instr.makeSlice t (.int .i64 n) (.int .i64 n)).run Try.prog w = .ok (.slice (some ⟨w.heap.size, 0, none⟩) n n) (w.alloc (.cells (zeros z n) e)) := by
  obtain ⟨i0, hi, hz0, hz1, hz2⟩ := info_parts h
  have hb' : (i0.bytes : Int) * (n : Int) ≤ 281474976710656 := by
    rw [hz2]
    have h : ((b * n : Nat) : Int) ≤ 281474976710656 := by omega
    rwa [Int.natCast_mul] at h
  have hmk := run_make (P := Try.prog) w t e i0 z hu hi hz0 .i64 .i64 n n (by omega) (by omega) hb' (by omega)
  rw [hz1, hz] at hmk
  simp only [Int.toNat_natCast, Nat.mul_one] at hmk
  rw [hmk, zeros, ← toList_madeCells_one]


/-! ### rows of cells: block b of the world is a row of n cells, none frozen, cell i holding f i -/
def Row (w : World) (b : Nat) (t : TypeId) (n : Nat) (f : Nat → Value) : Prop := w.heap[b]? = some (.cells ((List.range n).map f).toArray t (0, 0))

theorem Row.lt {w : World} {b : Nat} {t : TypeId} {n : Nat} {f : Nat → Value} (h : Row w b t n f) : b < w.heap.size := lt_of_block h
theorem Row.cell {w : World} {b : Nat} {t : TypeId} {n : Nat} {f : Nat → Value} (h : Row w b t n f) (j : Nat) (hj : j < n) : w.cell? ⟨b, j, none⟩ = some (f j) := by
  unfold Row at h
  simp [World.cell?, h, hj]
theorem Row.free {w : World} {b : Nat} {t : TypeId} {n : Nat} {f : Nat → Value} (h : Row w b t n f) (j : Nat) : w.frozen? ⟨b, j, none⟩ = false := by
  unfold Row at h
  simp [World.frozen?, h]
theorem Row.ext {w : World} {b : Nat} {t : TypeId} {n : Nat} {f g : Nat → Value} (h : Row w b t n f) (e : ∀ i, i < n → f i = g i) : Row w b t n g := by
  unfold Row at h ⊢
  rw [h]
  have : (List.range n).map f = (List.range n).map g := List.map_congr_left (fun i hi => e i (List.mem_range.1 hi))
  rw [this]
theorem Row.drew {w : World} {b : Nat} {t : TypeId} {n : Nat} {f : Nat → Value} (h : Row w b t n f) : Row w.drew b t n f := h
theorem Row.below {w w' : World} {B b : Nat} {t : TypeId} {n : Nat} {f : Nat → Value} (h : Row w b t n f) (hB : Below B w w') (hb : b < B) : Row w' b t n f := by
  unfold Row at h ⊢
  rw [hB.block b hb, h]
theorem Row.set {w : World} {b : Nat} {t : TypeId} {n : Nat} {f : Nat → Value} (h : Row w b t n f) (j : Nat) (v : Value) : Row (w.setCell ⟨b, j, none⟩ v) b t n (fun i => if i = j then v else f i) := by
  unfold Row at h ⊢
  rw [heap_setCell_same w b j _ t v h]
  congr 2
  apply Array.ext
  · simp
  · intro i h1 h2
    simp only [List.setIfInBounds_toArray, List.getElem_toArray, List.getElem_set, List.getElem_map, List.getElem_range]
    by_cases e : j = i
    · simp [e]
    · rw [if_neg e, if_neg (fun h => e h.symm)]
theorem Row.other {w : World} {b : Nat} {t : TypeId} {n : Nat} {f : Nat → Value} (h : Row w b t n f) (a : Addr) (v : Value) (hne : b ≠ a.block) : Row (w.setCell a v) b t n f := by
  unfold Row at h ⊢
  rw [Below.heap_setCell w a v b hne, h]
theorem Row.alloc {w : World} {b : Nat} {t : TypeId} {n : Nat} {f : Nat → Value} (h : Row w b t n f) (o : Obj) : Row (w.alloc o) b t n f := by
  have := h.lt
  unfold Row at h ⊢
  rw [Below.heap_alloc w o b this, h]
theorem Row.made (w : World) (z : Value) (t : TypeId) (n : Nat) : Row (w.alloc (.cells (zeros z n) t)) w.heap.size t n (fun _ => z) := by
  unfold Row
  rw [heap_alloc_new w]
  congr 2
  apply Array.ext <;> simp [zeros]

theorem fill_step (g : Nat → Value) (z v : Value) (k : Nat) (hv : v = g k) (i : Nat) : (if i = k then v else if i < k then g i else z) = (if i < k + 1 then g i else z) := by
  by_cases h : i = k
  · subst h; rw [if_pos rfl, if_pos (by omega), hv]
  · rw [if_neg h]
    by_cases h2 : i < k
    · rw [if_pos h2, if_pos (by omega)]
    · rw [if_neg h2, if_neg (by omega)]
theorem Row.one (w : World) (v : Value) (t : TypeId) : Row (w.alloc (.cells #[v] t)) w.heap.size t 1 (fun _ => v) := heap_alloc_new w _
theorem addr_at {w : World} {x : Addr} {v : Value} (h : w.cell? (x.add 0) = some v) : ∃ b o, x = ⟨b, o, none⟩ ∧ b < w.heap.size := by
  obtain ⟨b, off, spot⟩ := x
  have hspot : spot = none := by simpa [Addr.add] using World.cell?_spot h
  subst hspot
  exact ⟨b, off, rfl, by simpa [Addr.add] using World.block_lt_of_cell? _ _ h⟩
theorem add_at (b o k : Nat) : (⟨b, o, none⟩ : Addr).add k = ⟨b, o + k, none⟩ := by
  unfold Addr.add
  split
  · simp_all
  · rfl

theorem cell_alloc {w : World} {a : Addr} {v : Value} (h : w.cell? a = some v) (o : Obj) : (w.alloc o).cell? a = some v := by
  rw [World.cell?_alloc_lt w o a (World.block_lt_of_cell? w a h)]; exact h
theorem belowN {B : Nat} {a w : World} (h : Below B a w) (n : Nat) : Below B a (w.drewN n) := h.trans ⟨rfl, rfl, rfl, Nat.le_refl _, fun _ _ => rfl⟩


/-! ### a world that is as it was but for one block ('grownBy') -/
theorem grown_refl (w : World) (r : Option Nat) : w.grownBy w r := ⟨rfl, rfl, rfl, Nat.le_refl _, fun _ _ _ => rfl⟩
theorem grown_trans {a b c : World} {r : Option Nat} (h : a.grownBy b r) (k : b.grownBy c r) : a.grownBy c r :=
  ⟨k.os.trans h.os, k.tape.trans h.tape, k.output.trans h.output, Nat.le_trans h.size k.size, fun i hi hr => (k.block i (Nat.lt_of_lt_of_le hi h.size) hr).trans (h.block i hi hr)⟩
theorem grown_none {a b : World} (h : a.grownBy b none) (r : Option Nat) : a.grownBy b r := ⟨h.os, h.tape, h.output, h.size, fun i hi _ => h.block i hi (by simp)⟩
theorem grown_drew {a b : World} {r : Option Nat} (h : a.grownBy b r) : a.grownBy b.drew r := ⟨h.os, h.tape, h.output, h.size, h.block⟩
theorem grown_drewN {a b : World} {r : Option Nat} (h : a.grownBy b r) (n : Nat) : a.grownBy (b.drewN n) r := ⟨h.os, h.tape, h.output, h.size, h.block⟩
theorem grown_alloc {a b : World} {r : Option Nat} (h : a.grownBy b r) (o : Obj) : a.grownBy (b.alloc o) r := grown_trans h (World.grownBy_alloc b o r)
theorem grown_set {a b : World} {p : Nat} (h : a.grownBy b (some p)) (j : Nat) (v : Value) : a.grownBy (b.setCell ⟨p, j, none⟩ v) (some p) :=
  grown_trans h ⟨rfl, rfl, rfl, by simp [World.setCell], fun k _ hk => Below.heap_setCell _ _ _ _ (fun e => hk (by simp [e]))⟩
theorem grown_cell {a b : World} {r : Option Nat} (h : a.grownBy b r) {x : Addr} {v : Value} (hc : a.cell? x = some v) (hne : some x.block ≠ r) : b.cell? x = some v :=
  (World.cell?_of_block (h.block x.block (World.block_lt_of_cell? a x hc) hne)).trans hc
theorem grown_row {w w' : World} {b : Nat} {t : TypeId} {n : Nat} {f : Nat → Value} {row : Option Nat} (h : Row w b t n f) (hg : w.grownBy w' row) (hne : some b ≠ row) : Row w' b t n f := by
  have := h.lt
  unfold Row at h ⊢
  rw [hg.block b this hne, h]
theorem grown_below {B : Nat} {a w w' : World} {row : Nat} (h : Below B a w) (hg : w.grownBy w' (some row)) (hB : B ≤ w.heap.size) (hr : B ≤ row) : Below B a w' :=
  h.grown hg hB (fun k e => by cases e; exact hr)
end Go.Proofs.Qxb6616128a
