import Derived.Test.Qxb6616022aRows
import Derived.WalkKit
import Derived.WalkSpells
import Derived.Lib.Builder
import Derived.Deep.QuietTactic
import Derived.BigQuiet
namespace Go.Proofs.Qxb6616022a
open Go.RowKit

/-! ### small laws at this program's types -/
theorem eqnil22 (w : World) (a : Option Addr) (n c : Nat) : (binOp .eql 22 (.slice a n c) (.slice none 0 0)).run Try.prog w = .ok (.bool a.isNone) w := Lib.run_eql_slice_nil w 22 5 a n c 0 0 Try.underlying22
theorem neqnil22 (w : World) (a : Option Addr) (n c : Nat) : (binOp .neq 22 (.slice a n c) (.slice none 0 0)).run Try.prog w = .ok (.bool (!a.isNone)) w := run_neq_slice_nil_any w 22 5 a n c 0 0 Try.underlying22
theorem neqnil28 (w : World) (a : Option Addr) (n c : Nat) : (binOp .neq 28 (.slice a n c) (.slice none 0 0)).run Try.prog w = .ok (.bool (!a.isNone)) w := run_neq_slice_nil_any w 28 31 a n c 0 0 Try.underlying28
theorem eqnil24 (w : World) (a : Option Addr) (n c : Nat) : (binOp .eql 24 (.slice a n c) (.slice none 0 0)).run Try.prog w = .ok (.bool a.isNone) w := Lib.run_eql_slice_nil w 24 61 a n c 0 0 Try.underlying24
theorem eqnil62 (w : World) (a : Option Addr) (n c : Nat) : (binOp .eql 62 (.slice a n c) (.slice none 0 0)).run Try.prog w = .ok (.bool a.isNone) w := Lib.run_eql_slice_nil w 62 _ a n c 0 0 Try.underlying62
theorem ptr31 (w : World) (a : Addr) : (binOp .neq 31 (.pointer (some a)) (.pointer (some a))).run Try.prog w = .ok (.bool false) w := by
  obtain ⟨i, hi⟩ := Option.isSome_iff_exists.1 (show (Try.prog.info? 26).isSome = true by kernel_rfl)
  exact Lib.run_neq_ptr_same w a Try.underlying31 hi
theorem ptr49 (w : World) (a : Addr) : (binOp .neq 49 (.pointer (some a)) (.pointer (some a))).run Try.prog w = .ok (.bool false) w := by
  obtain ⟨i, hi⟩ := Option.isSome_iff_exists.1 (show (Try.prog.info? 55).isSome = true by kernel_rfl)
  exact Lib.run_neq_ptr_same w a Try.underlying49 hi

theorem assert31 (w : World) (v : Value) : (Instr.typeAssert (.iface 31 v) 61 31 true).run Try.prog w = .ok (.tuple #[v, .bool true]) w := by
  simp [Instr.typeAssert, run_underlying Try.underlying31, go_sem, Result.andThen]
theorem assert49 (w : World) (v : Value) : (Instr.typeAssert (.iface 49 v) 52 49 true).run Try.prog w = .ok (.tuple #[v, .bool true]) w := by
  simp [Instr.typeAssert, run_underlying Try.underlying49, go_sem, Result.andThen]
theorem results_tmp5 {fn : Func} {t u v x y : Tmp} (h : fn.results = #[.tmp t, .tmp u, .tmp v, .tmp x, .tmp y]) (tmps : Array Value) (P : Program) (w : World) :
    (results fn tmps).run P w = .ok (.tuple #[tmps.getD t undef, tmps.getD u undef, tmps.getD v undef, tmps.getD x undef, tmps.getD y undef]) w := by
  simp [results, h]

/-- the address of 's[k:]', elements of 'size' cells, at a slice whose capacity is its length -/
def cutAt (x : Addr) (k n size : Nat) : Addr := if n = k then x else x.add (k * size)
theorem cut_run (t e : TypeId) (size : Nat) (hu : Try.prog.underlying t = some (.slice e)) (hs : ∀ w, (sizeOf e).run Try.prog w = .ok size w) (x : Addr) (k n : Nat) (h : k ≤ n) (w : World) :
    (Instr.sliceAt t (.slice (some x) n n) (some (.int .i64 k)) none none).run Try.prog w = .ok (.slice (some (cutAt x k n size)) (n - k) (n - k)) w := by
  have h2 : Instr.sliceBounds true n n (some (.int .i64 (k : Int))) none none = (Instr.sliceBound (.int .i64 (k : Int)) n .sliceB >>= fun l => pure (l, n, n)) := rfl
  have h3 : (Instr.sliceBound (.int .i64 (k : Int)) n .sliceB).run Try.prog w = .ok k w := by
    have := run_sliceBound (P := Try.prog) w .i64 (k : Int) n .sliceB (by omega) (by omega)
    simpa using this
  simp [Instr.sliceAt, Instr.slice, run_underlying hu, h2, h3, hs, cutAt, Result.andThen]
  split <;> rfl
theorem cut_run_nil (t e : TypeId) (size : Nat) (hu : Try.prog.underlying t = some (.slice e)) (hs : ∀ w, (sizeOf e).run Try.prog w = .ok size w) (k n : Nat) (h : k ≤ n) (w : World) :
    (Instr.sliceAt t (.slice none n n) (some (.int .i64 k)) none none).run Try.prog w = .ok (.slice none (n - k) (n - k)) w := by
  have h2 : Instr.sliceBounds true n n (some (.int .i64 (k : Int))) none none = (Instr.sliceBound (.int .i64 (k : Int)) n .sliceB >>= fun l => pure (l, n, n)) := rfl
  have h3 : (Instr.sliceBound (.int .i64 (k : Int)) n .sliceB).run Try.prog w = .ok k w := by
    have := run_sliceBound (P := Try.prog) w .i64 (k : Int) n .sliceB (by omega) (by omega)
    simpa using this
  simp [Instr.sliceAt, Instr.slice, run_underlying hu, h2, h3, hs, Result.andThen]
theorem sizeRun {e : TypeId} {z : Value} {size bytes : Nat} (h : (Try.prog.info? e).map (fun i => (i.zero, i.size, i.bytes)) = some (some z, size, bytes)) (w : World) : (sizeOf e).run Try.prog w = .ok size w := by
  obtain ⟨i0, hi, hz0, hz1, hz2⟩ := info_parts h
  simp [sizeOf, typeInfo, hi, hz1]

/-- a made row of elements of one cell -/
def zeros (z : Value) (n : Nat) : Array Value := (List.replicate n z).toArray
theorem mk_one (t e : TypeId) (z : Value) (b : Nat) (hu : Try.prog.underlying t = some (.slice e)) (h : (Try.prog.info? e).map (fun i => (i.zero, i.size, i.bytes)) = some (some z, 1, b)) (hz : z.cells = #[z]) (n : Nat)
    (hn : b * n ≤ 281474976710656) (hm : n ≤ 9223372036854775807) (w : World) :
    (Instr.makeSlice t (.int .i64 n) (.int .i64 n)).run Try.prog w = .ok (.slice (some ⟨w.heap.size, 0, none⟩) n n) (w.alloc (.cells (zeros z n) e)) := by
  obtain ⟨i0, hi, hz0, hz1, hz2⟩ := info_parts h
  have hb' : (i0.bytes : Int) * (n : Int) ≤ 281474976710656 := by
    rw [hz2]
    have h : ((b * n : Nat) : Int) ≤ 281474976710656 := by omega
    rwa [Int.natCast_mul] at h
  have hmk := run_make (P := Try.prog) w t e i0 z hu hi hz0 .i64 .i64 n n (by omega) (by omega) hb' (by omega)
  rw [hz1, hz] at hmk
  simp only [Int.toNat_natCast, Nat.mul_one] at hmk
  rw [hmk, zeros, ← toList_madeCells_one]


/-! ### rows of cells: block b of the world is a row of n cells, none frozen, cell i holding f i -/
def Row (w : World) (b : Nat) (t : TypeId) (n : Nat) (f : Nat → Value) : Prop := w.heap[b]? = some (.cells ((List.range n).map f).toArray t (0, 0))

theorem Row.lt {w : World} {b : Nat} {t : TypeId} {n : Nat} {f : Nat → Value} (h : Row w b t n f) : b < w.heap.size := lt_of_block h
theorem Row.cell {w : World} {b : Nat} {t : TypeId} {n : Nat} {f : Nat → Value} (h : Row w b t n f) (j : Nat) (hj : j < n) : w.cell? ⟨b, j, none⟩ = some (f j) := by
  unfold Row at h
  simp [World.cell?, h, hj]
theorem Row.free {w : World} {b : Nat} {t : TypeId} {n : Nat} {f : Nat → Value} (h : Row w b t n f) (j : Nat) : w.frozen? ⟨b, j, none⟩ = false := by
  unfold Row at h
  simp [World.frozen?, h]
theorem Row.ext {w : World} {b : Nat} {t : TypeId} {n : Nat} {f g : Nat → Value} (h : Row w b t n f) (e : ∀ i, i < n → f i = g i) : Row w b t n g := by
  unfold Row at h ⊢
  rw [h]
  have : (List.range n).map f = (List.range n).map g := List.map_congr_left (fun i hi => e i (List.mem_range.1 hi))
  rw [this]
theorem Row.drew {w : World} {b : Nat} {t : TypeId} {n : Nat} {f : Nat → Value} (h : Row w b t n f) : Row w.drew b t n f := h
theorem Row.below {w w' : World} {B b : Nat} {t : TypeId} {n : Nat} {f : Nat → Value} (h : Row w b t n f) (hB : Below B w w') (hb : b < B) : Row w' b t n f := by
  unfold Row at h ⊢
  rw [hB.block b hb, h]
theorem Row.set {w : World} {b : Nat} {t : TypeId} {n : Nat} {f : Nat → Value} (h : Row w b t n f) (j : Nat) (v : Value) : Row (w.setCell ⟨b, j, none⟩ v) b t n (fun i => if i = j then v else f i) := by
  unfold Row at h ⊢
  rw [heap_setCell_same w b j _ t v h]
  congr 2
  apply Array.ext
  · simp
  · intro i h1 h2
    simp only [List.setIfInBounds_toArray, List.getElem_toArray, List.getElem_set, List.getElem_map, List.getElem_range]
    by_cases e : j = i
    · simp [e]
    · rw [if_neg e, if_neg (fun h => e h.symm)]
theorem Row.other {w : World} {b : Nat} {t : TypeId} {n : Nat} {f : Nat → Value} (h : Row w b t n f) (a : Addr) (v : Value) (hne : b ≠ a.block) : Row (w.setCell a v) b t n f := by
  unfold Row at h ⊢
  rw [Below.heap_setCell w a v b hne, h]
theorem Row.alloc {w : World} {b : Nat} {t : TypeId} {n : Nat} {f : Nat → Value} (h : Row w b t n f) (o : Obj) : Row (w.alloc o) b t n f := by
  have := h.lt
  unfold Row at h ⊢
  rw [Below.heap_alloc w o b this, h]
theorem Row.made (w : World) (z : Value) (t : TypeId) (n : Nat) : Row (w.alloc (.cells (zeros z n) t)) w.heap.size t n (fun _ => z) := by
  unfold Row
  rw [heap_alloc_new w]
  congr 2
  apply Array.ext <;> simp [zeros]

theorem fill_step (g : Nat → Value) (z v : Value) (k : Nat) (hv : v = g k) (i : Nat) : (if i = k then v else if i < k then g i else z) = (if i < k + 1 then g i else z) := by
  by_cases h : i = k
  · subst h; rw [if_pos rfl, if_pos (by omega), hv]
  · rw [if_neg h]
    by_cases h2 : i < k
    · rw [if_pos h2, if_pos (by omega)]
    · rw [if_neg h2, if_neg (by omega)]
theorem Row.one (w : World) (v : Value) (t : TypeId) : Row (w.alloc (.cells #[v] t)) w.heap.size t 1 (fun _ => v) := heap_alloc_new w _
theorem addr_at {w : World} {x : Addr} {v : Value} (h : w.cell? (x.add 0) = some v) : ∃ b o, x = ⟨b, o, none⟩ ∧ b < w.heap.size := by
  obtain ⟨b, off, spot⟩ := x
  have hspot : spot = none := by simpa [Addr.add] using World.cell?_spot h
  subst hspot
  exact ⟨b, off, rfl, by simpa [Addr.add] using World.block_lt_of_cell? _ _ h⟩
theorem add_at (b o k : Nat) : (⟨b, o, none⟩ : Addr).add k = ⟨b, o + k, none⟩ := by
  unfold Addr.add
  split
  · simp_all
  · rfl

theorem cutAt_add (b o k n size i : Nat) (h : k < n) : (cutAt ⟨b, o, none⟩ k n size).add i = ⟨b, o + k * size + i, none⟩ := by
  unfold cutAt
  rw [if_neg (by omega), add_at, add_at]

/-- a row written out -/
def rowArr (f : Nat → Value) (n : Nat) : Array Value := ((List.range n).map f).toArray
theorem Row.arr (w : World) (f : Nat → Value) (t : TypeId) (n : Nat) : Row (w.alloc (.cells (rowArr f n) t)) w.heap.size t n f := heap_alloc_new w _
theorem cell_alloc {w : World} {a : Addr} {v : Value} (h : w.cell? a = some v) (o : Obj) : (w.alloc o).cell? a = some v := by
  rw [World.cell?_alloc_lt w o a (World.block_lt_of_cell? w a h)]; exact h
theorem setRow_alloc (w : World) (c d : Array Value) (t : TypeId) : (w.alloc (.cells c t)).setRow w.heap.size d = w.alloc (.cells d t) := by
  have h : ((w.alloc (.cells c t)).setRow w.heap.size d).heap = (w.alloc (.cells d t)).heap := by
    simp only [World.setRow, World.alloc]
    apply Array.ext
    · simp
    · intro i h1 h2
      simp only [Array.getElem_modify, Array.getElem_push]
      simp at h1
      by_cases hi : i < w.heap.size
      · rw [if_neg (by omega), dif_pos hi, dif_pos hi]
      · rw [if_pos (by omega), dif_neg hi, dif_neg hi]
  cases w
  simp only [World.setRow, World.alloc] at h ⊢
  rw [h]
theorem copy_new (t e : TypeId) (hu : Try.prog.underlying t = some (.slice e)) (hs : (Try.prog.info? e).map (·.size) = some 1) (z : Value) (n : Nat) (x : Addr) (cap : Nat) (f : Nat → Value) (hf : ∀ i, (f i).oneCell' = true) (w : World)
    (hc : ∀ i, i < n → w.cell? (x.add i) = some (f i)) (ty : TypeId) :
    (Builtin.copy_ #[t, t] ty #[.slice (some ⟨w.heap.size, 0, none⟩) n n, .slice (some x) n cap]).run Try.prog (w.alloc (.cells (zeros z n) e)) = .ok (goInt n) (w.alloc (.cells (rowArr f n) e)) := by
  have h := run_copy_row (P := Try.prog) (w.alloc (.cells (zeros z n) e)) t t ty e w.heap.size 0 n n x n cap (zeros z n) e ((List.range n).map f) hu hs (heap_alloc_new w _) (by simp) (fun j v hj => by
      have hjn : j < n := by
        rcases Nat.lt_or_ge j n with h | h
        · exact h
        · simp [h] at hj
      simp [hjn] at hj
      subst hj
      exact cell_alloc (hc j hjn) _) (by simp [zeros]) (by intro v hv; obtain ⟨i, _, rfl⟩ := List.mem_map.1 hv; exact hf i)
  rw [h, setRow_alloc]
  simp [rowArr, zeros]

theorem belowN {B : Nat} {a w : World} (h : Below B a w) (n : Nat) : Below B a (w.drewN n) := h.trans ⟨rfl, rfl, rfl, Nat.le_refl _, fun _ _ => rfl⟩

theorem u8_all {zs : List Int} (h : ∀ n ∈ zs, (Lit.int .u8 n).wf = true) (i : Nat) : 0 ≤ zs.getD i 0 ∧ zs.getD i 0 ≤ 255 := by
  by_cases hi : i < zs.length
  · have h1 := h _ (List.getElem_mem hi)
    simp only [Lit.wf, Bool.and_eq_true, decide_eq_true_eq] at h1
    have h4 : zs.getD i 0 = zs[i] := by simp [hi]
    rw [h4]
    have h2 : IntKind.u8.min = 0 := rfl
    have h3 : IntKind.u8.max = 255 := rfl
    omega
  · simp [List.getD, hi]

theorem bytes9 (a : Option Addr) (len cap : Nat) (k : Int) (w : World) (h : len ≤ 1048576) :
    Calls Try.prog 9 #[.slice a len cap, .int .i64 k] w fun e w' => e = .returned (.bool true) ∧ w = w' := by
  go_enter Try.func9, Try.ntmps9
  go_wp2
  go_ret
  exact ⟨rfl, rfl⟩
theorem bytes9_no (a : Option Addr) (len cap : Nat) (k : Int) (w : World) (h : ¬ len ≤ 1048576) :
    Calls Try.prog 9 #[.slice a len cap, .int .i64 k] w fun e w' => e = .returned (.bool false) ∧ w = w' := by
  go_enter Try.func9, Try.ntmps9
  go_wp2
  go_ret
  exact ⟨rfl, rfl⟩
end Go.Proofs.Qxb6616022a
