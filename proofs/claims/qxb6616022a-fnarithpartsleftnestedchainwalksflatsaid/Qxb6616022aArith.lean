import Derived.Test.Qxb6616022aBase
import Derived.Deep.RegionLaw
import Derived.Deep.RegionWith
namespace Go.Proofs.Qxb6616022a
open Go.RowKit
attribute [local go_sem] eqnil22 eqnil24 eqnil62 neqnil22 assert49

theorem info49 : (Try.prog.info? 49).map (fun i => (i.zero, i.size, i.bytes)) = some (some (.pointer none), 1, 8) := by kernel_rfl
theorem info55 : (Try.prog.info? 55).map (fun i => (i.zero, i.size, i.bytes)) = some (some (.agg #[.nilIface, .slice none 0 0]), 2, 40) := by kernel_rfl
theorem info74 : (Try.prog.info? 74).map (fun i => (i.zero, i.size, i.bytes)) = some (some (.agg #[.int .u8 0, .nilIface]), 2, 24) := by kernel_rfl
theorem info5 : (Try.prog.info? 5).map (fun i => (i.zero, i.size, i.bytes)) = some (some (.int .u8 0), 1, 1) := by kernel_rfl
theorem info52 : (Try.prog.info? 52).map (fun i => (i.zero, i.size, i.bytes)) = some (some .nilIface, 1, 16) := by kernel_rfl

/-- a made row of elements of two cells -/
def zeros2 (y z : Value) (n : Nat) : Array Value := ((List.range (n * 2)).map fun i => if i % 2 = 0 then y else z).toArray
theorem zeros2_eq (y z : Value) (n : Nat) : madeCells #[y, z] (n * 2) = zeros2 y z n := by
  unfold madeCells zeros2
  apply Array.ext
  · simp
  · intro i h1 h2
    simp at h1
    simp
    have : i % 2 = 0 ∨ i % 2 = 1 := by omega
    rcases this with h | h <;> simp [h]
theorem mk_two (t e : TypeId) (y z : Value) (b : Nat) (hu : Try.prog.underlying t = some (.slice e)) (h : (Try.prog.info? e).map (fun i => (i.zero, i.size, i.bytes)) = some (some (.agg #[y, z]), 2, b)) (n : Nat) (c : Int) (hc : c = n)
    (hn : b * n ≤ 281474976710656) (hm : n ≤ 9223372036854775807) (w : World) :
    (Instr.makeSlice t (.int .i64 c) (.int .i64 c)).run Try.prog w = .ok (.slice (some ⟨w.heap.size, 0, none⟩) n n) (w.alloc (.cells (zeros2 y z n) e)) := by
  subst hc
  obtain ⟨i0, hi, hz0, hz1, hz2⟩ := info_parts h
  have hb' : (i0.bytes : Int) * (n : Int) ≤ 281474976710656 := by
    rw [hz2]
    have h : ((b * n : Nat) : Int) ≤ 281474976710656 := by omega
    rwa [Int.natCast_mul] at h
  have hmk := run_make (P := Try.prog) w t e i0 _ hu hi hz0 .i64 .i64 n n (by omega) (by omega) hb' (by omega)
  rw [hz1] at hmk
  simp only [Int.toNat_natCast, Value.cells, zeros2_eq] at hmk
  exact hmk
theorem Row.made2 (w : World) (y z : Value) (t : TypeId) (n : Nat) : Row (w.alloc (.cells (zeros2 y z n) t)) w.heap.size t (n * 2) (fun i => if i % 2 = 0 then y else z) := heap_alloc_new w _

set_option maxHeartbeats 400000 in
theorem leaves_any (n : Nat) (w : World) (hn : n ≤ 65536) :
    Calls Try.prog 22 #[.int .i64 n] w fun e w' => ∃ L b, e = .returned (.tuple #[.slice (some ⟨L, 0, none⟩) (n + 1) (n + 1), .slice (some ⟨b, 0, none⟩) n n]) ∧ Below w.heap.size w w' ∧
      Row w' b 49 n (fun i => .pointer (some ⟨L, (i + 1) * 2, none⟩)) := by
  have h1 := mk_two 45 55 _ _ 40 Try.underlying45 info55 (n + 1) (n + 1) (by omega) (by omega) (by omega)
  have h2 := mk_one 46 49 (.pointer none) 8 Try.underlying46 info49 rfl n (by omega) (by omega)
  go_enter Try.func22, Try.ntmps22
  go_wp2
  go_loopw [6] (fun i wr => ∃ k : Nat, k ≤ n ∧ i = .int .i64 k ∧ Below w.heap.size w wr ∧
      Row wr (w.heap.size + 1) 49 n (fun i => if i < k then .pointer (some ⟨w.heap.size, (i + 1) * 2, none⟩) else .pointer none)) (fun i _ => n - (intOf i).toNat)
  case atStart => 
    refine ⟨0, Nat.zero_le _, rfl, ((Below.refl _ _).alloc (Nat.le_refl _) _).alloc (by simp) _, ?_⟩
    have := Row.made (w.alloc (.cells (zeros2 .nilIface (.slice none 0 0) (n + 1)) 55)) (.pointer none) 49 n
    simp only [World.size_alloc] at this
    exact this.ext (by simp)
  case round =>
    obtain ⟨k, hk, rfl, hB, hR⟩ := hrel
    by_cases hlt : k < n
    · have hd := hR.cell k hlt
      have hf := hR.free k
      rw [if_neg (by omega)] at hd
      have hlt2 : k + 1 < n + 1 := by omega
      go_wp2
      go_roundw
      case rel => exact ⟨k + 1, by omega, by go_num, hB.setCell (by simp) _, (hR.set k _).ext (fun i _ => fill_step (fun i => .pointer (some ⟨w.heap.size, (i + 1) * 2, none⟩)) _ _ k rfl i)⟩
      case measure => simp [intOf]; omega
    · have hkl : k = n := by omega
      subst hkl
      go_wp2
      go_ret2
      exact ⟨_, _, rfl, hB, hR.ext (fun i hi => by simp [hi])⟩

/-- the cells of a list of ArithOp: operator, operand, operator, operand, .. -/
def opCell (o : Nat → Int) (Y : Nat → Addr) (i : Nat) : Value := if i % 2 = 0 then .int .u8 (o (i / 2)) else .iface 49 (.pointer (some (Y (i / 2))))
/-- the two cells of an Arith -/
def nodeCell (X : Addr) (c n : Nat) (i : Nat) : Value := if i = 0 then .iface 49 (.pointer (some X)) else .slice (some ⟨c, 0, none⟩) n n
theorem opCell_even (o : Nat → Int) (Y : Nat → Addr) (k : Nat) : opCell o Y (k * 2) = .int .u8 (o k) := by
  unfold opCell
  rw [if_pos (by omega), show k * 2 / 2 = k by omega]
theorem opCell_odd (o : Nat → Int) (Y : Nat → Addr) (k : Nat) : opCell o Y (k * 2 + 1) = .iface 49 (.pointer (some (Y k))) := by
  unfold opCell
  rw [if_neg (by omega), show (k * 2 + 1) / 2 = k by omega]
theorem fill2_step (g z : Nat → Value) (k : Nat) (v0 v1 : Value) (h0 : v0 = g (k * 2)) (h1 : v1 = g (k * 2 + 1)) (i : Nat) :
    (if i = k * 2 + 1 then v1 else if i = k * 2 then v0 else if i < k * 2 then g i else z i) = (if i < (k + 1) * 2 then g i else z i) := by
  by_cases ha : i = k * 2 + 1
  · subst ha; rw [if_pos rfl, if_pos (by omega), h1]
  · rw [if_neg ha]
    by_cases hb : i = k * 2
    · subst hb; rw [if_pos rfl, if_pos (by omega), h0]
    · rw [if_neg hb]
      by_cases hc : i < k * 2
      · rw [if_pos hc, if_pos (by omega)]
      · rw [if_neg hc, if_neg (by omega)]
def ArithNode (w : World) (p : Nat) (X : Addr) (n : Nat) (o : Nat → Int) (Y : Nat → Addr) : Prop :=
  n ≤ 65536 ∧ (∀ i, i < n → 0 ≤ o i ∧ o i ≤ 255) ∧ ∃ c, Row w p 55 2 (nodeCell X c n) ∧ Row w c 74 (n * 2) (opCell o Y)
theorem ArithNode.below {w w' : World} {p : Nat} {X : Addr} {n : Nat} {o : Nat → Int} {Y : Nat → Addr} (h : ArithNode w p X n o Y) (hB : Below w.heap.size w w') : ArithNode w' p X n o Y := by
  obtain ⟨h0, h1, c, h2, h3⟩ := h
  exact ⟨h0, h1, c, h2.below hB h2.lt, h3.below hB h3.lt⟩

set_option maxHeartbeats 400000 in
theorem newArith_any (X : Addr) (a : Option Addr) (n c : Nat) (y : Addr) (c' : Nat) (o : Nat → Int) (Y : Nat → Addr) (w : World) (hn : n ≤ 65536) (ho : ∀ i, i < n → 0 ≤ o i ∧ o i ≤ 255)
    (ha : ∀ i, i < n → ∃ x, a = some x ∧ w.cell? (x.add i) = some (.int .u8 (o i))) (hy : ∀ i, i < n → w.cell? (y.add i) = some (.pointer (some (Y i)))) :
    Calls Try.prog 23 #[.pointer (some X), .slice a n c, .slice (some y) n c'] w fun e w' => ∃ p, e = .returned (.pointer (some ⟨p, 0, none⟩)) ∧ Below w.heap.size w w' ∧ ArithNode w' p X n o Y := by
  have h1 := mk_two 53 74 _ _ 24 Try.underlying53 info74 n n (by omega) (by omega) (by omega)
  go_enter Try.func23, Try.ntmps23
  go_wp2
  go_loopw [8] (fun i wr => ∃ k : Nat, k ≤ n ∧ i = .int .i64 k ∧ Below w.heap.size w wr ∧ Row wr (w.heap.size + 1) 55 2 (nodeCell X w.heap.size n) ∧
      Row wr w.heap.size 74 (n * 2) (fun i => if i < k * 2 then opCell o Y i else if i % 2 = 0 then .int .u8 0 else .nilIface)) (fun i _ => n - (intOf i).toNat)
  case atStart => 
    refine ⟨0, Nat.zero_le _, rfl, ((Below.refl _ _).alloc (Nat.le_refl _) _).alloc (by simp) _, ?_, ?_⟩
    · have := heap_alloc_new (w.alloc (.cells (zeros2 (.int .u8 0) .nilIface n) 74)) (.cells #[.iface 49 (.pointer (some X)), .slice (some ⟨w.heap.size, 0, none⟩) n n] 55)
      simp only [World.size_alloc] at this
      exact this
    · exact ((Row.made2 w (.int .u8 0) .nilIface 74 n).alloc _).ext (by simp)
  case round =>
    obtain ⟨k, hk, rfl, hB, hP, hR⟩ := hrel
    by_cases hlt : k < n
    · obtain ⟨x, rfl, hck⟩ := ha k hlt
      have hyk := hy k hlt
      have h0 : w.cell? (x.add 0) = some (.int .u8 (o 0)) := by
        obtain ⟨x', h, g⟩ := ha 0 (by omega)
        cases h
        exact g
      obtain ⟨b, off, rfl, hbw⟩ := addr_at h0
      clear h0
      obtain ⟨b', off', rfl, hbw'⟩ := addr_at (hy 0 (by omega))
      rw [add_at] at hck hyk
      replace hck : wr.cell? ⟨b, off + k, none⟩ = some (.int .u8 (o k)) := (hB.cell (by exact hbw)).trans hck
      replace hyk : wr.cell? ⟨b', off' + k, none⟩ = some (.pointer (some (Y k))) := (hB.cell (by exact hbw')).trans hyk
      have hd0 := hR.cell (k * 2) (by omega)
      have hd1 := hR.cell (k * 2 + 1) (by omega)
      have hf0 := hR.free (k * 2)
      have hf1 := hR.free (k * 2 + 1)
      have hp := hP.cell 1 (by omega)
      simp only [nodeCell, if_neg (show ¬ (1 = 0) by omega)] at hp
      clear ha hy
      go_wp2
      go_region
      all_goals
        go_wp2
        go_roundw
        case rel => exact ⟨k + 1, by omega, by go_num, ((hB.setCell (by simp) _).setCell (by simp) _).drew, ((hP.other _ _ (by simp)).other _ _ (by simp)).drew, (((hR.set (k * 2) _).set (k * 2 + 1) _).ext (fun i _ => fill2_step (opCell o Y) (fun i => if i % 2 = 0 then .int .u8 0 else .nilIface) k _ _ (opCell_even o Y k).symm (opCell_odd o Y k).symm i)).drew⟩
        case measure => simp [intOf]; omega
    · have hkl : k = n := by omega
      subst hkl
      go_wp2
      go_ret
      exact ⟨_, rfl, hB, hn, ho, _, hP, hR.ext (fun i hi => by rw [if_pos hi])⟩

/-- append onto a slice of the call's own, as one step of a region that draws -/
theorem step_append_own {P : Program} {ops : Array Oper} {o : Oper} {a : Act} {w : World} {K : Act → World → Prop} {Q : Exit → Act → World → Prop} {E : Prop}
    (hg : o.guard = none) (s x : Operand) (t : TypeId) (hop : o.op = Op.call { callee := Callee.builtin Builtin.append, args := #[s, x], argTypes := #[t, t] })
    (base : Nat) (e : TypeId) (i : TypeInfo) (z : Value) (size bytes : Nat) (h1 : P.underlying t = some (.slice e)) (h2 : P.info? e = some i) (h3 : i.zero = some z) (h4 : i.size = size) (h5 : i.bytes = bytes) (h6 : z.cells.size = size) (h7 : 0 < size)
    (v : Value) (n : Nat) (xs : List Value) (hs : a.eval s = v) (hown : w.ownsRow base e size v n xs)
    (ad : Addr) (m c : Nat) (news : List Value) (hx : a.eval x = .slice (some ad) m c) (hn : news.length = m * size) (hc : ∀ j u, news[j]? = some u → w.cell? (ad.add j) = some u) (h1c : ∀ u ∈ news, u.oneCell' = true)
    (b1 : n + m ≤ maxLen) (b2 : (n + m) * bytes ≤ 140737488355328) (b3 : base ≤ w.heap.size)
    (hK : ∀ v' w', w'.ownsRow base e size v' (n + m) (xs ++ news) → w.grownBy w' v.ownBlock → K (a.put o.dst v') w') :
    if Region.wanted o (yielded ops a.tmps) = true then Oper.wp P o a w K Q else E := by
  have hw : Region.wanted o (yielded ops a.tmps) = true := by simp [Region.wanted, hg]
  rw [if_pos hw]
  obtain ⟨v', w', hrun, r1, r2, _⟩ := run_append_own (P := P) w base t o.type e i z size bytes h1 h2 h3 h4 h5 h6 h7 v n xs hown ad m c news hn hc h1c b1 b2 b3
  unfold Oper.wp
  simp [execOp, hop, resolve, invoke, builtin, hs, hx, hrun, Result.andThen]
  exact hK v' w' r1 r2

/-- the expressions that Parts hands out -/
def exprAt (X : Addr) (Y : Nat → Addr) (i : Nat) : Value := .iface 49 (.pointer (some (if i = 0 then X else Y (i - 1))))

theorem one_new {w : World} {y : Value} {t : TypeId} {o : Obj} {j : Nat} {u : Value} (hj : [y][j]? = some u) : (((w.alloc o).alloc (.cells #[y] t)).drew).cell? ((⟨w.heap.size + 1, 0, none⟩ : Addr).add j) = some u := by
  match j, hj with
  | 0, hj =>
    have h := World.cell?_alloc_new (w.alloc o) #[y] t 0
    rw [World.size_alloc] at h
    simp at hj
    subst hj
    rw [add_at]
    exact h
theorem Row.grown {w w' : World} {b : Nat} {t : TypeId} {n : Nat} {f : Nat → Value} {row : Option Nat} (h : Row w b t n f) (hg : w.grownBy w' row) (hne : some b ≠ row) : Row w' b t n f := by
  have := h.lt
  unfold Row at h ⊢
  rw [hg.block b this hne, h]
theorem after_append {w wr w1 : World} {n k q : Nat} {f : Nat → Value} {v x y : Value} {t t' : TypeId} {xs : List Value} (hB : Below w.heap.size w wr) (hsz : w.heap.size + 1 ≤ wr.heap.size) (hA : Row wr w.heap.size 5 n f)
    (hO : wr.ownsRow (w.heap.size + 1) 52 1 v q xs) (hk : k < n) (hg : (((wr.alloc (.cells #[x, y] t)).alloc (.cells #[y] t')).drew).grownBy w1 v.ownBlock) :
    Row w1 w.heap.size 5 n f ∧ Below w.heap.size w w1 ∧ w.heap.size + 1 ≤ w1.heap.size ∧ w1.cell? ⟨w.heap.size, k, none⟩ = some (f k) ∧ w1.frozen? ⟨w.heap.size, k, none⟩ = false ∧ w1.cell? ⟨wr.heap.size, 0, none⟩ = some x := by
  have hlt := hO.lt
  have h1 : Row (((wr.alloc (.cells #[x, y] t)).alloc (.cells #[y] t')).drew) w.heap.size 5 n f := ((hA.alloc _).alloc _).drew
  have h2 := h1.grown hg (fun e => by have := (hlt _ e.symm).1; omega)
  have hs : (((wr.alloc (.cells #[x, y] t)).alloc (.cells #[y] t')).drew).heap.size = wr.heap.size + 2 := by simp
  refine ⟨h2, ?_, by have := hg.size; omega, h2.cell k hk, h2.free k, ?_⟩
  · have h3 : Below w.heap.size w (((wr.alloc (.cells #[x, y] t)).alloc (.cells #[y] t')).drew) := ((hB.alloc (by omega) _).alloc (by simp; omega) _).drew
    exact h3.grown hg (by omega) (fun j hj => by have := (hlt _ hj).1; omega)
  · refine hg.cell ?_ (fun e => by have := (hlt _ e.symm).2; simp at this)
    have h4 := World.cell?_alloc_new wr #[x, y] t 0
    rw [World.cell?_drew, World.cell?_alloc_lt _ _ _ (by simp)]
    exact h4

theorem exprs_step {w : World} {base : Nat} {v : Value} (X : Addr) (Y : Nat → Addr) (k : Nat) (h : w.ownsRow base 52 1 v (k + 1 + 1) ((List.range (k + 1)).map (exprAt X Y) ++ [.iface 49 (.pointer (some (Y k)))])) :
    w.ownsRow base 52 1 v (k + 1 + 1) ((List.range (k + 1 + 1)).map (exprAt X Y)) := by
  rw [List.range_succ, List.map_append]
  exact h
theorem owned_cells {w : World} {base n : Nat} {v : Value} {f : Nat → Value} (h : w.ownsRow base 52 1 v (n + 1) ((List.range (n + 1)).map f)) :
    ∃ g cap, v = .slice (some ⟨g, 0, none⟩) (n + 1) cap ∧ ∀ i, i < n + 1 → w.cell? ⟨g, i, none⟩ = some (f i) := by
  rcases h.2 with ⟨_, h0⟩ | ⟨g, cap, cur, rfl, _⟩
  · omega
  · refine ⟨g, cap, rfl, fun i hi => ?_⟩
    rw [h.cellAt i (by omega)]
    simp [hi]

set_option maxHeartbeats 400000 in
theorem parts_any (p : Nat) (X : Addr) (n : Nat) (o : Nat → Int) (Y : Nat → Addr) (w : World) (h : ArithNode w p X n o Y) :
    Calls Try.prog 30 #[.pointer (some ⟨p, 0, none⟩)] w fun e w' => ∃ g cap, e = .returned (.tuple #[.string (strOfNums ((List.range n).map o)), .slice (some ⟨g, 0, none⟩) (n + 1) cap, .slice none 0 0]) ∧ Below w.heap.size w w' ∧
      ∀ i, i < n + 1 → w'.cell? ⟨g, i, none⟩ = some (exprAt X Y i) := by
  obtain ⟨hn, ho, c, hP, hR⟩ := h
  have h1 := mk_one 22 5 (.int .u8 0) 1 Try.underlying22 info5 rfl n (by omega) (by omega)
  obtain ⟨i0, hi, hz0, hz1, hz2⟩ := info_parts info52
  have hp0 := hP.cell 0 (by omega)
  have hp1 := hP.cell 1 (by omega)
  simp only [nodeCell, if_true, if_neg (show ¬ (1 = 0) by omega)] at hp0 hp1
  have hpl := hP.lt
  have hcl := hR.lt
  go_enter Try.func30, Try.ntmps30
  go_wp2
  go_loopw [6, 25] (fun v i wr => ∃ k : Nat, k ≤ n ∧ i = .int .i64 k ∧ Below w.heap.size w wr ∧ w.heap.size + 1 ≤ wr.heap.size ∧ Row wr w.heap.size 5 n (fun i => if i < k then .int .u8 (o i) else .int .u8 0) ∧
      wr.ownsRow (w.heap.size + 1) 52 1 v (k + 1) ((List.range (k + 1)).map (exprAt X Y))) (fun _ i _ => n - (intOf i).toNat)
  case atStart => 
    refine ⟨0, Nat.zero_le _, rfl, ((Below.refl _ _).alloc (Nat.le_refl _) _).alloc (by simp) _, by simp, ((Row.made w (.int .u8 0) 5 n).alloc _).ext (by simp), ?_⟩
    have := World.ownsRow_lit (base := w.heap.size + 1) (e := 52) (size := 1) (w.alloc (.cells (zeros (.int .u8 0) n) 5)) #[.iface 49 (.pointer (some X))] 1 (by simp) (by simp [maxLen]) rfl
    simp only [World.size_alloc] at this
    exact this
  case round =>
    obtain ⟨k, hk, rfl, hB, hsz, hA, hO⟩ := hrel
    by_cases hlt : k < n
    · have hq0 := (hR.below hB hcl).cell (k * 2) (by omega)
      have hq1 := (hR.below hB hcl).cell (k * 2 + 1) (by omega)
      rw [opCell_even] at hq0
      rw [opCell_odd] at hq1
      go_wp2
      go_region_law (refine step_append_own rfl (.tmp 34) (.tmp 37) 62 rfl (w.heap.size + 1) 52 i0 .nilIface 1 16 Try.underlying62 hi hz0 hz1 hz2 rfl (by decide) _ _ _ rfl (by exact (hO.alloc _).alloc _) ⟨wr.heap.size + 1, 0, none⟩ 1 1 [.iface 49 (.pointer (some (Y k)))] rfl rfl (by intro j u hj; exact one_new hj) (by intro u hu; simp at hu; subst hu; rfl) (by unfold maxLen; omega) (by omega) (by simp; omega) ?_; intro v1 w1 hO1 hg1; obtain ⟨hA1, hB1, hs1, hcA, hfA, hcB⟩ := after_append hB hsz hA hO hlt hg1)
      all_goals
        go_wp2
        go_roundw
        case rel => exact ⟨k + 1, by omega, by go_num, hB1.setCell (Nat.le_refl _) _, by simp; omega, (hA1.set k _).ext (fun i _ => fill_step (fun i => .int .u8 (o i)) _ _ k rfl i), ownsRow_setCell_below (exprs_step X Y k hO1) (by simp) _⟩
        case measure => simp [intOf]; omega
    · have hkl : k = n := by omega
      subst hkl
      obtain ⟨g, cap, rfl, hcells⟩ := owned_cells hO
      have hconv := run_convert_bytes_arg (P := Try.prog) wr 22 5 Try.underlying22 Try.underlying5 w.heap.size 0 k k ((List.range k).map o) (by simp) (fun i hi => by rw [Nat.zero_add, hA.cell i hi, if_pos hi]; simp [hi]) 9 Try.underlying9
      clear hO
      go_wp2
      go_ret3
      exact ⟨_, _, rfl, hB, hcells⟩
end Go.Proofs.Qxb6616022a
