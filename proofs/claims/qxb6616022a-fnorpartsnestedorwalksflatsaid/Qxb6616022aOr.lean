import Derived.Test.Qxb6616022aBase
namespace Go.Proofs.Qxb6616022a
open Go.RowKit
attribute [local go_sem] eqnil22 eqnil24 eqnil62 neqnil28 assert31

theorem info31 : (Try.prog.info? 31).map (fun i => (i.zero, i.size, i.bytes)) = some (some (.pointer none), 1, 8) := by kernel_rfl

def selPtr (L : Nat) (z : Int) : Value := .pointer (some ⟨L, z.toNat, none⟩)

set_option maxHeartbeats 400000 in
theorem orList_any (L : Nat) (x : Addr) (len cap : Nat) (zs : List Int) (w : World) (hl : len ≤ 65536) (hz : len ≤ zs.length)
    (hc : ∀ i, i < len → w.cell? (x.add i) = some (.int .u8 (zs.getD i 0))) (hb : ∀ i, 0 ≤ zs.getD i 0 ∧ zs.getD i 0 ≤ 255) :
    Calls Try.prog 10 #[.pointer (some ⟨L, 0, none⟩), .slice (some x) len cap] w fun e w' =>
      e = .returned (.slice (some ⟨w.heap.size, 0, none⟩) len len) ∧ Below w.heap.size w w' ∧ w'.heap.size = w.heap.size + 1 ∧
      Row w' w.heap.size 31 len (fun i => selPtr L (zs.getD i 0)) := by
  have hmk := mk_one 28 31 (.pointer none) 8 Try.underlying28 info31 rfl len (by omega) (by omega)
  go_enter Try.func10, Try.ntmps10
  go_wp2
  go_loopw [6] (fun i wr => ∃ k : Nat, k ≤ len ∧ i = .int .i64 k ∧ Below w.heap.size w wr ∧ wr.heap.size = w.heap.size + 1 ∧
      Row wr w.heap.size 31 len (fun i => if i < k then selPtr L (zs.getD i 0) else .pointer none)) (fun i _ => len - (intOf i).toNat)
  case atStart => exact ⟨0, Nat.zero_le _, rfl, (Below.refl _ _).alloc (Nat.le_refl _) _, by simp, (Row.made w (.pointer none) 31 len).ext (by simp)⟩
  case round =>
    obtain ⟨k, hk, rfl, hB, hs, hR⟩ := hrel
    by_cases hlt : k < len
    · have hck := hc k hlt
      obtain ⟨b, off, spot⟩ := x
      have hspot : spot = none := by simpa [Addr.add] using World.cell?_spot (hc 0 (by omega))
      subst hspot
      have hbw : b < w.heap.size := by simpa [Addr.add] using World.block_lt_of_cell? _ _ (hc 0 (by omega))
      rw [add_at] at hck
      have hck' : wr.cell? ⟨b, off + k, none⟩ = some (.int .u8 (zs.getD k 0)) := (hB.cell (by exact hbw)).trans hck
      have hd := hR.cell k hlt
      have hf := hR.free k
      obtain ⟨hb0, hb1⟩ := hb k
      generalize hzk : zs.getD k 0 = z at *
      have HZ : Hid (zs.getD k 0 = z) := hzk
      clear hzk hck hc hb
      go_wp2
      go_region
      all_goals
        go_wp2
        go_roundw
        case rel => exact ⟨k + 1, by omega, by go_num, (hB.setCell (Nat.le_refl _) _).drew, by simp [hs], ((hR.set k _).ext (fun i _ => fill_step (fun i => selPtr L (zs.getD i 0)) _ _ k (by simp only [selPtr]; rw [HZ.out]) i)).drew⟩
        case measure => simp [intOf]; omega
    · have hkl : k = len := by omega
      subst hkl
      go_wp2
      go_ret
      exact ⟨rfl, hB, hs, hR.ext (fun i hi => by simp [hi])⟩

theorem orList_nil (L : Nat) (w : World) : Calls Try.prog 10 #[.pointer (some ⟨L, 0, none⟩), .slice none 0 0] w fun e w' => e = .returned (.slice none 0 0) ∧ w = w' := by
  go_enter Try.func10, Try.ntmps10
  go_wp2
  go_ret
  exact ⟨rfl, rfl⟩

theorem newOr_nil (w : World) (n c : Nat) : Calls Try.prog 11 #[.slice none n c] w fun e w' => e = .returned (.pointer (some ⟨w.heap.size, 0, none⟩)) ∧ Below w.heap.size w w' ∧ w'.heap.size = w.heap.size + 1 ∧
    Row w' w.heap.size 26 1 (fun _ => .slice none 0 0) := by
  go_enter Try.func11, Try.ntmps11
  go_wp2
  go_ret
  exact ⟨rfl, (Below.refl _ _).alloc (Nat.le_refl _) _, by simp, heap_alloc_new w _⟩

theorem info61 : (Try.prog.info? 61).map (fun i => (i.zero, i.size, i.bytes)) = some (some .nilIface, 1, 16) := by kernel_rfl

set_option maxHeartbeats 400000 in
theorem newOr_any (x : Addr) (n c : Nat) (f : Nat → Addr) (w : World) (hn : n ≤ 65536) (hc : ∀ i, i < n → w.cell? (x.add i) = some (.pointer (some (f i)))) :
    Calls Try.prog 11 #[.slice (some x) n c] w fun e w' => e = .returned (.pointer (some ⟨w.heap.size, 0, none⟩)) ∧ Below w.heap.size w w' ∧ w'.heap.size = w.heap.size + 2 ∧
      Row w' w.heap.size 26 1 (fun _ => .slice (some ⟨w.heap.size + 1, 0, none⟩) n n) ∧ Row w' (w.heap.size + 1) 61 n (fun i => .iface 31 (.pointer (some (f i)))) := by
  have hmk := mk_one 24 61 .nilIface 16 Try.underlying24 info61 rfl n (by omega) (by omega)
  go_enter Try.func11, Try.ntmps11
  go_wp2
  go_loopw [4] (fun i wr => ∃ k : Nat, k ≤ n ∧ i = .int .i64 k ∧ Below w.heap.size w wr ∧ wr.heap.size = w.heap.size + 2 ∧
      Row wr w.heap.size 26 1 (fun _ => .slice (some ⟨w.heap.size + 1, 0, none⟩) n n) ∧
      Row wr (w.heap.size + 1) 61 n (fun i => if i < k then .iface 31 (.pointer (some (f i))) else .nilIface)) (fun i _ => n - (intOf i).toNat)
  case atStart =>
    refine ⟨0, Nat.zero_le _, rfl, ((Below.refl _ _).alloc (Nat.le_refl _) _).alloc (by simp) _, by simp, (Row.one w _ 26).alloc _, ?_⟩
    have := Row.made (w.alloc (.cells #[.slice (some ⟨w.heap.size + 1, 0, none⟩) n n] 26)) .nilIface 61 n
    simp only [World.size_alloc] at this
    exact this.ext (by simp)
  case round =>
    obtain ⟨k, hk, rfl, hB, hs, hP, hR⟩ := hrel
    by_cases hlt : k < n
    · have hck := hc k hlt
      obtain ⟨b, off, rfl, hbw⟩ := addr_at (hc 0 (by omega))
      rw [add_at] at hck
      have hck' : wr.cell? ⟨b, off + k, none⟩ = some (.pointer (some (f k))) := (hB.cell (by exact hbw)).trans hck
      have hd := hR.cell k hlt
      have hf := hR.free k
      have hp := hP.cell 0 (by omega)
      rw [if_neg (by omega)] at hd
      clear hck hc
      go_wp2
      go_region
      all_goals
        go_wp2
        go_roundw
        case rel => exact ⟨k + 1, by omega, by go_num, (hB.setCell (by simp) _).drew, by simp [hs], (hP.other _ _ (by simp)).drew, ((hR.set k _).ext (fun i _ => fill_step (fun i => .iface 31 (.pointer (some (f i)))) _ _ k rfl i)).drew⟩
        case measure => simp [intOf]; omega
    · have hkl : k = n := by omega
      subst hkl
      go_wp2
      go_ret
      exact ⟨rfl, hB, hs, hP, hR.ext (fun i hi => by simp [hi])⟩

theorem orMeth (p : Nat) (v : Value) (w : World) (hp : w.cell? ⟨p, 0, none⟩ = some v) : Calls Try.prog 28 #[.pointer (some ⟨p, 0, none⟩)] w fun e w' => e = .returned (.tuple #[.string ⟨#[]⟩, .slice none 0 0, v]) ∧ w.drew = w' := by
  go_enter Try.func28, Try.ntmps28
  go_wp2
  go_region
  all_goals
    go_wp2
    go_ret3
    exact ⟨rfl, rfl⟩

set_option maxHeartbeats 400000 in
theorem orParts_any (p : Nat) (a : Option Addr) (n : Nat) (f : Nat → Addr) (w : World) (hn : n ≤ 65536) (hp : w.cell? ⟨p, 0, none⟩ = some (.slice a n n))
    (hc : ∀ i, i < n → ∃ b, a = some ⟨b, 0, none⟩ ∧ w.cell? ⟨b, i, none⟩ = some (.iface 31 (.pointer (some (f i))))) :
    Calls Try.prog 12 #[.pointer (some ⟨p, 0, none⟩)] w fun e w' => e = .returned (.tuple #[.string ⟨#[]⟩, .int .i64 0, .bool true, .slice (some ⟨w.heap.size, 0, none⟩) n n, .bool a.isNone]) ∧ Below w.heap.size w w' ∧
      w'.heap.size = w.heap.size + 1 ∧ Row w' w.heap.size 31 n (fun i => .pointer (some (f i))) := by
  have hmk := mk_one 28 31 (.pointer none) 8 Try.underlying28 info31 rfl n (by omega) (by omega)
  go_enter Try.func12, Try.ntmps12
  go_wp2_with fail
  refine (orMeth p _ _ hp).mono ?_
  rintro e w1 ⟨rfl, rfl⟩
  go_wp2
  go_loopw [11] (fun i wr => ∃ k : Nat, k ≤ n ∧ i = .int .i64 k ∧ Below w.heap.size w wr ∧ wr.heap.size = w.heap.size + 1 ∧
      Row wr w.heap.size 31 n (fun i => if i < k then .pointer (some (f i)) else .pointer none)) (fun i _ => n - (intOf i).toNat)
  case atStart =>
    exact ⟨0, Nat.zero_le _, rfl, ((Below.refl _ _).alloc (Nat.le_refl _) _).drew, by simp, ((Row.made w (.pointer none) 31 n).ext (by simp)).drew⟩
  case round =>
    obtain ⟨k, hk, rfl, hB, hs, hR⟩ := hrel
    by_cases hlt : k < n
    · obtain ⟨b, rfl, hck⟩ := hc k hlt
      have hbw : b < w.heap.size := World.block_lt_of_cell? _ _ hck
      have hck' : wr.cell? ⟨b, k, none⟩ = some (.iface 31 (.pointer (some (f k)))) := (hB.cell (by exact hbw)).trans hck
      have hd := hR.cell k hlt
      have hf := hR.free k
      rw [if_neg (by omega)] at hd
      clear hck hc
      go_wp2
      go_roundw
      case rel => exact ⟨k + 1, by omega, by go_num, hB.setCell (by simp) _, by simp [hs], (hR.set k _).ext (fun i _ => fill_step (fun i => .pointer (some (f i))) _ _ k rfl i)⟩
      case measure => simp [intOf]; omega
    · have hkl : k = n := by omega
      subst hkl
      go_wp2
      refine bodyPost_ret (results_tmp5 rfl _ _ _) rfl ?_
      exact ⟨rfl, hB, hs, hR.ext (fun i hi => by simp [hi])⟩

theorem cell_alloc {w : World} {a : Addr} {v : Value} (h : w.cell? a = some v) (o : Obj) : (w.alloc o).cell? a = some v := by
  rw [World.cell?_alloc_lt w o a (World.block_lt_of_cell? w a h)]; exact h
theorem z27 : ((Try.prog.info? 27).bind (·.zero)).any (fun v => match v with | .agg _ => true | _ => false) = true := by kernel_rfl
theorem zero27 : ∃ cs : Array Value, ∀ w, (zeroValue 27).run Try.prog w = .ok (.agg cs) w := by
  have h := z27
  cases hi : Try.prog.info? 27 with
  | none => rw [hi] at h; simp at h
  | some i =>
    rw [hi] at h
    simp only [Option.bind_some] at h
    cases hz : i.zero with
    | none => rw [hz] at h; simp at h
    | some v =>
      rw [hz] at h
      cases v <;> simp at h
      case agg cs => exact ⟨cs, fun w => by simp [zeroValue, typeInfo, hi, hz]⟩

/-! ### the same, the new blocks under names -/
/-- what an Or node is in memory: a list that is nil, or a row of conditions, each an *Or -/
def OrNode (w : World) (p : Nat) (a : Option Addr) (n : Nat) (f : Nat → Addr) : Prop :=
  n ≤ 65536 ∧ Row w p 26 1 (fun _ => .slice a n n) ∧ ((a = none ∧ n = 0) ∨ ∃ c, a = some ⟨c, 0, none⟩ ∧ Row w c 61 n (fun i => .iface 31 (.pointer (some (f i)))))
theorem OrNode.below {w w' : World} {p : Nat} {a : Option Addr} {n : Nat} {f : Nat → Addr} (h : OrNode w p a n f) (hB : Below w.heap.size w w') : OrNode w' p a n f := by
  obtain ⟨h0, h1, h2⟩ := h
  refine ⟨h0, h1.below hB h1.lt, ?_⟩
  rcases h2 with h2 | ⟨c, h2, h3⟩
  · exact .inl h2
  · exact .inr ⟨c, h2, h3.below hB h3.lt⟩

theorem orList_some (L : Nat) (x : Addr) (len cap : Nat) (zs : List Int) (w : World) (hl : len ≤ 65536) (hz : len ≤ zs.length)
    (hc : ∀ i, i < len → w.cell? (x.add i) = some (.int .u8 (zs.getD i 0))) (hb : ∀ i, 0 ≤ zs.getD i 0 ∧ zs.getD i 0 ≤ 255) :
    Calls Try.prog 10 #[.pointer (some ⟨L, 0, none⟩), .slice (some x) len cap] w fun e w' =>
      ∃ b, e = .returned (.slice (some ⟨b, 0, none⟩) len len) ∧ Below w.heap.size w w' ∧ Row w' b 31 len (fun i => selPtr L (zs.getD i 0)) :=
  (orList_any L x len cap zs w hl hz hc hb).mono fun _ _ h => ⟨_, h.1, h.2.1, h.2.2.2⟩

theorem newOr_some (x : Addr) (n c : Nat) (f : Nat → Addr) (w : World) (hn : n ≤ 65536) (hc : ∀ i, i < n → w.cell? (x.add i) = some (.pointer (some (f i)))) :
    Calls Try.prog 11 #[.slice (some x) n c] w fun e w' => ∃ p c, e = .returned (.pointer (some ⟨p, 0, none⟩)) ∧ Below w.heap.size w w' ∧ OrNode w' p (some ⟨c, 0, none⟩) n f :=
  (newOr_any x n c f w hn hc).mono fun _ _ h => ⟨_, _, h.1, h.2.1, hn, h.2.2.2.1, .inr ⟨_, rfl, h.2.2.2.2⟩⟩

theorem newOr_none (f : Nat → Addr) (w : World) (c : Nat) :
    Calls Try.prog 11 #[.slice none 0 c] w fun e w' => ∃ p, e = .returned (.pointer (some ⟨p, 0, none⟩)) ∧ Below w.heap.size w w' ∧ OrNode w' p none 0 f :=
  (newOr_nil w 0 c).mono fun _ _ h => ⟨_, h.1, h.2.1, by omega, h.2.2.2, .inl ⟨rfl, rfl⟩⟩

theorem orParts_node (p : Nat) (a : Option Addr) (n : Nat) (f : Nat → Addr) (w : World) (h : OrNode w p a n f) :
    Calls Try.prog 12 #[.pointer (some ⟨p, 0, none⟩)] w fun e w' => ∃ b, e = .returned (.tuple #[.string ⟨#[]⟩, .int .i64 0, .bool true, .slice (some ⟨b, 0, none⟩) n n, .bool a.isNone]) ∧ Below w.heap.size w w' ∧
      Row w' b 31 n (fun i => .pointer (some (f i))) := by
  obtain ⟨h0, h1, h2⟩ := h
  refine (orParts_any p a n f w h0 (h1.cell 0 (by omega)) (fun i hi => ?_)).mono fun _ _ h => ⟨_, h.1, h.2.1, h.2.2.2⟩
  rcases h2 with ⟨_, h2⟩ | ⟨c, h2, h3⟩
  · omega
  · exact ⟨c, h2, h3.cell i hi⟩

end Go.Proofs.Qxb6616022a
