import Derived.Test.Qxb6616022aArith
namespace Go.Proofs.Qxb6616022a
open Go.RowKit
attribute [local go_sem] eqnil22 eqnil24 eqnil62 neqnil22 assert49

/-- the operators as a string -/
def opStr (o : Nat → Int) (n : Nat) : ByteArray := strOfNums ((List.range n).map o)
theorem opStr_size (o : Nat → Int) (n : Nat) : (opStr o n).size = n := by rw [opStr, strOfNums_size]; simp
theorem opStr_get (o : Nat → Int) (n k : Nat) (h : k < (opStr o n).size) (ho : 0 ≤ o k ∧ o k ≤ 255) : ((opStr o n)[k].toNat : Int) = o k := by
  have h2 : k < n := by rw [opStr_size] at h; exact h
  have h3 : (opStr o n)[k] = UInt8.ofNat (o k).toNat := by
    show (opStr o n).data[k] = _
    simp [opStr, strOfNums]
  rw [h3]
  have : (UInt8.ofNat (o k).toNat).toNat = (o k).toNat := by
    rw [UInt8.toNat_ofNat']
    omega
  rw [this]
  omega
theorem opStr_join (o : Nat → Int) (n k : Nat) (h : k ≤ n) : opStr o k ++ opStr (fun i => o (k + i)) (n - k) = opStr o n := by
  unfold opStr strOfNums
  rw [ByteArray.mk_append_mk, ← List.map_append]
  congr 3
  apply List.ext_getElem
  · simp; omega
  · intro i h1 h2
    simp only [List.getElem_append, List.getElem_map, List.getElem_range, List.length_map, List.length_range]
    split
    · rfl
    · congr 1
      omega
def outAt (X : Addr) (Y : Nat → Addr) (i : Nat) : Addr := if i = 0 then X else Y (i - 1)
theorem exprAt_out (X : Addr) (Y : Nat → Addr) (i : Nat) : exprAt X Y i = .iface 49 (.pointer (some (outAt X Y i))) := rfl

set_option maxHeartbeats 400000 in
theorem arithParts_any (p : Nat) (X : Addr) (n : Nat) (o : Nat → Int) (Y : Nat → Addr) (w : World) (h : ArithNode w p X n o Y) :
    Calls Try.prog 24 #[.pointer (some ⟨p, 0, none⟩)] w fun e w' => ∃ b, e = .returned (.tuple #[.string (opStr o n), .slice (some ⟨b, 0, none⟩) (n + 1) (n + 1), .bool false, .int .i64 0, .bool true]) ∧ Below w.heap.size w w' ∧
      Row w' b 49 (n + 1) (fun i => .pointer (some (outAt X Y i))) := by
  have hn := h.1
  have h1 := mk_one 46 49 (.pointer none) 8 Try.underlying46 info49 rfl (n + 1) (by omega) (by omega)
  rw [show ((n + 1 : Nat) : Int) = (n : Int) + 1 from by omega] at h1
  go_enter Try.func24, Try.ntmps24
  go_wp2_with fail
  refine (parts_any p X n o Y w h).mono ?_
  rintro e w1 ⟨g, cap, rfl, hB0, hc⟩
  rw [show strOfNums ((List.range n).map o) = opStr o n from rfl]
  go_wp2
  go_loopw [11] (fun i wr => ∃ k : Nat, k ≤ n + 1 ∧ i = .int .i64 k ∧ Below w1.heap.size w1 wr ∧
      Row wr w1.heap.size 49 (n + 1) (fun i => if i < k then .pointer (some (outAt X Y i)) else .pointer none)) (fun i _ => n + 1 - (intOf i).toNat)
  case atStart =>
    exact ⟨0, Nat.zero_le _, rfl, (Below.refl _ _).alloc (Nat.le_refl _) _, (Row.made w1 (.pointer none) 49 (n + 1)).ext (by simp)⟩
  case round =>
    obtain ⟨k, hk, rfl, hB, hR⟩ := hrel
    by_cases hlt : k < n + 1
    · have hck := hc k hlt
      have hbw : g < w1.heap.size := World.block_lt_of_cell? _ _ hck
      replace hck : wr.cell? ⟨g, k, none⟩ = some (.iface 49 (.pointer (some (outAt X Y k)))) := (hB.cell (by exact hbw)).trans hck
      have hd := hR.cell k hlt
      have hf := hR.free k
      rw [if_neg (by omega)] at hd
      clear hc
      go_wp2
      go_roundw
      case rel => exact ⟨k + 1, by omega, by go_num, hB.setCell (by simp) _, (hR.set k _).ext (fun i _ => fill_step (fun i => .pointer (some (outAt X Y i))) _ _ k rfl i)⟩
      case measure => simp [intOf]; omega
    · have hkl : k = n + 1 := by omega
      subst hkl
      go_wp2
      refine bodyPost_ret (results_tmp5 rfl _ _ _) rfl ?_
      exact ⟨_, rfl, hB0.trans (hB.mono hB0.size), hR.ext (fun i hi => by rw [if_pos hi])⟩

set_option maxHeartbeats 400000 in
theorem sameBytes_any (o : Nat → Int) (n : Nat) (a : Option Addr) (c : Nat) (w : World) (hn : n ≤ 65536) (ho : ∀ i, i < n → 0 ≤ o i ∧ o i ≤ 255)
    (ha : ∀ i, i < n → ∃ x, a = some x ∧ w.cell? (x.add i) = some (.int .u8 (o i))) :
    Calls Try.prog 25 #[.string (opStr o n), .slice a n c] w fun e w' => e = .returned (.bool true) ∧ Below w.heap.size w w' := by
  have hs := opStr_size o n
  go_enter Try.func25, Try.ntmps25
  go_wp2
  go_loopw [5] (fun i wr => ∃ k : Nat, k ≤ n ∧ i = .int .i64 k ∧ Below w.heap.size w wr) (fun i _ => n - (intOf i).toNat)
  case atStart => exact ⟨0, Nat.zero_le _, rfl, Below.refl _ _⟩
  case round =>
    obtain ⟨k, hk, rfl, hB⟩ := hrel
    by_cases hlt : k < n
    · obtain ⟨x, rfl, hck⟩ := ha k hlt
      have h0 : w.cell? (x.add 0) = some (.int .u8 (o 0)) := by
        obtain ⟨x', h, g⟩ := ha 0 (by omega)
        cases h
        exact g
      obtain ⟨b, off, rfl, hbw⟩ := addr_at h0
      rw [add_at] at hck
      replace hck : wr.cell? ⟨b, off + k, none⟩ = some (.int .u8 (o k)) := (hB.cell (by exact hbw)).trans hck
      have hsk := fun h => opStr_get o n k h (ho k hlt)
      clear h0 ha
      go_wp2
      go_quiet (fail)
      go_wp2
      go_roundw
      case rel => exact ⟨k + 1, by omega, by go_num, belowN hB _⟩
      case measure => simp [intOf]; omega
    · go_wp2
      go_ret
      exact ⟨rfl, hB⟩

theorem out_leaf (L k i : Nat) : outAt ⟨L, k * 2, none⟩ (fun i => ⟨L, (k + i + 1) * 2, none⟩) i = ⟨L, (k + i) * 2, none⟩ := by
  unfold outAt
  by_cases h : i = 0
  · subst h; rfl
  · rw [if_neg h]
    show (⟨L, (k + (i - 1) + 1) * 2, none⟩ : Addr) = _
    rw [show k + (i - 1) + 1 = k + i by omega]
theorem out_leaf0 (L i : Nat) : outAt ⟨L, 0, none⟩ (fun i => ⟨L, (i + 1) * 2, none⟩) i = ⟨L, i * 2, none⟩ := by
  unfold outAt
  by_cases h : i = 0
  · subst h; rfl
  · rw [if_neg h]
    show (⟨L, (i - 1 + 1) * 2, none⟩ : Addr) = _
    rw [show i - 1 + 1 = i by omega]
theorem join_run (o : Nat → Int) (n k : Nat) (h : k ≤ n) (hn : n ≤ 65536) (w : World) : (Op.stringOp .add (opStr o k) (opStr (fun i => o (k + i)) (n - k))).run Try.prog w = .ok (.string (opStr o n)) w := by
  rw [run_string_add_sum _ _ _ (by rw [opStr_size, opStr_size]; omega), opStr_join o n k h]
theorem join_bin (o : Nat → Int) (n k : Nat) (h : k ≤ n) (hn : n ≤ 65536) (w : World) : (binOp .add 9 (.string (opStr o k)) (.string (opStr (fun i => o (k + i)) (n - k)))).run Try.prog w = .ok (.string (opStr o n)) w :=
  join_run o n k h hn w
end Go.Proofs.Qxb6616022a
