import Derived.Test.Qxb6616022aBase
namespace Go.Proofs.Qxb6616022a
open Go.RowKit
set_option linter.unusedVariables false

theorem neqnil35 (w : World) (a : Option Addr) (n c : Nat) : (binOp .neq 35 (.slice a n c) (.slice none 0 0)).run Try.prog w = .ok (.bool (!a.isNone)) w := run_neq_slice_nil_any w 35 9 a n c 0 0 Try.underlying35
theorem neqnil36 (w : World) (a : Option Addr) (n c : Nat) : (binOp .neq 36 (.slice a n c) (.slice none 0 0)).run Try.prog w = .ok (.bool (!a.isNone)) w := run_neq_slice_nil_any w 36 3 a n c 0 0 Try.underlying36
theorem info9 : (Try.prog.info? 9).map (fun i => (i.zero, i.size, i.bytes)) = some (some (.string ⟨#[]⟩), 1, 16) := by kernel_rfl
theorem info3 : (Try.prog.info? 3).map (fun i => (i.zero, i.size, i.bytes)) = some (some (.int .i64 0), 1, 8) := by kernel_rfl
attribute [local go_sem] neqnil35 neqnil36

def SomeBool (e : Ending) : Prop := ∃ b, e = .returned (.bool b)
def SomeInt (e : Ending) : Prop := ∃ t : Int, e = .returned (.int .i64 t)
/-- a slice of strings that is read: nil or not; its first n elements -/
def Strs (w : World) (a : Option Addr) (n : Nat) (R : Nat → ByteArray) : Prop := ∀ i, i < n → ∃ x, a = some x ∧ w.cell? (x.add i) = some (.string (R i))
def Nums (w : World) (a : Option Addr) (n : Nat) (P : Nat → Int) : Prop := ∀ i, i < n → ∃ x, a = some x ∧ w.cell? (x.add i) = some (.int .i64 (P i))
theorem Strs.at {w : World} {a : Option Addr} {n : Nat} {R : Nat → ByteArray} (h : Strs w a n R) (k : Nat) (hk : k < n) : ∃ b o, a = some ⟨b, o, none⟩ ∧ b < w.heap.size ∧ w.cell? ⟨b, o + k, none⟩ = some (.string (R k)) := by
  obtain ⟨x, rfl, hx⟩ := h k hk
  obtain ⟨y, hy, h0⟩ := h 0 (by omega)
  cases hy
  obtain ⟨b, o, rfl, hb⟩ := addr_at h0
  rw [add_at] at hx
  exact ⟨b, o, rfl, hb, hx⟩
theorem Nums.at {w : World} {a : Option Addr} {n : Nat} {P : Nat → Int} (h : Nums w a n P) (k : Nat) (hk : k < n) : ∃ b o, a = some ⟨b, o, none⟩ ∧ b < w.heap.size ∧ w.cell? ⟨b, o + k, none⟩ = some (.int .i64 (P k)) := by
  obtain ⟨x, rfl, hx⟩ := h k hk
  obtain ⟨y, hy, h0⟩ := h 0 (by omega)
  cases hy
  obtain ⟨b, o, rfl, hb⟩ := addr_at h0
  rw [add_at] at hx
  exact ⟨b, o, rfl, hb, hx⟩

set_option maxHeartbeats 400000 in
theorem bytes27 (src : ByteArray) (a1 : Option Addr) (l1 c1 : Nat) (a2 : Option Addr) (l2 c2 : Nat) (i s m : Int) (w : World) (R : Nat → ByteArray) (h : Strs w a1 l1 R) :
    Calls Try.prog 27 #[.string src, .slice a1 l1 c1, .slice a2 l2 c2, .int .i64 i, .int .i64 s, .int .i64 m] w fun e w' => SomeBool e ∧ w = w' := by
  by_cases h1 : 1048576 < src.size
  · go_enter Try.func27, Try.ntmps27
    go_wp2
    go_ret
    exact ⟨⟨_, rfl⟩, rfl⟩
  by_cases h2 : 1048576 < l1
  · go_enter Try.func27, Try.ntmps27
    go_wp2
    go_ret
    exact ⟨⟨_, rfl⟩, rfl⟩
  by_cases h3 : 1048576 < src.size + l1
  · go_enter Try.func27, Try.ntmps27
    go_wp2
    go_ret
    exact ⟨⟨_, rfl⟩, rfl⟩
  go_enter Try.func27, Try.ntmps27
  go_wp2
  go_loop [13, 14] (fun v i => ∃ (t : Int) (k : Nat), k ≤ l1 ∧ v = .int .i64 t ∧ i = .int .i64 k) (fun _ i => l1 - (intOf i).toNat)
  case atStart => exact ⟨_, 0, Nat.zero_le _, rfl, rfl⟩
  case round =>
    obtain ⟨t, k, hk, rfl, rfl⟩ := hrel
    by_cases hlt : k < l1
    · obtain ⟨b, o, rfl, hb, hc⟩ := h.at k hlt
      clear h
      go_wp2
      · go_ret
        exact ⟨⟨_, rfl⟩, rfl⟩
      · go_ret
        exact ⟨⟨_, rfl⟩, rfl⟩
      · go_round
        case rel => exact ⟨_, k + 1, by omega, rfl, by go_num⟩
        case measure => simp [intOf]; omega
    · go_wp2
      all_goals
        go_ret
        exact ⟨⟨_, rfl⟩, rfl⟩

set_option maxHeartbeats 400000 in
theorem addStrings_any (t : Int) (a1 : Option Addr) (l1 c1 : Nat) (w : World) (R : Nat → ByteArray) (hl : l1 ≤ 65536) (h : Strs w a1 l1 R) :
    Calls Try.prog 15 #[.int .i64 t, .slice a1 l1 c1] w fun e w' => SomeInt e ∧ w = w' := by
  go_enter Try.func15, Try.ntmps15
  go_wp2
  go_loop [0, 5] (fun v i => ∃ (t : Int) (k : Nat), k ≤ l1 ∧ v = .int .i64 t ∧ i = .int .i64 k) (fun _ i => l1 - (intOf i).toNat)
  case atStart => exact ⟨_, 0, Nat.zero_le _, rfl, rfl⟩
  case round =>
    obtain ⟨t, k, hk, rfl, rfl⟩ := hrel
    by_cases hlt : k < l1
    · obtain ⟨b, o, rfl, hb, hc⟩ := h.at k hlt
      clear h
      go_wp2
      · go_ret
        exact ⟨⟨_, rfl⟩, rfl⟩
      · go_round
        case rel => exact ⟨_, k + 1, by omega, rfl, by go_num⟩
        case measure => simp [intOf]; omega
    · go_wp2
      go_ret
      exact ⟨⟨_, rfl⟩, rfl⟩

/-- token k lies in src as written -/
def Lies (src : ByteArray) (R : Nat → ByteArray) (P : Nat → Int) (k : Nat) : Prop := 0 ≤ P k ∧ P k + (R k).size ≤ src.size ∧ src.extract (P k).toNat (P k + (R k).size).toNat = R k
def AllLie (src : ByteArray) (R : Nat → ByteArray) (P : Nat → Int) (n : Nat) : Prop := ∀ k, k < n → Lies src R P k
theorem lies_step {src : ByteArray} {R : Nat → ByteArray} {P : Nat → Int} {k : Nat} (h : AllLie src R P k) (h1 : Lies src R P k) : AllLie src R P (k + 1) := by
  intro j hj
  by_cases e : j = k
  · subst e; exact h1
  · exact h j (by omega)
theorem bytes_eq {a b : ByteArray} (h : (!(a.toList == b.toList)) = false) : a = b := by
  simp only [Bool.not_eq_false', beq_iff_eq, ByteArray.toList_eq] at h
  exact ByteArray.ext (Array.toList_inj.1 h)
/-- what the test answers -/
def BoolIf (e : Ending) (p : Prop) : Prop := ∃ b, e = .returned (.bool b) ∧ (b = true → p)
theorem BoolIf.no {p : Prop} : BoolIf (.returned (.bool false)) p := ⟨false, rfl, fun h => by cases h⟩
theorem BoolIf.yes {p : Prop} (h : p) : BoolIf (.returned (.bool true)) p := ⟨true, rfl, fun _ => h⟩

set_option maxHeartbeats 400000 in
theorem lieIn_any (src : ByteArray) (a1 : Option Addr) (c1 : Nat) (a2 : Option Addr) (c2 n : Nat) (w : World) (R : Nat → ByteArray) (P : Nat → Int) (hn : n ≤ 65536) (hsrc : src.size ≤ 65536) (h1 : Strs w a1 n R) (h2 : Nums w a2 n P) :
    Calls Try.prog 16 #[.string src, .slice a1 n c1, .slice a2 n c2] w fun e w' => BoolIf e (AllLie src R P n) ∧ Below w.heap.size w w' := by
  go_enter Try.func16, Try.ntmps16
  go_wp2
  go_loopw [7] (fun i wr => ∃ (k : Nat), k ≤ n ∧ i = .int .i64 k ∧ AllLie src R P k ∧ Below w.heap.size w wr) (fun i _ => n - (intOf i).toNat)
  case atStart => exact ⟨0, Nat.zero_le _, rfl, fun k hk => absurd hk (by omega), Below.refl _ _⟩
  case round =>
    obtain ⟨k, hk, rfl, hA, hB⟩ := hrel
    by_cases hlt : k < n
    · obtain ⟨b, o, rfl, hb, hc⟩ := h1.at k hlt
      obtain ⟨b', o', rfl, hb', hc'⟩ := h2.at k hlt
      replace hc := (hB.cell (p := ⟨b, o + k, none⟩) hb).trans hc
      replace hc' := (hB.cell (p := ⟨b', o' + k, none⟩) hb').trans hc'
      clear h1 h2
      by_cases g1 : P k < 0
      · go_wp2
        go_ret
        exact ⟨BoolIf.no, hB⟩
      by_cases g2 : (src.size : Int) < P k
      · go_wp2
        go_ret
        exact ⟨BoolIf.no, hB⟩
      by_cases g3 : (src.size : Int) - P k < (R k).size
      · go_wp2
        go_quiet (fail)
        go_wp2
        go_ret
        exact ⟨BoolIf.no, belowN hB _⟩
      have q1 : 0 ≤ P k := by omega
      have q2 : P k ≤ P k + (R k).size := by omega
      have q3 : P k + (R k).size ≤ src.size := by omega
      go_wp2
      go_quiet (fail)
      go_wp2
      go_quiet (fail)
      go_wp2
      · go_ret
        exact ⟨BoolIf.no, belowN (belowN hB _) _⟩
      · have he := bytes_eq (by assumption)
        go_roundw
        case rel => exact ⟨k + 1, by omega, by go_num, lies_step hA ⟨q1, q3, he⟩, belowN hB _⟩
        case measure => simp [intOf]; omega
    · have hkl : k = n := by omega
      subst hkl
      go_wp2
      go_ret
      exact ⟨BoolIf.yes hA, hB⟩
end Go.Proofs.Qxb6616022a
