import Derived.Test.Qxb6616022aTextCutWalk
namespace Go.Proofs.Qxb6616022a
open Go.RowKit
set_option linter.unusedVariables false
attribute [local go_sem] neqnil35 neqnil36

set_option maxHeartbeats 400000 in
theorem bytes14 (src : ByteArray) (a1 : Option Addr) (l1 c1 : Nat) (a2 : Option Addr) (l2 c2 : Nat) (i j : Int) (w : World) (R : Nat → ByteArray) (h : Strs w a1 l1 R) :
    Calls Try.prog 14 #[.string src, .slice a1 l1 c1, .slice a2 l2 c2, .int .i64 i, .int .i64 j] w fun e w' => SomeBool e ∧ w = w' := by
  by_cases h1 : 1048576 < src.size
  · go_enter Try.func14, Try.ntmps14
    go_wp2
    go_ret
    exact ⟨⟨_, rfl⟩, rfl⟩
  by_cases h2 : 1048576 < l1
  · go_enter Try.func14, Try.ntmps14
    go_wp2
    go_ret
    exact ⟨⟨_, rfl⟩, rfl⟩
  by_cases h3 : 1048576 < src.size + l1
  · go_enter Try.func14, Try.ntmps14
    go_wp2
    go_ret
    exact ⟨⟨_, rfl⟩, rfl⟩
  go_enter Try.func14, Try.ntmps14
  go_wp2
  go_loop [11, 12] (fun v i => ∃ (t : Int) (k : Nat), k ≤ l1 ∧ v = .int .i64 t ∧ i = .int .i64 k) (fun _ i => l1 - (intOf i).toNat)
  case atStart => exact ⟨_, 0, Nat.zero_le _, rfl, rfl⟩
  case round =>
    obtain ⟨t, k, hk, rfl, rfl⟩ := hrel
    by_cases hlt : k < l1
    · obtain ⟨b, o, rfl, hb, hc⟩ := h.at k hlt
      clear h
      go_wp2
      · go_ret
        exact ⟨⟨_, rfl⟩, rfl⟩
      · go_ret
        exact ⟨⟨_, rfl⟩, rfl⟩
      · go_round
        case rel => exact ⟨_, k + 1, by omega, rfl, by go_num⟩
        case measure => simp [intOf]; omega
    · go_wp2
      all_goals
        go_ret
        exact ⟨⟨_, rfl⟩, rfl⟩


def InOrder (R : Nat → ByteArray) (P : Nat → Int) (n : Nat) : Prop := ∀ k, k + 1 < n → P k + (R k).size ≤ P (k + 1)

theorem order_step {R : Nat → ByteArray} {P : Nat → Int} {k : Nat} (h : InOrder R P (k + 1)) (h1 : P k + (R k).size ≤ P (k + 1)) : InOrder R P (k + 1 + 1) := by
  intro j hj
  by_cases e : j = k
  · subst e; exact h1
  · exact h j (by omega)
theorem order_chain {src : ByteArray} {R : Nat → ByteArray} {P : Nat → Int} {n : Nat} (hL : AllLie src R P n) (hO : InOrder R P n) (j : Nat) : ∀ d, j + d < n → P j + (R j).size ≤ P (j + d) + (R (j + d)).size
  | 0, _ => Int.le_refl _
  | d + 1, h => by
    have ih := order_chain hL hO j d (by omega)
    have h1 := hO (j + d) (by omega)
    have : j + (d + 1) = j + d + 1 := by omega
    rw [this]
    omega

set_option maxHeartbeats 400000 in
theorem inOrder_any (src : ByteArray) (a1 : Option Addr) (c1 : Nat) (a2 : Option Addr) (c2 n : Nat) (w : World) (R : Nat → ByteArray) (P : Nat → Int) (hn : n ≤ 65536) (hsrc : src.size ≤ 65536) (hL : AllLie src R P n) (h1 : Strs w a1 n R) (h2 : Nums w a2 n P) :
    Calls Try.prog 17 #[.slice a1 n c1, .slice a2 n c2] w fun e w' => BoolIf e (InOrder R P n) ∧ Below w.heap.size w w' := by
  go_enter Try.func17, Try.ntmps17
  go_wp2
  go_loopw [5] (fun i wr => ∃ (k : Nat), k ≤ n ∧ i = .int .i64 k ∧ InOrder R P (k + 1) ∧ Below w.heap.size w wr) (fun i _ => n - (intOf i).toNat)
  case atStart => exact ⟨0, Nat.zero_le _, rfl, fun k hk => absurd hk (by omega), Below.refl _ _⟩
  case round =>
    obtain ⟨k, hk, rfl, hA, hB⟩ := hrel
    by_cases hlt : k + 1 < n
    · obtain ⟨b, o, rfl, hb, hc⟩ := h1.at k (by omega)
      obtain ⟨b', o', rfl, hb', hc'⟩ := h2.at k (by omega)
      have hc2 := h2.cellOf (k + 1) hlt
      rw [add_at] at hc2
      replace hc := (hB.cell (p := ⟨b, o + k, none⟩) hb).trans hc
      replace hc' := (hB.cell (p := ⟨b', o' + k, none⟩) hb').trans hc'
      replace hc2 := (hB.cell (p := ⟨b', o' + (k + 1), none⟩) hb').trans hc2
      obtain ⟨e0, e1, _⟩ := hL k (by omega)
      obtain ⟨f0, f1, _⟩ := hL (k + 1) hlt
      have hkn : k < n := by omega
      clear h1 h2 hL
      by_cases g : P (k + 1) < P k + (R k).size
      · go_wp2
        go_quiet (fail)
        go_wp2
        go_ret
        exact ⟨BoolIf.no, belowN hB _⟩
      · go_wp2
        go_quiet (fail)
        go_wp2
        go_roundw
        case rel => exact ⟨k + 1, by omega, by go_num, order_step hA (by omega), belowN hB _⟩
        case measure => simp [intOf]; omega
    · go_wp2
      go_ret
      exact ⟨BoolIf.yes (fun j hj => hA j (by omega)), hB⟩

set_option maxHeartbeats 400000 in
theorem hasPrefix_any (s pre : ByteArray) (w : World) (hs : s.size ≤ 65536) (hp : pre.size ≤ s.size) (he : ∀ j (h1 : j < s.size) (h2 : j < pre.size), s[j] = pre[j]) :
    Calls Try.prog 20 #[.string s, .string pre] w fun e w' => e = .returned (.bool true) ∧ Below w.heap.size w w' := by
  have HE : Hid (∀ j (h1 : j < s.size) (h2 : j < pre.size), s[j] = pre[j]) := he
  clear he
  go_enter Try.func20, Try.ntmps20
  go_wp2
  go_loopw [5] (fun i wr => ∃ (k : Nat), k ≤ pre.size ∧ i = .int .i64 k ∧ Below w.heap.size w wr) (fun i _ => pre.size - (intOf i).toNat)
  case atStart => exact ⟨0, Nat.zero_le _, rfl, Below.refl _ _⟩
  case round =>
    obtain ⟨k, hk, rfl, hB⟩ := hrel
    by_cases hlt : k < pre.size
    · have hlt2 : k < s.size := by omega
      have hek := HE.out k hlt2 hlt
      go_wp2
      go_quiet (fail)
      go_wp2
      go_roundw
      case rel => exact ⟨k + 1, by omega, by go_num, belowN hB _⟩
      case measure => simp [intOf]; omega
    · go_wp2
      go_ret
      exact ⟨rfl, hB⟩
end Go.Proofs.Qxb6616022a
