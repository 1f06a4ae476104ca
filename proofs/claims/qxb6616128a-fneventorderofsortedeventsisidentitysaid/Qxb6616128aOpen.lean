import Derived.Test.Qxb6616128aPlan
import Derived.ProofKit
import Derived.Deep.Strs
namespace Go.Proofs.Qxb6616128a
open Go.ChangeShapes Go.WideShapes Go.ChangeAt Go.RowKit
open Plain (Date)
set_option linter.unusedVariables false

theorem cells31 : Try.prog.cellsOf 31 = 3 := by kernel_rfl
theorem cells3 : Try.prog.cellsOf 3 = 1 := by kernel_rfl
theorem three {l : List Value} {y m d : Value} (hl : l.length = 3) (h0 : (l.drop 0).take 1 = [y]) (h1 : (l.drop 1).take 1 = [m]) (h2 : (l.drop 2).take 1 = [d]) : l = [y, m, d] := by
  match l, hl with
  | [a, b, c], _ => simp at h0 h1 h2; subst h0 h1 h2; rfl
theorem dates_of {H : Type} {enc : TypeId × Value → H} {W : World} {base : Nat} {spare : Nat → Bool} {held : Bool} {fuel : Nat} {a0 : Option Addr} {len cap : Nat} {x : DataW H × List MemPlace}
    (h : DataW.trod enc Try.prog W base spare held fuel 22 (Value.slice a0 len cap).cells.toList = some x) : ∃ D, Dates W a0 len D := by
  rcases Deep.open_slice Try.underlying22 h with ⟨hcs, _⟩ | ⟨a, l, c, m, n, E, Pl, hcs, _, hl, _, hm, _, hel⟩
  · simp [Value.cells] at hcs
    obtain ⟨rfl, rfl, rfl⟩ := hcs
    exact ⟨fun _ => ⟨0, 0, 0⟩, fun t ht => absurd ht (by omega)⟩
  · simp [Value.cells] at hcs
    obtain ⟨rfl, rfl, rfl⟩ := hcs
    have hlm : len ≤ m := by rw [hm]; split <;> omega
    have each : ∀ t, ∃ q : Date, t < len → W.cell? ((a.add (t * 3)).add 0) = some (.int .i64 q.y) ∧ W.cell? ((a.add (t * 3)).add 1) = some (.int .i64 q.m) ∧ W.cell? ((a.add (t * 3)).add 2) = some (.int .i64 q.d) := by
      intro t
      by_cases ht : t < len
      · obtain ⟨cs, hc, ht2⟩ := hel t (by omega)
        rw [cells31] at hc
        obtain ⟨_, hlen, hcell⟩ := World.cells?_some hc
        obtain ⟨y0, y1, y2, k, _, _, t0, t1, t2⟩ := Deep.trod_struct3 Try.underlying31 ht2
        simp only [cells3] at t0 t1 t2
        obtain ⟨q0, e0, _, _⟩ := DataW.trod_int Try.underlying3 t0
        obtain ⟨q1, e1, _, _⟩ := DataW.trod_int Try.underlying3 t1
        obtain ⟨q2, e2, _, _⟩ := DataW.trod_int Try.underlying3 t2
        have e := three hlen e0 e1 e2
        subst e
        exact ⟨⟨q0, q1, q2⟩, fun _ => ⟨hcell 0 (by omega), hcell 1 (by omega), hcell 2 (by omega)⟩⟩
      · exact ⟨⟨0, 0, 0⟩, fun h => absurd h ht⟩
    obtain ⟨D, hD⟩ := Classical.skolem.1 each
    refine ⟨D, fun t ht => ?_⟩
    have h0 := (hD 0 (by omega)).1
    rw [Nat.zero_mul, Deep.add_add] at h0
    obtain ⟨b, o, rfl, _⟩ := addr_at h0
    obtain ⟨c1, c2, c3⟩ := hD t ht
    rw [add_at, add_at] at c1 c2 c3
    exact ⟨b, o, rfl, c1, c2, c3⟩
end Go.Proofs.Qxb6616128a
