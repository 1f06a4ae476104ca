import Derived.Test.Qxb6616128aBase
import Derived.Deep.RegionHeld3
namespace Go.Proofs.Qxb6616128a
open Go.RowKit
open Plain (Date dlt)
set_option linter.unusedVariables false

/-- Date.before -/
theorem before_any (a b : Date) (w : World) :
    Calls Try.prog 14 #[.agg #[.int .i64 a.y, .int .i64 a.m, .int .i64 a.d], .agg #[.int .i64 b.y, .int .i64 b.m, .int .i64 b.d]] w fun e w' => e = .returned (.bool (dlt a b)) ∧ w.grownBy w' none := by
  obtain ⟨y1, m1, d1⟩ := a
  obtain ⟨y2, m2, d2⟩ := b
  by_cases h1 : y1 = y2
  · subst h1
    by_cases h2 : m1 = m2
    · subst h2
      go_enter Try.func14, Try.ntmps14
      go_wp2
      go_ret
      exact ⟨by simp [dlt], grown_alloc (grown_alloc (grown_refl _ _) _) _⟩
    · go_enter Try.func14, Try.ntmps14
      go_wp2
      go_ret
      exact ⟨by simp [dlt, h2], grown_alloc (grown_alloc (grown_refl _ _) _) _⟩
  · go_enter Try.func14, Try.ntmps14
    go_wp2
    go_ret
    exact ⟨by simp [dlt, h1], grown_alloc (grown_alloc (grown_refl _ _) _) _⟩

/-- what the closure reads: the plan, its events' dates, the boxed 'order' -/
structure Env (n ob Bp Bo pl ev : Nat) (D : Nat → Date) (w : World) : Prop where
  hn : n ≤ 65536
  cp : w.cell? ⟨Bp, 0, none⟩ = some (.pointer (some ⟨pl, 0, none⟩))
  ce : w.cell? ⟨pl, 7, none⟩ = some (.slice (some ⟨ev, 0, none⟩) n n)
  co : w.cell? ⟨Bo, 0, none⟩ = some (.slice (some ⟨ob, 0, none⟩) n n)
  cy : ∀ t, t < n → w.cell? ⟨ev, t * 8, none⟩ = some (.int .i64 (D t).y)
  cm : ∀ t, t < n → w.cell? ⟨ev, t * 8 + 1, none⟩ = some (.int .i64 (D t).m)
  cd : ∀ t, t < n → w.cell? ⟨ev, t * 8 + 2, none⟩ = some (.int .i64 (D t).d)
  n1 : Bp ≠ ob
  n2 : pl ≠ ob
  n3 : Bo ≠ ob
  n4 : ev ≠ ob
theorem Env.grown {n ob Bp Bo pl ev : Nat} {D : Nat → Date} {w w' : World} (h : Env n ob Bp Bo pl ev D w) (hg : w.grownBy w' (some ob)) : Env n ob Bp Bo pl ev D w' :=
  ⟨h.hn, grown_cell hg h.cp (by simp [h.n1]), grown_cell hg h.ce (by simp [h.n2]), grown_cell hg h.co (by simp [h.n3]), fun t ht => grown_cell hg (h.cy t ht) (by simp [h.n4]),
    fun t ht => grown_cell hg (h.cm t ht) (by simp [h.n4]), fun t ht => grown_cell hg (h.cd t ht) (by simp [h.n4]), h.n1, h.n2, h.n3, h.n4⟩

/-- the row of 'order' -/
def Ord (w : World) (ob n : Nat) (d : Nat → Nat) : Prop := Row w ob 3 n (fun i => .int .i64 (d i))

set_option maxHeartbeats 400000 in
theorem less_any (n ob Bp Bo pl ev : Nat) (D : Nat → Date) (d : Nat → Nat) (w : World) (hE : Env n ob Bp Bo pl ev D w) (hO : Ord w ob n d) (i j : Nat) (hi : i < n) (hj : j < n) (hdi : d i < n) (hdj : d j < n) :
    Calls Try.prog 13 #[.int .i64 i, .int .i64 j, .pointer (some ⟨Bp, 0, none⟩), .pointer (some ⟨Bo, 0, none⟩)] w fun e w' => e = .returned (.bool (dlt (D (d i)) (D (d j)))) ∧ w.grownBy w' none := by
  obtain ⟨hn, cp, ce, co, cy, cm, cd, n1, n2, n3, n4⟩ := hE
  have o1 := hO.cell i hi
  have o2 := hO.cell j hj
  have y1 := cy _ hdi
  have m1 := cm _ hdi
  have d1 := cd _ hdi
  have y2 := cy _ hdj
  have m2 := cm _ hdj
  have d2 := cd _ hdj
  generalize d i = p at *
  generalize d j = q at *
  clear cy cm cd hO
  go_enter Try.func13, Try.ntmps13
  go_wp2_with fail
  go_region_held3 (fun w' => w'.cell? ⟨Bp, 0, none⟩ = some (.pointer (some ⟨pl, 0, none⟩)) ∧ w'.cell? ⟨pl, 7, none⟩ = some (.slice (some ⟨ev, 0, none⟩) n n) ∧ w'.cell? ⟨Bo, 0, none⟩ = some (.slice (some ⟨ob, 0, none⟩) n n) ∧ w'.cell? ⟨ob, i, none⟩ = some (.int .i64 p) ∧ w'.cell? ⟨ob, j, none⟩ = some (.int .i64 q) ∧ w'.cell? ⟨ev, p * 8, none⟩ = some (.int .i64 (D p).y) ∧ w'.cell? ⟨ev, p * 8 + 1, none⟩ = some (.int .i64 (D p).m) ∧ w'.cell? ⟨ev, p * 8 + 2, none⟩ = some (.int .i64 (D p).d) ∧ w'.cell? ⟨ev, q * 8, none⟩ = some (.int .i64 (D q).y) ∧ w'.cell? ⟨ev, q * 8 + 1, none⟩ = some (.int .i64 (D q).m) ∧ w'.cell? ⟨ev, q * 8 + 2, none⟩ = some (.int .i64 (D q).d)) (first | go_keep | exact ⟨grown_cell hg cp (by simp), grown_cell hg ce (by simp), grown_cell hg co (by simp), grown_cell hg o1 (by simp), grown_cell hg o2 (by simp), grown_cell hg y1 (by simp), grown_cell hg m1 (by simp), grown_cell hg d1 (by simp), grown_cell hg y2 (by simp), grown_cell hg m2 (by simp), grown_cell hg d2 (by simp)⟩)
    ((go_at_call 14; refine (before_any (D p) (D q) _).mono ?_; rintro e w1 ⟨rfl, hg⟩))
  go_wp2
  go_ret
  exact ⟨rfl, grown_trans (grown_drew (grown_refl _ _)) hg⟩
end Go.Proofs.Qxb6616128a
