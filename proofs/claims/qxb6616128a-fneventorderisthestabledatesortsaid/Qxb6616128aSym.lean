import Derived.Test.Qxb6616128aSymMid2
namespace Go.Proofs.Qxb6616128a
open Go.RowKit
open Plain (Date dlt swp swr rot mvl mvr Keep Blk Ins Down Fresh Srt Pre Post R)
set_option linter.unusedVariables false

theorem merges_all (n ob Bp Bo pl ev : Nat) (D : Nat → Date) (sv lv : Value) (hS : IsSwap ob n sv) (hL : IsLess Bp Bo lv) : ∀ k, Merges n ob Bp Bo pl ev D lv sv k
  | 0 => fun a m b x y z d w h => by omega
  | k + 1 => by
    intro a m b x y z d w hk ham hmb hbn hx hy hz hE hO hW hP
    have ih := merges_all n ob Bp Bo pl ev D sv lv hS hL k
    by_cases e : b - a < k
    · exact ih a m b x y z d w e ham hmb hbn hx hy hz hE hO hW hP
    have ek : b - a = k := by omega
    subst hx hy hz
    by_cases h1 : m = a + 1
    · exact sym_one n ob Bp Bo pl ev D sv lv d w hS hL hE hO hW a m b h1 hmb hbn hP
    by_cases h2 : b = m + 1
    · exact sym_last n ob Bp Bo pl ev D sv lv d w hS hL hE hO hW a m b (by omega) h2 hbn hP
    rw [← ek] at ih
    unfold IsLess at hL
    subst hL
    by_cases h3 : (a + b) / 2 < m
    · exact sym_mid1 n ob Bp Bo pl ev D sv d w hS hE hO hW a m b (by omega) (by omega) hbn hP h3 ih
    · exact sym_mid2 n ob Bp Bo pl ev D sv d w hS hE hO hW a m b (by omega) (by omega) hbn hP (by omega) ih

theorem sym_at (n ob Bp Bo pl ev : Nat) (D : Nat → Date) (sv lv : Value) (d : Nat → Nat) (w : World) (hS : IsSwap ob n sv) (hL : IsLess Bp Bo lv) (hE : Env n ob Bp Bo pl ev D w) (hO : Ord w ob n d) (hW : Within n d)
    (x y z : Int) (a m b : Nat) (hx : x = a) (hy : y = m) (hz : z = b) (ham : a < m) (hmb : m < b) (hbn : b ≤ n) (hP : Pre D d a m b) :
    Calls Try.prog 29 #[.agg #[lv, sv], .int .i64 x, .int .i64 y, .int .i64 z] w fun e w' => e = .returned (.tuple #[]) ∧ w.grownBy w' (some ob) ∧ ∃ d', Ord w' ob n d' ∧ Post D d a b d' :=
  merges_all n ob Bp Bo pl ev D sv lv hS hL (b - a + 1) a m b x y z d w (by omega) ham hmb hbn hx hy hz hE hO hW hP
end Go.Proofs.Qxb6616128a
