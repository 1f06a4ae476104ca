import Derived.Test.Qxb6616128aIdentWalk
namespace Go.Proofs.Qxb6616128a
open Go.RowKit
open Plain (Date dlt Keep Blk Fresh Srt Pre Post R Runs Done)
set_option linter.unusedVariables false

theorem info4 : (Try.prog.info? 4).map (fun i => (i.zero, i.size, i.bytes)) = some (some (.bool false), 1, 1) := by kernel_rfl
theorem bytes5 (a : Option Addr) (len cap : Nat) (w : World) (h : len ≤ 1048576) :
    Calls Try.prog 5 #[.slice a len cap] w fun e w' => e = .returned (.bool true) ∧ w = w' := by
  go_enter Try.func5, Try.ntmps5
  go_wp2
  go_ret
  exact ⟨rfl, rfl⟩
theorem bytes5_no (a : Option Addr) (len cap : Nat) (w : World) (h : ¬ len ≤ 1048576) :
    Calls Try.prog 5 #[.slice a len cap] w fun e w' => e = .returned (.bool false) ∧ w = w' := by
  go_enter Try.func5, Try.ntmps5
  go_wp2
  go_ret
  exact ⟨rfl, rfl⟩
set_option maxRecDepth 100000 in
theorem sorted_off (a : Option Addr) (n c : Nat) (w : World) (hn : 40000 < n) : Calls Try.prog 3 #[.slice a n c] w fun e w' => e = .returned (.bool true) ∧ Below w.heap.size w w' := by
  by_cases h : n ≤ 1048576
  · go_enter Try.func3, Try.ntmps3
    go_wp2_with fail
    refine (bytes5 _ _ _ _ h).mono ?_
    rintro e w1 ⟨rfl, rfl⟩
    go_wp2
    go_ret
    exact ⟨rfl, Below.refl _ _⟩
  · go_enter Try.func3, Try.ntmps3
    go_wp2_with fail
    refine (bytes5_no _ _ _ _ h).mono ?_
    rintro e w1 ⟨rfl, rfl⟩
    go_wp2
    go_ret
    exact ⟨rfl, Below.refl _ _⟩

/-- zzDateIndexLess answers true where the pair comes first -/
theorem dateIndex_any (a b : Date) (i j : Nat) (w : World) (h : dlt a b = true ∨ (dlt b a = false ∧ i < j)) :
    Calls Try.prog 8 #[.agg #[.int .i64 a.y, .int .i64 a.m, .int .i64 a.d], .int .i64 i, .agg #[.int .i64 b.y, .int .i64 b.m, .int .i64 b.d], .int .i64 j] w fun e w' => e = .returned (.bool true) ∧ w.grownBy w' none := by
  obtain ⟨y1, m1, d1⟩ := a
  obtain ⟨y2, m2, d2⟩ := b
  simp only [Plain.dlt_iff, Plain.dlt_false] at h
  by_cases h1 : y1 = y2
  · subst h1
    by_cases h2 : m1 = m2
    · subst h2
      by_cases h3 : d1 = d2
      · subst h3
        have hij : i < j := by omega
        clear h
        go_enter Try.func8, Try.ntmps8
        go_wp2
        go_ret
        exact ⟨by simp, grown_alloc (grown_alloc (grown_refl _ _) _) _⟩
      · have hd : d1 < d2 := by omega
        have h3' : (d1 != d2) = true := by simp [h3]
        clear h
        go_enter Try.func8, Try.ntmps8
        go_wp2
        go_ret
        exact ⟨by simp, grown_alloc (grown_alloc (grown_refl _ _) _) _⟩
    · have hm : m1 < m2 := by omega
      have h2' : (m1 != m2) = true := by simp [h2]
      clear h
      go_enter Try.func8, Try.ntmps8
      go_wp2
      go_ret
      exact ⟨by simp, grown_alloc (grown_alloc (grown_refl _ _) _) _⟩
  · have hy : y1 < y2 := by omega
    have h1' : (y1 != y2) = true := by simp [h1]
    clear h
    go_enter Try.func8, Try.ntmps8
    go_wp2
    go_ret
    exact ⟨by simp, grown_alloc (grown_alloc (grown_refl _ _) _) _⟩

/-- what 'seen' holds after k rounds -/
def Seen (S : Nat → Bool) (o : Nat → Nat) (k : Nat) : Prop := ∀ t, S t = true → ∃ j, j < k ∧ o j = t
theorem Seen.step {S : Nat → Bool} {o : Nat → Nat} {k : Nat} (h : Seen S o k) : Seen (fun t => if t = o k then true else S t) o (k + 1) := by
  intro t ht
  by_cases e : t = o k
  · exact ⟨k, by omega, e.symm⟩
  · dsimp only at ht
    rw [if_neg e] at ht
    obtain ⟨j, hj, e2⟩ := h t ht
    exact ⟨j, by omega, e2⟩
theorem Seen.fresh {D : Nat → Date} {S : Nat → Bool} {o : Nat → Nat} {n k : Nat} (h : Seen S o k) (hb : Blk D o 0 n) (hk : k < n) : S (o k) = false := by
  cases e : S (o k) with
  | false => rfl
  | true =>
    obtain ⟨j, hj, e2⟩ := h _ e
    have := Plain.order_inj hb j k (by omega) hk e2
    omega
theorem set_bool {S : Nat → Bool} (q : Nat) (i : Nat) : (if i = q then (Value.bool true) else .bool (S i)) = .bool ((fun t => if t = q then true else S t) i) := by
  dsimp only
  split <;> rfl

set_option maxRecDepth 100000 in
set_option maxHeartbeats 800000 in
theorem sorted_main (a : Option Addr) (n c : Nat) (D : Nat → Date) (w : World) (hn : n ≤ 40000) (hD : Dates w a n D) : Calls Try.prog 3 #[.slice a n c] w fun e w' => e = .returned (.bool true) ∧ Below w.heap.size w w' := by
  have hmk := mk_one 28 4 (.bool false) 1 Try.underlying28 info4 rfl n (by omega) (by omega)
  go_enter Try.func3, Try.ntmps3
  go_wp2_with fail
  refine (bytes5 _ _ _ _ (by omega)).mono ?_
  rintro e w1 ⟨rfl, rfl⟩
  go_wp2_with fail
  refine (planOf_any a n c D w (by omega) hD).mono ?_
  rintro e w1 ⟨pl, rfl, hB1, hP1⟩
  go_wp2_with fail
  refine (zzOrder_any pl n D w1 (by omega) hP1).mono ?_
  rintro e w2 ⟨ob, o, rfl, hB2, hO, hb⟩
  have hB : Below w.heap.size w w2 := hB1.trans (hB2.mono hB1.size)
  replace hD := hD.below hB
  have hob := hO.lt
  clear hB1 hB2 hP1
  go_wp2
  go_loopw [6] (fun vk wr => ∃ (k : Nat) (S : Nat → Bool), k ≤ n ∧ vk = .int .i64 k ∧ Below w2.heap.size w2 wr ∧ Row wr w2.heap.size 4 n (fun t => .bool (S t)) ∧ Seen S o k) (fun vk _ => n - (intOf vk).toNat)
  case atStart => exact ⟨0, fun _ => false, Nat.zero_le _, rfl, (Below.refl _ _).alloc (Nat.le_refl _) _, Row.made w2 (.bool false) 4 n, fun t ht => by cases ht⟩
  case round =>
    obtain ⟨k, S, hk, rfl, hBr, hR, hS⟩ := hrel
    by_cases hlt : k < n
    · have o1 := (Row.below hO hBr hob).cell k hlt
      have h0 := (hb.2 k (Nat.zero_le _) hlt).2
      have e0 := hR.cell (o k) h0
      have f0 := hR.free (o k)
      rw [hS.fresh hb hlt] at e0
      have hS2 := hS.step
      have hR2 := (hR.set (o k) (.bool true)).ext (fun i _ => set_bool (o k) i)
      clear hD hO hb hS
      go_wp2
      go_roundw
      case rel => exact ⟨k + 1, _, by omega, by go_num, hBr.setCell (Nat.le_refl _) _, hR2, hS2⟩
      case measure => simp [intOf]; omega
    · replace hB := hB.trans (hBr.mono hB.size)
      replace hD := hD.below hBr
      replace hO : Ord wr ob n o := Row.below hO hBr hob
      clear hR hS hmk hk hBr hob
      have hob := hO.lt
      go_wp2
      clear hlt
      go_loopw [8] (fun vk wq => ∃ k : Nat, k ≤ n ∧ vk = .int .i64 k ∧ Below wr.heap.size wr wq) (fun vk _ => n - (intOf vk).toNat)
      case atStart => exact ⟨0, Nat.zero_le _, rfl, Below.refl _ _⟩
      case round =>
        obtain ⟨k, hk, rfl, hBq⟩ := hrel
        by_cases hlt : k + 1 < n
        · have o1 := (Row.below hO hBq hob).cell k (by omega)
          have o2 := (Row.below hO hBq hob).cell (k + 1) hlt
          have h1 := (hb.2 k (Nat.zero_le _) (by omega)).2
          have h2 := (hb.2 (k + 1) (Nat.zero_le _) hlt).2
          have hRR := hb.1 k (k + 1) (Nat.zero_le _) (by omega) hlt
          have hkn : k < n := by omega
          obtain ⟨b, of, rfl, y1, m1, d1⟩ := (hD.below hBq) (o k) h1
          obtain ⟨y2, m2, d2⟩ := (hD.below hBq).at (o (k + 1)) h2
          clear hD hO hb
          obtain ⟨k1, hk1⟩ : ∃ k1, k1 = k + 1 := ⟨_, rfl⟩
          rw [← hk1] at o2 h2 hRR hlt y2 m2 d2
          generalize o k = p at *
          generalize o k1 = q at *
          have hcast : (k : Int) + 1 = (k1 : Int) := by omega
          have hwr : IntKind.i64.wrap (k1 : Int) = (k1 : Int) := by rw [IntKind.wrap_i64]; omega
          have HK : Hid (k1 = k + 1) := hk1
          clear hk1
          go_wp2_with fail
          go_region_held3 (fun w' => w'.cell? ⟨ob, k, none⟩ = some (.int .i64 p) ∧ w'.cell? ⟨ob, k1, none⟩ = some (.int .i64 q) ∧ w'.cell? ⟨b, of + p * 3, none⟩ = some (.int .i64 (D p).y) ∧ w'.cell? ⟨b, of + p * 3 + 1, none⟩ = some (.int .i64 (D p).m) ∧ w'.cell? ⟨b, of + p * 3 + 2, none⟩ = some (.int .i64 (D p).d) ∧ w'.cell? ⟨b, of + q * 3, none⟩ = some (.int .i64 (D q).y) ∧ w'.cell? ⟨b, of + q * 3 + 1, none⟩ = some (.int .i64 (D q).m) ∧ w'.cell? ⟨b, of + q * 3 + 2, none⟩ = some (.int .i64 (D q).d)) (first | go_keep | exact ⟨grown_cell hg o1 (by simp), grown_cell hg o2 (by simp), grown_cell hg y1 (by simp), grown_cell hg m1 (by simp), grown_cell hg d1 (by simp), grown_cell hg y2 (by simp), grown_cell hg m2 (by simp), grown_cell hg d2 (by simp)⟩)
            ((go_at_call 8; refine (dateIndex_any (D p) (D q) p q _ hRR).mono ?_; rintro e w5 ⟨rfl, hg⟩))
          go_wp2
          go_roundw
          case rel => exact ⟨k1, by omega, by go_num, hBq.drew.grown hg (by have := hBq.size; simp; omega) (fun k e => by cases e)⟩
          case measure => have := HK.out; simp [intOf]; omega
        · go_wp2
          go_ret
          exact ⟨rfl, hB.trans (hBq.mono hB.size)⟩
end Go.Proofs.Qxb6616128a
