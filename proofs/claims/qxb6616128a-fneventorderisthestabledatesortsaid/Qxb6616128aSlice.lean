import Derived.Test.Qxb6616128aStable
namespace Go.Proofs.Qxb6616128a
open Go.RowKit
open Plain (Date dlt Keep Blk Fresh Srt Pre Post R Runs Done)
set_option linter.unusedVariables false

theorem i24 : ∃ i, Try.prog.info? 24 = some i ∧ i.desc = .slice 3 := by
  have h : (Try.prog.info? 24).map (fun i => i.desc) = some (.slice 3) := by kernel_rfl
  obtain ⟨i, hi, hd⟩ := Option.map_eq_some_iff.1 h
  exact ⟨i, hi, hd⟩
theorem i3 : ∃ i, Try.prog.info? 3 = some i ∧ i.hasPointers = false ∧ i.bytes = 8 := by
  have h : (Try.prog.info? 3).map (fun i => (i.hasPointers, i.bytes)) = some (false, 8) := by kernel_rfl
  obtain ⟨i, hi, hd⟩ := Option.map_eq_some_iff.1 h
  simp only [Prod.mk.injEq] at hd
  exact ⟨i, hi, hd.1, hd.2⟩
theorem extern_of {f : FuncId} {fn : Func} {e : Array Value → Sem Value} {args : Array Value} {v : Value} {w w' : World} (hs : Sem.run Try.prog (e args) w = .ok v w') (hf : Try.prog.funcs[f]? = some fn) (hb : fn.body.isNone = true) (hn : Extern.findNext fn = none)
    (he : Extern.find fn = some e) (hname : (fn.name == "runtime.NumGoroutine") = false) : (callFunc f args).run Try.prog w = .ok (.value v) w' := by
  rw [run_callFunc_extern hf hname hb hn he, hs]
  rfl
/-- internal reflectlite: ValueOf -/
theorem valueOf_run (p : Option Addr) (n c : Nat) (w : World) :
    (callFunc 15 #[.iface 24 (.slice p n c)]).run Try.prog w = .ok (.value (.agg #[typeHandle Try.prog 24, .pointer (some ⟨w.heap.size, 0, none⟩), .int .u64 151])) (w.alloc (.cells #[.slice p n c] 24)) := by
  obtain ⟨i, hi, hd⟩ := i24
  have hv := Lib.run_valueOf_slice (P := Try.prog) 24 3 i hi hd p n c w
  rw [run_callFunc_extern Try.func15 (by kernel_rfl) (by kernel_rfl) (by kernel_rfl) (e := fun args => Extern.ReflectliteValue.unpack (args.getD 0 (.tuple #[]))) (by kernel_rfl),
    show Sem.run Try.prog ((fun args : Array Value => Extern.ReflectliteValue.unpack (args.getD 0 (.tuple #[]))) #[.iface 24 (.slice p n c)]) w = _ from hv]
  rfl
theorem swapper_run (p : Option Addr) (n c : Nat) (h2 : 2 ≤ n) (w : World) :
    (callFunc 16 #[.iface 24 (.slice p n c)]).run Try.prog w = .ok (.value (.func (.func 23) #[] #[.slice p n c, typeHandle Try.prog 3])) w := by
  obtain ⟨i, hi, hd⟩ := i24
  obtain ⟨ie, hie, hp, hb⟩ := i3
  have hk : Lib.swapperK n ie 2 = 5 := by
    have c : (n == 0) = false := by simp; omega
    have d : (n == 1) = false := by simp; omega
    simp [Lib.swapperK, hp, hb, c, d]
  have hs := Lib.run_swapper_slice (P := Try.prog) 24 3 i ie hi hd hie 2 (fun _ => by kernel_rfl) p n c 23 (by rw [hk]; kernel_rfl) w
  rw [hk, if_neg (by omega)] at hs
  exact extern_of hs Try.func16 (by kernel_rfl) (by kernel_rfl) (by kernel_rfl) (by kernel_rfl)
theorem swapper_tiny (p : Option Addr) (n c : Nat) (h2 : n < 2) :
    ∃ f, ∀ w, (callFunc 16 #[.iface 24 (.slice p n c)]).run Try.prog w = .ok (.value (.func (.func f) #[] #[])) w := by
  obtain ⟨i, hi, hd⟩ := i24
  obtain ⟨ie, hie, hp, hb⟩ := i3
  by_cases h : n = 0
  · subst h
    have hk : Lib.swapperK 0 ie 2 = 1 := rfl
    have hs := Lib.run_swapper_slice (P := Try.prog) 24 3 i ie hi hd hie 2 (fun _ => by kernel_rfl) p 0 c 19 (by rw [hk]; kernel_rfl)
    rw [hk, if_pos (by omega)] at hs
    exact ⟨19, fun w => extern_of (hs w) Try.func16 (by kernel_rfl) (by kernel_rfl) (by kernel_rfl) (by kernel_rfl)⟩
  · have e : n = 1 := by omega
    subst e
    have hk : Lib.swapperK 1 ie 2 = 2 := rfl
    have hs := Lib.run_swapper_slice (P := Try.prog) 24 3 i ie hi hd hie 2 (fun _ => by kernel_rfl) p 1 c 20 (by rw [hk]; kernel_rfl)
    rw [hk, if_pos (by omega)] at hs
    exact ⟨20, fun w => extern_of (hs w) Try.func16 (by kernel_rfl) (by kernel_rfl) (by kernel_rfl) (by kernel_rfl)⟩
theorem valueLen_run (a : Addr) (p : Option Addr) (n c : Nat) (w : World) (ha : w.cell? a = some (.slice p n c)) :
    (callFunc 18 #[.agg #[typeHandle Try.prog 24, .pointer (some a), .int .u64 151]]).run Try.prog w = .ok (.value (.int .i64 n)) w := by
  obtain ⟨i, hi, hd⟩ := i24
  have hl := Lib.run_valueLen_slice (P := Try.prog) 24 3 i hi hd (by kernel_rfl) a p n c w ha
  exact extern_of hl Try.func18 (by kernel_rfl) (by kernel_rfl) (by kernel_rfl) (by kernel_rfl)

/-- the entries of internal reflectlite, the two types' handles under names -/
theorem refl_laws : ∃ A24 A3 : Addr,
    (∀ (p : Option Addr) (n c : Nat) (w : World), (callFunc 15 #[.iface 24 (.slice p n c)]).run Try.prog w = .ok (.value (.agg #[.pointer (some A24), .pointer (some ⟨w.heap.size, 0, none⟩), .int .u64 151])) (w.alloc (.cells #[.slice p n c] 24))) ∧
    (∀ (p : Option Addr) (n c : Nat), 2 ≤ n → ∀ w, (callFunc 16 #[.iface 24 (.slice p n c)]).run Try.prog w = .ok (.value (.func (.func 23) #[] #[.slice p n c, .pointer (some A3)])) w) ∧
    (∀ (a : Addr) (p : Option Addr) (n c : Nat) (w : World), w.cell? a = some (.slice p n c) → (callFunc 18 #[.agg #[.pointer (some A24), .pointer (some a), .int .u64 151]]).run Try.prog w = .ok (.value (.int .i64 n)) w) ∧
    ∀ ob n, Swaps ob n (.pointer (some A3)) :=
  ⟨⟨Try.prog.globals.size, 24, none⟩, ⟨Try.prog.globals.size, 3, none⟩, valueOf_run, swapper_run, valueLen_run, swap_run⟩

theorem insertion_any0 (lv sv : Value) (w : World) (n : Nat) (hn : n < 2) : Calls Try.prog 28 #[.agg #[lv, sv], .int .i64 0, .int .i64 n] w fun e w' => e = .returned (.tuple #[]) ∧ w.grownBy w' none := by
  go_enter Try.func28, Try.ntmps28
  go_wp2
  refine wp_loop_rounds 1 ?_
  rw [rounds_succ]
  go_wp2
  go_end0
  exact ⟨rfl, grown_alloc (grown_refl _ _) _⟩
theorem stable_tiny (n : Nat) (hn : n < 2) (lv sv : Value) (w : World) :
    Calls Try.prog 17 #[.agg #[lv, sv], .int .i64 n] w fun e w' => e = .returned (.tuple #[]) ∧ w.grownBy w' none := by
  go_enter Try.func17, Try.ntmps17
  go_wp2
  refine wp_loop_rounds 1 ?_
  rw [rounds_succ]
  go_wp2_with fail
  refine (insertion_any0 lv sv _ n hn).mono ?_
  rintro e w1 ⟨rfl, hg⟩
  go_wp2
  refine wp_loop_rounds 1 ?_
  rw [rounds_succ]
  go_wp2
  go_end0
  exact ⟨rfl, grown_trans (grown_alloc (grown_refl _ _) _) hg⟩

set_option maxHeartbeats 400000 in
theorem sliceStable_any (n ob Bp Bo pl ev : Nat) (D : Nat → Date) (d : Nat → Nat) (w : World) (hE : Env n ob Bp Bo pl ev D w) (hO : Ord w ob n d) (hF : Fresh d 0 n) :
    Calls Try.prog 12 #[.iface 24 (.slice (some ⟨ob, 0, none⟩) n n), .func (.func 13) #[] #[.pointer (some ⟨Bp, 0, none⟩), .pointer (some ⟨Bo, 0, none⟩)]] w fun e w' => e = .returned (.tuple #[]) ∧ w.grownBy w' (some ob) ∧ ∃ d', Ord w' ob n d' ∧ Blk D d' 0 n := by
  obtain ⟨A24, A3, hv, hs, hl, hS⟩ := refl_laws
  have hob := hO.lt
  have hv1 := hv (some ⟨ob, 0, none⟩) n n
  have hl1 := hl ⟨w.heap.size, 0, none⟩ (some ⟨ob, 0, none⟩) n n
  clear hv hl
  by_cases h2 : 2 ≤ n
  · have hs1 := hs (some ⟨ob, 0, none⟩) n n h2
    have HSS : Hid _ := hS ob n
    clear hs hS
    have hg := grown_alloc (grown_alloc (grown_refl w (some ob)) (.cells #[.slice (some ⟨ob, 0, none⟩) n n] 24)) (.cells #[.pointer (some A24), .pointer (some ⟨w.heap.size, 0, none⟩), .int .u64 151] 55)
    have hO1 := (hO.alloc (.cells #[.slice (some ⟨ob, 0, none⟩) n n] 24)).alloc (.cells #[.pointer (some A24), .pointer (some ⟨w.heap.size, 0, none⟩), .int .u64 151] 55)
    go_enter Try.func12, Try.ntmps12
    go_wp2_with fail
    refine (stable_any n ob Bp Bo pl ev D _ _ d _ ⟨_, rfl, HSS.out⟩ rfl (hE.grown hg) hO1 hF).mono ?_
    rintro e w1 ⟨rfl, hg1, d1, hO2, hb⟩
    go_wp2
    go_end0
    exact ⟨rfl, grown_trans hg hg1, d1, hO2, hb⟩
  · obtain ⟨f, hs1⟩ := swapper_tiny (some ⟨ob, 0, none⟩) n n (by omega)
    clear hs hS
    have hg := grown_alloc (grown_alloc (grown_refl w (some ob)) (.cells #[.slice (some ⟨ob, 0, none⟩) n n] 24)) (.cells #[.pointer (some A24), .pointer (some ⟨w.heap.size, 0, none⟩), .int .u64 151] 55)
    have hO1 := (hO.alloc (.cells #[.slice (some ⟨ob, 0, none⟩) n n] 24)).alloc (.cells #[.pointer (some A24), .pointer (some ⟨w.heap.size, 0, none⟩), .int .u64 151] 55)
    go_enter Try.func12, Try.ntmps12
    go_wp2_with fail
    refine (stable_tiny n (by omega) _ _ _).mono ?_
    rintro e w1 ⟨rfl, hg1⟩
    go_wp2
    go_end0
    exact ⟨rfl, grown_trans hg (grown_none hg1 _), d, grown_row hO1 hg1 (by simp), fun i j h1 h2 h3 => by omega, fun t h1 h2 => by rw [hF t h1 h2]; omega⟩
end Go.Proofs.Qxb6616128a
