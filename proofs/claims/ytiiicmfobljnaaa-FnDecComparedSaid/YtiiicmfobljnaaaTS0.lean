/- decimal128's and decimal256's sums and differences, over math/bits.Add64 and Sub64. -/
import Derived.Test.YtiiicmfobljnaaaTW
import Derived.Laws.Externs
import Derived.Shelf.Spec.BitsCarry
import Derived.LoopN
namespace Go.Proofs.Ytiiicmfobljnaaa.V
open Go.RowKit Go.Proofs.YtiiicmfobljnaaaW.PrintWords Go.Proofs.YtiiicmfobljnaaaW.PrintLast Go.Proofs.YtiiicmfobljnaaaW.PrintMore
set_option linter.unusedVariables false

theorem add64 (x y c : Int) (hx : 0 ≤ x) (hy : 0 ≤ y) (hc0 : 0 ≤ c) (hc : c ≤ 1) (w : World) : (callFunc 79 #[.int .u64 x, .int .u64 y, .int .u64 c]).run Try.prog w =
    .ok (.value (.tuple #[.int .u64 ((x + y + c) % 18446744073709551616), .int .u64 ((x + y + c) / 18446744073709551616)])) w := by
  rw [run_callFunc_extern Try.func79 (by kernel_rfl) (by kernel_rfl) (by kernel_rfl) (e := add64Entry) (by kernel_rfl), run_add64 x y c hx hy hc0 hc]
  rfl
theorem sub64 (x y : Int) (hx : 0 ≤ x ∧ x < 18446744073709551616) (hy : 0 ≤ y ∧ y < 18446744073709551616) (w : World) : (callFunc 77 #[.int .u64 x, .int .u64 y, .int .u64 0]).run Try.prog w =
    .ok (.value (.tuple #[.int .u64 ((x - y) % 18446744073709551616), .int .u64 (if x < y then 1 else 0)])) w := by
  obtain ⟨X, rfl⟩ := Int.eq_ofNat_of_zero_le hx.1
  obtain ⟨Y, rfl⟩ := Int.eq_ofNat_of_zero_le hy.1
  have h := run_sub64 (P := Try.prog) X Y 0 (by omega) w
  rw [run_callFunc_extern Try.func77 (by kernel_rfl) (by kernel_rfl) (by kernel_rfl) (e := sub64Entry) (by kernel_rfl)]
  rw [show (.int .u64 0 : Value) = .int .u64 ((0 : Nat) : Int) from rfl, h]
  have e1 : (((X + 18446744073709551616 - Y - 0) % 18446744073709551616 : Nat) : Int) = ((X : Int) - (Y : Int)) % 18446744073709551616 := by omega
  have e2 : ((if X < Y + 0 then 1 else 0 : Nat) : Int) = (if (X : Int) < (Y : Int) then 1 else 0) := by
    by_cases c : X < Y
    · rw [if_pos (by omega), if_pos (by omega)]; rfl
    · rw [if_neg (by omega), if_neg (by omega)]; rfl
  rw [e1, e2]
  rfl

/-- A decimal of 128 bits, as words. -/
abbrev d128A (lo hi : Int) : Value := .agg #[.int .u64 lo, .int .i64 hi]
theorem add128 (l1 h1 l2 h2 : Int) (w : World) (a0 : 0 ≤ l1) (b0 : 0 ≤ l2) :
    Calls Try.prog 47 #[d128A l1 h1, d128A l2 h2] w fun e w' => e = .returned (d128A ((l1 + l2) % 18446744073709551616) (wrap64 (wrap64 (h1 + h2) + wrap64 ((l1 + l2) / 18446744073709551616)))) ∧ Below w.heap.size w w' := by
  have e0 := add64 l1 l2 0 a0 b0 (by omega) (by omega)
  rw [Int.add_zero] at e0
  obtain ⟨s, hs⟩ : ∃ s, s = (l1 + l2) % 18446744073709551616 := ⟨_, rfl⟩
  obtain ⟨c, hc⟩ : ∃ c, c = (l1 + l2) / 18446744073709551616 := ⟨_, rfl⟩
  rw [← hs, ← hc] at e0 ⊢
  clear hs hc
  go_enter Try.func47, Try.ntmps47
  go_wp2_with (simp only [e0])
  refine bodyPost_ret (v := d128A s (wrap64 (wrap64 (h1 + h2) + wrap64 c))) (by simp [results, Try.results47, go_sem]) rfl ⟨rfl, ?_⟩
  repeat (first | refine Below.setCell ?_ (by simp; try omega) _)
  exact below_alloc (below_alloc (below_alloc (Below.refl _ _) _) _) _
theorem sub128 (l1 h1 l2 h2 : Int) (w : World) (a0 : 0 ≤ l1 ∧ l1 < 18446744073709551616) (b0 : 0 ≤ l2 ∧ l2 < 18446744073709551616) :
    Calls Try.prog 43 #[d128A l1 h1, d128A l2 h2] w fun e w' => e = .returned (d128A ((l1 - l2) % 18446744073709551616) (wrap64 (wrap64 (h1 - h2) - wrap64 (if l1 < l2 then 1 else 0)))) ∧ Below w.heap.size w w' := by
  have e0 := sub64 l1 l2 a0 b0
  obtain ⟨s, hs⟩ : ∃ s, s = (l1 - l2) % 18446744073709551616 := ⟨_, rfl⟩
  obtain ⟨c, hc⟩ : ∃ c : Int, c = (if l1 < l2 then 1 else 0) := ⟨_, rfl⟩
  rw [← hs, ← hc] at e0 ⊢
  clear hs hc
  go_enter Try.func43, Try.ntmps43
  go_wp2_with (simp only [e0])
  refine bodyPost_ret (v := d128A s (wrap64 (wrap64 (h1 - h2) - wrap64 c))) (by simp [results, Try.results43, go_sem]) rfl ⟨rfl, ?_⟩
  repeat (first | refine Below.setCell ?_ (by simp; try omega) _)
  exact below_alloc (below_alloc (below_alloc (Below.refl _ _) _) _) _

theorem post_ex {P : Program} {fn : Func} {R S : Ending → World → Prop} {a : Act} {w : World} {v : Value}
    (hr : (results fn a.tmps).run P w = .ok v w) (hd : a.defers = []) (hR : R (.returned v) w) (hS : S (.returned v) w) : bodyPost P fn (fun e w' => R e w' ∧ S e w') .ret a w := ⟨hd, v, hr, hR, hS⟩
/-- A decimal of 256 bits, as words. -/
abbrev d256A (a b c d : Int) : Value := .agg #[.int .u64 a, .int .u64 b, .int .u64 c, .int .u64 d]
set_option maxHeartbeats 8000000 in
set_option maxRecDepth 100000 in
theorem add256 (a0 a1 a2 a3 b0 b1 b2 b3 s0 s1 s2 s3 c1 c2 c3 c4 : Int) (w : World)
    (e0 : ∀ w, (callFunc 79 #[.int .u64 a0, .int .u64 b0, .int .u64 0]).run Try.prog w = .ok (.value (.tuple #[.int .u64 s0, .int .u64 c1])) w)
    (e1 : ∀ w, (callFunc 79 #[.int .u64 a1, .int .u64 b1, .int .u64 c1]).run Try.prog w = .ok (.value (.tuple #[.int .u64 s1, .int .u64 c2])) w)
    (e2 : ∀ w, (callFunc 79 #[.int .u64 a2, .int .u64 b2, .int .u64 c2]).run Try.prog w = .ok (.value (.tuple #[.int .u64 s2, .int .u64 c3])) w)
    (e3 : ∀ w, (callFunc 79 #[.int .u64 a3, .int .u64 b3, .int .u64 c3]).run Try.prog w = .ok (.value (.tuple #[.int .u64 s3, .int .u64 c4])) w) :
    Calls Try.prog 48 #[d256A a0 a1 a2 a3, d256A b0 b1 b2 b3] w fun e w' => e = .returned (d256A s0 s1 s2 s3) ∧ Below w.heap.size w w' := by
  have i0 : ∀ w, (Instr.index 58 (d256A a0 a1 a2 a3) (.int .i64 0)).run Try.prog w = .ok (.int .u64 a0) w := fun _ => by kernel_rfl
  have i1 : ∀ w, (Instr.index 58 (d256A a0 a1 a2 a3) (.int .i64 1)).run Try.prog w = .ok (.int .u64 a1) w := fun _ => by kernel_rfl
  have i2 : ∀ w, (Instr.index 58 (d256A a0 a1 a2 a3) (.int .i64 2)).run Try.prog w = .ok (.int .u64 a2) w := fun _ => by kernel_rfl
  have i3 : ∀ w, (Instr.index 58 (d256A a0 a1 a2 a3) (.int .i64 3)).run Try.prog w = .ok (.int .u64 a3) w := fun _ => by kernel_rfl
  go_enter Try.func48, Try.ntmps48
  go_wp2
  refine wp_loop_rounds 5 ?_
  rw [rounds_succ]
  go_wp2_with (simp only [e0])
  rw [rounds_succ]
  go_wp2_with (simp only [e1])
  rw [rounds_succ]
  go_wp2_with (simp only [e2])
  rw [rounds_succ]
  go_wp2_with (simp only [e3])
  rw [rounds_succ]
  go_wp2
  refine bodyPost_ret (v := d256A s0 s1 s2 s3) (by simp [results, Try.results48, go_sem]) rfl ⟨rfl, ?_⟩
  repeat (first | refine Below.setCell ?_ (by simp; try omega) _)
  exact below_alloc (below_alloc (below_alloc (Below.refl _ _) _) _) _
set_option maxHeartbeats 8000000 in
set_option maxRecDepth 100000 in
theorem neg256 (a0 a1 a2 a3 p0 p1 p2 p3 q1 q2 q3 : Int) (w : World)
    (f0 : IntKind.u64.wrap (bits .xor .u64 IntKind.u64.max a0 + 1) = p0) (f1 : IntKind.u64.wrap (bits .xor .u64 IntKind.u64.max a1 + 1) = p1) (f2 : IntKind.u64.wrap (bits .xor .u64 IntKind.u64.max a2 + 1) = p2) (f3 : IntKind.u64.wrap (bits .xor .u64 IntKind.u64.max a3 + 1) = p3)
    (g1 : IntKind.u64.wrap (bits .xor .u64 IntKind.u64.max a1) = q1) (g2 : IntKind.u64.wrap (bits .xor .u64 IntKind.u64.max a2) = q2) (g3 : IntKind.u64.wrap (bits .xor .u64 IntKind.u64.max a3) = q3) :
    Calls Try.prog 78 #[d256A a0 a1 a2 a3] w fun e w' => e = .returned (d256A p0 (if p0 = 0 then p1 else q1) (if p0 = 0 ∧ p1 = 0 then p2 else q2) (if p0 = 0 ∧ p1 = 0 ∧ p2 = 0 then p3 else q3)) ∧ Below w.heap.size w w' := by
  have hsg : IntKind.u64.signed = false := rfl
  obtain ⟨r1, hr1⟩ : ∃ r, r = (if p0 = 0 then p1 else q1) := ⟨_, rfl⟩
  obtain ⟨r2, hr2⟩ : ∃ r, r = (if p0 = 0 ∧ p1 = 0 then p2 else q2) := ⟨_, rfl⟩
  obtain ⟨r3, hr3⟩ : ∃ r, r = (if p0 = 0 ∧ p1 = 0 ∧ p2 = 0 then p3 else q3) := ⟨_, rfl⟩
  rw [← hr1, ← hr2, ← hr3]
  have H1 := Lib.hid hr1
  have H2 := Lib.hid hr2
  have H3 := Lib.hid hr3
  clear hr1 hr2 hr3
  go_enter Try.func78, Try.ntmps78
  go_wp2
  refine wp_loop_rounds 5 ?_
  rw [rounds_succ]
  go_wp2_with (fail)
  all_goals (rw [rounds_succ]; go_wp2_with (fail))
  all_goals (rw [rounds_succ]; go_wp2_with (fail))
  all_goals (rw [rounds_succ]; go_wp2_with (fail))
  all_goals (rw [rounds_succ]; go_wp2_with (fail))
  all_goals
    refine post_ex (by simp [results, Try.results78, go_sem]; rfl) rfl ?_ ?_
    · have k1 := H1.out
      have k2 := H2.out
      have k3 := H3.out
      clear H1 H2 H3 f0 f1 f2 f3 g1 g2 g3
      simp_all
    · repeat (first | refine Below.setCell ?_ (by simp; try omega) _)
      exact below_alloc (below_alloc (Below.refl _ _) _) _
end Go.Proofs.Ytiiicmfobljnaaa.V
