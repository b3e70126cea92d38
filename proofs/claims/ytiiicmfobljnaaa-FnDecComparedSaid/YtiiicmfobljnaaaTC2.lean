/- How decimals of 256 bits compare; the sign of one of 128, of 256 bits. -/
import Derived.Test.YtiiicmfobljnaaaTC1
import Derived.ChangeKeysEq
namespace Go.Proofs.Ytiiicmfobljnaaa.V
set_option linter.unusedVariables false
set_option linter.unusedSimpArgs false
open Go.RowKit Go.Proofs.YtiiicmfobljnaaaW.PrintWords Go.Proofs.YtiiicmfobljnaaaW.PrintLast Go.Proofs.YtiiicmfobljnaaaW.PrintMore
theorem sign128 (lo hi r : Int) (w : World) (hr : (if lo = 0 ∧ hi = 0 then 0 else Go.bits .or .i64 1 (hi / 9223372036854775808)) = r) : Calls Try.prog 59 #[d128A lo hi] w fun e w' => e = .returned (.int .i64 r) ∧ Below w.heap.size w w' := by
  have H := Lib.hid hr
  clear hr
  go_enter Try.func59, Try.ntmps59
  go_wp2
  all_goals
    go_ret
    refine ⟨?_, below_alloc (Below.refl _ _) _⟩
    have k := H.out
    clear H
    simp_all
theorem eq_item (d e : Nat) (c : Nat) (xs ys : Array Value) (i : Nat) (is : List Nat) (a b : Int) (w : World) (h1 : (part 25 xs (i * 1)).run Try.prog w = .ok (.int .u64 a) w) (h2 : (part 25 ys (i * 1)).run Try.prog w = .ok (.int .u64 b) w) (r : Bool) (h3 : (Op.eqItems (d + 1) 25 1 xs ys is).run Try.prog w = .ok r w) :
    (Op.eqItems (d + 1) 25 1 xs ys (i :: is)).run Try.prog w = .ok (a == b && r) w := by
  simp only [Op.eqItems, Sem.run_bind, h1, h2, Result.andThen_ok, run_equalIn_int w d 25 .u64 .u64 a b Try.underlying25]
  cases a == b
  · simp
  · simp [h3]
theorem eq_arr (a0 a1 a2 a3 : Int) (w : World) : (Op.equalIn 9999 58 (.agg #[.int .u64 a0, .int .u64 a1, .int .u64 a2, .int .u64 a3]) (.agg #[.int .u64 0, .int .u64 0, .int .u64 0, .int .u64 0])).run Try.prog w = .ok (a0 == 0 && (a1 == 0 && (a2 == 0 && (a3 == 0 && true)))) w := by
  obtain ⟨i, hi⟩ : ∃ i, Try.prog.info? 25 = some i := Option.isSome_iff_exists.mp (show (Try.prog.info? 25).isSome = true by kernel_rfl)
  have hu : Try.prog.underlying 58 = some (.array 4 25) := by kernel_rfl
  have hc : Try.prog.cellsOf 25 = 1 := by kernel_rfl
  rw [show (9999 : Nat) = 9998 + 1 from rfl, run_equalIn_array w 9998 _ _ hu hi, hc, show List.range 4 = [0, 1, 2, 3] from rfl]
  refine eq_item 9997 0 0 _ _ 0 _ a0 0 w (by kernel_rfl) (by kernel_rfl) _ ?_
  refine eq_item 9997 0 0 _ _ 1 _ a1 0 w (by kernel_rfl) (by kernel_rfl) _ ?_
  refine eq_item 9997 0 0 _ _ 2 _ a2 0 w (by kernel_rfl) (by kernel_rfl) _ ?_
  refine eq_item 9997 0 0 _ _ 3 _ a3 0 w (by kernel_rfl) (by kernel_rfl) _ ?_
  simp [Op.eqItems]
set_option maxRecDepth 100000 in
set_option maxHeartbeats 1000000 in
theorem sign256 (a0 a1 a2 a3 r : Int) (w : World) (hr : (if a0 = 0 ∧ a1 = 0 ∧ a2 = 0 ∧ a3 = 0 then 0 else Go.bits .or .i64 1 (wrap64 a3 / 9223372036854775808)) = r) : Calls Try.prog 65 #[d256A a0 a1 a2 a3] w fun e w' => e = .returned (.int .i64 r) ∧ Below w.heap.size w w' := by
  have H := Lib.hid hr
  clear hr
  have he := fun w => eq_arr a0 a1 a2 a3 w
  go_enter Try.func65, Try.ntmps65
  go_wp2
  all_goals
    go_ret
    refine ⟨?_, below_alloc (Below.refl _ _) _⟩
    have k := H.out
    clear H
    first
      | (simp_all; done)
      | (rename_i hn; rw [if_neg (by rintro ⟨e0, e1, e2, e3⟩; exact hn e0 e1 e2 e3)] at k; rw [k]; rfl)
def lt256 (a0 a1 a2 a3 b0 b1 b2 b3 : Int) : Bool := if a3 ≠ b3 then decide (wrap64 a3 < wrap64 b3) else if a2 ≠ b2 then decide (a2 < b2) else if a1 ≠ b1 then decide (a1 < b1) else decide (a0 < b0)
theorem less256 (a0 a1 a2 a3 b0 b1 b2 b3 : Int) (r : Bool) (w : World) (hr : lt256 a0 a1 a2 a3 b0 b1 b2 b3 = r) : Calls Try.prog 61 #[d256A a0 a1 a2 a3, d256A b0 b1 b2 b3] w fun e w' => e = .returned (.bool r) ∧ Below w.heap.size w w' := by
  have H := Lib.hid hr
  clear hr
  go_enter Try.func61, Try.ntmps61
  go_wp2
  all_goals
    go_ret
    refine ⟨?_, below_alloc (below_alloc (Below.refl _ _) _) _⟩
    have k := H.out
    clear H
    unfold lt256 at k
    simp_all
theorem greater256 (a0 a1 a2 a3 b0 b1 b2 b3 : Int) (r : Bool) (w : World) (hr : lt256 b0 b1 b2 b3 a0 a1 a2 a3 = r) : Calls Try.prog 63 #[d256A a0 a1 a2 a3, d256A b0 b1 b2 b3] w fun e w' => e = .returned (.bool r) ∧ Below w.heap.size w w' := by
  have H := Lib.hid hr
  clear hr
  go_enter Try.func63, Try.ntmps63
  go_wp2_with (go_at_call 61; refine (less256 b0 b1 b2 b3 a0 a1 a2 a3 r _ H.out).mono ?_; rintro e w1 ⟨rfl, hb1⟩)
  go_ret
  exact ⟨rfl, (below_alloc (below_alloc (Below.refl _ _) _) _).trans (hb1.mono (by simp; try omega))⟩
theorem lessEq256 (a0 a1 a2 a3 b0 b1 b2 b3 : Int) (r : Bool) (w : World) (hr : lt256 b0 b1 b2 b3 a0 a1 a2 a3 = r) : Calls Try.prog 62 #[d256A a0 a1 a2 a3, d256A b0 b1 b2 b3] w fun e w' => e = .returned (.bool (!r)) ∧ Below w.heap.size w w' := by
  have H := Lib.hid hr
  clear hr
  go_enter Try.func62, Try.ntmps62
  go_wp2_with (go_at_call 63; refine (greater256 a0 a1 a2 a3 b0 b1 b2 b3 r _ H.out).mono ?_; rintro e w1 ⟨rfl, hb1⟩)
  go_ret
  exact ⟨rfl, (below_alloc (below_alloc (Below.refl _ _) _) _).trans (hb1.mono (by simp; try omega))⟩
theorem greaterEq256 (a0 a1 a2 a3 b0 b1 b2 b3 : Int) (r : Bool) (w : World) (hr : lt256 a0 a1 a2 a3 b0 b1 b2 b3 = r) : Calls Try.prog 64 #[d256A a0 a1 a2 a3, d256A b0 b1 b2 b3] w fun e w' => e = .returned (.bool (!r)) ∧ Below w.heap.size w w' := by
  have H := Lib.hid hr
  clear hr
  go_enter Try.func64, Try.ntmps64
  go_wp2_with (go_at_call 61; refine (less256 a0 a1 a2 a3 b0 b1 b2 b3 r _ H.out).mono ?_; rintro e w1 ⟨rfl, hb1⟩)
  go_ret
  exact ⟨rfl, (below_alloc (below_alloc (Below.refl _ _) _) _).trans (hb1.mono (by simp; try omega))⟩
theorem cmp256_ (a0 a1 a2 a3 b0 b1 b2 b3 : Int) (g l : Bool) (w : World) (hg : lt256 b0 b1 b2 b3 a0 a1 a2 a3 = g) (hl : lt256 a0 a1 a2 a3 b0 b1 b2 b3 = l) : Calls Try.prog 60 #[d256A a0 a1 a2 a3, d256A b0 b1 b2 b3] w fun e w' => e = .returned (.int .i64 (if g = true then 1 else if l = true then -1 else 0)) ∧ Below w.heap.size w w' := by
  have H := Lib.hid hg
  have H2 := Lib.hid hl
  clear hg hl
  go_enter Try.func60, Try.ntmps60
  go_wp2_with (go_at_call 63; fail)
  refine calls_at ?_
  intro w0 hw0
  have B0 : w0.heap[w.heap.size]? = some (.cells #[.int .u64 a0, .int .u64 a1, .int .u64 a2, .int .u64 a3] 60 (0, 0)) := by rw [hw0]; exact blk_alloc_ (blk_new_at rfl)
  have B1 : w0.heap[w.heap.size + 1]? = some (.cells #[.int .u64 b0, .int .u64 b1, .int .u64 b2, .int .u64 b3] 60 (0, 0)) := by rw [hw0]; exact blk_new_at (by simp)
  have hb0 : Below w.heap.size w w0 := by rw [hw0]; exact below_alloc (below_alloc (Below.refl _ _) _) _
  clear hw0
  refine (greater256 a0 a1 a2 a3 b0 b1 b2 b3 _ _ H.out).mono ?_
  rintro e w1 ⟨rfl, hb1⟩
  have C0 := blk_below B0 hb1
  have C1 := blk_below B1 hb1
  have HB := Lib.hid (hb0.trans (hb1.mono hb0.size))
  clear B0 B1 hb0 hb1
  have x0 : w1.cell? ⟨w.heap.size, 0, none⟩ = some (.int .u64 a0) := (blk_cell C0 0).trans rfl
  have y0 : w1.cell? ⟨w.heap.size + 1, 0, none⟩ = some (.int .u64 b0) := (blk_cell C1 0).trans rfl
  have x1 : w1.cell? ⟨w.heap.size, 1, none⟩ = some (.int .u64 a1) := (blk_cell C0 1).trans rfl
  have y1 : w1.cell? ⟨w.heap.size + 1, 1, none⟩ = some (.int .u64 b1) := (blk_cell C1 1).trans rfl
  have x2 : w1.cell? ⟨w.heap.size, 2, none⟩ = some (.int .u64 a2) := (blk_cell C0 2).trans rfl
  have y2 : w1.cell? ⟨w.heap.size + 1, 2, none⟩ = some (.int .u64 b2) := (blk_cell C1 2).trans rfl
  have x3 : w1.cell? ⟨w.heap.size, 3, none⟩ = some (.int .u64 a3) := (blk_cell C0 3).trans rfl
  have y3 : w1.cell? ⟨w.heap.size + 1, 3, none⟩ = some (.int .u64 b3) := (blk_cell C1 3).trans rfl
  clear C0 C1
  cases g
  · cases l
    all_goals
      go_wp2_with (go_at_call 61; refine (less256 a0 a1 a2 a3 b0 b1 b2 b3 _ _ H2.out).mono ?_; rintro e w2 ⟨rfl, hb2⟩)
      go_ret
      exact ⟨rfl, HB.out.trans (hb2.mono HB.out.size)⟩
  · go_wp2_with (fail)
    go_ret
    exact ⟨rfl, HB.out⟩
end Go.Proofs.Ytiiicmfobljnaaa.V
