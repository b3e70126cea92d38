/- Units of time: what arrow.ConvertTimestampValue and impl.UnitConvert do, called with units from 0 to 3, where the table lies in memory as the program's text has it. -/
import Derived.Test.YtiiicmfobljnaaaDoorV0
import Derived.Defers
import Derived.Recover
import Derived.Laws.Pointers
import Derived.Laws.NewBlocks
import Derived.Lib.Hide
namespace Go.Proofs.YtiiicmfobljnaaaDoor.V
open Go.RowKit Go.Proofs.YtiiicmfobljnaaaDoorW.PrintWords

/-- The table's cells: for each unit and each other one, whether it multiplies, and the factor. -/
def tabCells : Array Value := #[.int .i8 1, .int .i64 1, .int .i8 1, .int .i64 1000, .int .i8 1, .int .i64 1000000, .int .i8 1, .int .i64 1000000000,
  .int .i8 0, .int .i64 1000, .int .i8 1, .int .i64 1, .int .i8 1, .int .i64 1000, .int .i8 1, .int .i64 1000000,
  .int .i8 0, .int .i64 1000000, .int .i8 0, .int .i64 1000, .int .i8 1, .int .i64 1, .int .i8 1, .int .i64 1000,
  .int .i8 0, .int .i64 1000000000, .int .i8 0, .int .i64 1000000, .int .i8 0, .int .i64 1000, .int .i8 1, .int .i64 1]
/-- The table lies in memory. -/
structure TabAt (w : World) : Prop where
  cell : ∀ j v, tabCells[j]? = some v → w.cell? ⟨0, j, none⟩ = some v
theorem TabAt.below {w w' : World} (h : TabAt w) (hb : Below w.heap.size w w') : TabAt w' :=
  ⟨fun j v e => (hb.cell (World.block_lt_of_cell? w _ (h.cell j v e))).trans (h.cell j v e)⟩

/-- So many times as many, or divided. -/
def convI (i o n : Int) : Int :=
  if i ≤ o then wrap64 (n * (if o - i = 0 then 1 else if o - i = 1 then 1000 else if o - i = 2 then 1000000 else 1000000000))
  else wrap64 (n.tdiv (if i - o = 1 then 1000 else if i - o = 2 then 1000000 else 1000000000))

theorem conv_00 (n : Int) (w : World) (hT : TabAt w) :
    Calls Tryd.prog 11 #[.int .i64 0, .int .i64 0, .int .i64 n] w fun e w' => e = .returned (.int .i64 (convI 0 0 n)) ∧ Below w.heap.size w w' := by
  have h1 : w.cell? ⟨0, 0, none⟩ = some (.int .i8 1) := hT.cell 0 _ rfl
  have h2 : w.cell? ⟨0, 1, none⟩ = some (.int .i64 1) := hT.cell 1 _ rfl
  go_enter Tryd.func11, Tryd.ntmps11
  go_wp2
  go_ret
  exact ⟨by simp [convI], (Below.refl _ _).alloc (Nat.le_refl _) _⟩
theorem conv_01 (n : Int) (w : World) (hT : TabAt w) :
    Calls Tryd.prog 11 #[.int .i64 0, .int .i64 1, .int .i64 n] w fun e w' => e = .returned (.int .i64 (convI 0 1 n)) ∧ Below w.heap.size w w' := by
  have h1 : w.cell? ⟨0, 2, none⟩ = some (.int .i8 1) := hT.cell 2 _ rfl
  have h2 : w.cell? ⟨0, 3, none⟩ = some (.int .i64 1000) := hT.cell 3 _ rfl
  go_enter Tryd.func11, Tryd.ntmps11
  go_wp2
  go_ret
  exact ⟨rfl, (Below.refl _ _).alloc (Nat.le_refl _) _⟩
theorem conv_02 (n : Int) (w : World) (hT : TabAt w) :
    Calls Tryd.prog 11 #[.int .i64 0, .int .i64 2, .int .i64 n] w fun e w' => e = .returned (.int .i64 (convI 0 2 n)) ∧ Below w.heap.size w w' := by
  have h1 : w.cell? ⟨0, 4, none⟩ = some (.int .i8 1) := hT.cell 4 _ rfl
  have h2 : w.cell? ⟨0, 5, none⟩ = some (.int .i64 1000000) := hT.cell 5 _ rfl
  go_enter Tryd.func11, Tryd.ntmps11
  go_wp2
  go_ret
  exact ⟨rfl, (Below.refl _ _).alloc (Nat.le_refl _) _⟩
theorem conv_03 (n : Int) (w : World) (hT : TabAt w) :
    Calls Tryd.prog 11 #[.int .i64 0, .int .i64 3, .int .i64 n] w fun e w' => e = .returned (.int .i64 (convI 0 3 n)) ∧ Below w.heap.size w w' := by
  have h1 : w.cell? ⟨0, 6, none⟩ = some (.int .i8 1) := hT.cell 6 _ rfl
  have h2 : w.cell? ⟨0, 7, none⟩ = some (.int .i64 1000000000) := hT.cell 7 _ rfl
  go_enter Tryd.func11, Tryd.ntmps11
  go_wp2
  go_ret
  exact ⟨rfl, (Below.refl _ _).alloc (Nat.le_refl _) _⟩
theorem conv_10 (n : Int) (w : World) (hT : TabAt w) :
    Calls Tryd.prog 11 #[.int .i64 1, .int .i64 0, .int .i64 n] w fun e w' => e = .returned (.int .i64 (convI 1 0 n)) ∧ Below w.heap.size w w' := by
  have h1 : w.cell? ⟨0, 8, none⟩ = some (.int .i8 0) := hT.cell 8 _ rfl
  have h2 : w.cell? ⟨0, 9, none⟩ = some (.int .i64 1000) := hT.cell 9 _ rfl
  go_enter Tryd.func11, Tryd.ntmps11
  go_wp2
  go_ret
  exact ⟨rfl, (Below.refl _ _).alloc (Nat.le_refl _) _⟩
theorem conv_11 (n : Int) (w : World) (hT : TabAt w) :
    Calls Tryd.prog 11 #[.int .i64 1, .int .i64 1, .int .i64 n] w fun e w' => e = .returned (.int .i64 (convI 1 1 n)) ∧ Below w.heap.size w w' := by
  have h1 : w.cell? ⟨0, 10, none⟩ = some (.int .i8 1) := hT.cell 10 _ rfl
  have h2 : w.cell? ⟨0, 11, none⟩ = some (.int .i64 1) := hT.cell 11 _ rfl
  go_enter Tryd.func11, Tryd.ntmps11
  go_wp2
  go_ret
  exact ⟨by simp [convI], (Below.refl _ _).alloc (Nat.le_refl _) _⟩
theorem conv_12 (n : Int) (w : World) (hT : TabAt w) :
    Calls Tryd.prog 11 #[.int .i64 1, .int .i64 2, .int .i64 n] w fun e w' => e = .returned (.int .i64 (convI 1 2 n)) ∧ Below w.heap.size w w' := by
  have h1 : w.cell? ⟨0, 12, none⟩ = some (.int .i8 1) := hT.cell 12 _ rfl
  have h2 : w.cell? ⟨0, 13, none⟩ = some (.int .i64 1000) := hT.cell 13 _ rfl
  go_enter Tryd.func11, Tryd.ntmps11
  go_wp2
  go_ret
  exact ⟨rfl, (Below.refl _ _).alloc (Nat.le_refl _) _⟩
theorem conv_13 (n : Int) (w : World) (hT : TabAt w) :
    Calls Tryd.prog 11 #[.int .i64 1, .int .i64 3, .int .i64 n] w fun e w' => e = .returned (.int .i64 (convI 1 3 n)) ∧ Below w.heap.size w w' := by
  have h1 : w.cell? ⟨0, 14, none⟩ = some (.int .i8 1) := hT.cell 14 _ rfl
  have h2 : w.cell? ⟨0, 15, none⟩ = some (.int .i64 1000000) := hT.cell 15 _ rfl
  go_enter Tryd.func11, Tryd.ntmps11
  go_wp2
  go_ret
  exact ⟨rfl, (Below.refl _ _).alloc (Nat.le_refl _) _⟩
theorem conv_20 (n : Int) (w : World) (hT : TabAt w) :
    Calls Tryd.prog 11 #[.int .i64 2, .int .i64 0, .int .i64 n] w fun e w' => e = .returned (.int .i64 (convI 2 0 n)) ∧ Below w.heap.size w w' := by
  have h1 : w.cell? ⟨0, 16, none⟩ = some (.int .i8 0) := hT.cell 16 _ rfl
  have h2 : w.cell? ⟨0, 17, none⟩ = some (.int .i64 1000000) := hT.cell 17 _ rfl
  go_enter Tryd.func11, Tryd.ntmps11
  go_wp2
  go_ret
  exact ⟨rfl, (Below.refl _ _).alloc (Nat.le_refl _) _⟩
theorem conv_21 (n : Int) (w : World) (hT : TabAt w) :
    Calls Tryd.prog 11 #[.int .i64 2, .int .i64 1, .int .i64 n] w fun e w' => e = .returned (.int .i64 (convI 2 1 n)) ∧ Below w.heap.size w w' := by
  have h1 : w.cell? ⟨0, 18, none⟩ = some (.int .i8 0) := hT.cell 18 _ rfl
  have h2 : w.cell? ⟨0, 19, none⟩ = some (.int .i64 1000) := hT.cell 19 _ rfl
  go_enter Tryd.func11, Tryd.ntmps11
  go_wp2
  go_ret
  exact ⟨rfl, (Below.refl _ _).alloc (Nat.le_refl _) _⟩
theorem conv_22 (n : Int) (w : World) (hT : TabAt w) :
    Calls Tryd.prog 11 #[.int .i64 2, .int .i64 2, .int .i64 n] w fun e w' => e = .returned (.int .i64 (convI 2 2 n)) ∧ Below w.heap.size w w' := by
  have h1 : w.cell? ⟨0, 20, none⟩ = some (.int .i8 1) := hT.cell 20 _ rfl
  have h2 : w.cell? ⟨0, 21, none⟩ = some (.int .i64 1) := hT.cell 21 _ rfl
  go_enter Tryd.func11, Tryd.ntmps11
  go_wp2
  go_ret
  exact ⟨by simp [convI], (Below.refl _ _).alloc (Nat.le_refl _) _⟩
theorem conv_23 (n : Int) (w : World) (hT : TabAt w) :
    Calls Tryd.prog 11 #[.int .i64 2, .int .i64 3, .int .i64 n] w fun e w' => e = .returned (.int .i64 (convI 2 3 n)) ∧ Below w.heap.size w w' := by
  have h1 : w.cell? ⟨0, 22, none⟩ = some (.int .i8 1) := hT.cell 22 _ rfl
  have h2 : w.cell? ⟨0, 23, none⟩ = some (.int .i64 1000) := hT.cell 23 _ rfl
  go_enter Tryd.func11, Tryd.ntmps11
  go_wp2
  go_ret
  exact ⟨rfl, (Below.refl _ _).alloc (Nat.le_refl _) _⟩
theorem conv_30 (n : Int) (w : World) (hT : TabAt w) :
    Calls Tryd.prog 11 #[.int .i64 3, .int .i64 0, .int .i64 n] w fun e w' => e = .returned (.int .i64 (convI 3 0 n)) ∧ Below w.heap.size w w' := by
  have h1 : w.cell? ⟨0, 24, none⟩ = some (.int .i8 0) := hT.cell 24 _ rfl
  have h2 : w.cell? ⟨0, 25, none⟩ = some (.int .i64 1000000000) := hT.cell 25 _ rfl
  go_enter Tryd.func11, Tryd.ntmps11
  go_wp2
  go_ret
  exact ⟨rfl, (Below.refl _ _).alloc (Nat.le_refl _) _⟩
theorem conv_31 (n : Int) (w : World) (hT : TabAt w) :
    Calls Tryd.prog 11 #[.int .i64 3, .int .i64 1, .int .i64 n] w fun e w' => e = .returned (.int .i64 (convI 3 1 n)) ∧ Below w.heap.size w w' := by
  have h1 : w.cell? ⟨0, 26, none⟩ = some (.int .i8 0) := hT.cell 26 _ rfl
  have h2 : w.cell? ⟨0, 27, none⟩ = some (.int .i64 1000000) := hT.cell 27 _ rfl
  go_enter Tryd.func11, Tryd.ntmps11
  go_wp2
  go_ret
  exact ⟨rfl, (Below.refl _ _).alloc (Nat.le_refl _) _⟩
theorem conv_32 (n : Int) (w : World) (hT : TabAt w) :
    Calls Tryd.prog 11 #[.int .i64 3, .int .i64 2, .int .i64 n] w fun e w' => e = .returned (.int .i64 (convI 3 2 n)) ∧ Below w.heap.size w w' := by
  have h1 : w.cell? ⟨0, 28, none⟩ = some (.int .i8 0) := hT.cell 28 _ rfl
  have h2 : w.cell? ⟨0, 29, none⟩ = some (.int .i64 1000) := hT.cell 29 _ rfl
  go_enter Tryd.func11, Tryd.ntmps11
  go_wp2
  go_ret
  exact ⟨rfl, (Below.refl _ _).alloc (Nat.le_refl _) _⟩
theorem conv_33 (n : Int) (w : World) (hT : TabAt w) :
    Calls Tryd.prog 11 #[.int .i64 3, .int .i64 3, .int .i64 n] w fun e w' => e = .returned (.int .i64 (convI 3 3 n)) ∧ Below w.heap.size w w' := by
  have h1 : w.cell? ⟨0, 30, none⟩ = some (.int .i8 1) := hT.cell 30 _ rfl
  have h2 : w.cell? ⟨0, 31, none⟩ = some (.int .i64 1) := hT.cell 31 _ rfl
  go_enter Tryd.func11, Tryd.ntmps11
  go_wp2
  go_ret
  exact ⟨by simp [convI], (Below.refl _ _).alloc (Nat.le_refl _) _⟩
theorem conv_at (i o n : Int) (w : World) (hi : 0 ≤ i ∧ i ≤ 3) (ho : 0 ≤ o ∧ o ≤ 3) (hT : TabAt w) :
    Calls Tryd.prog 11 #[.int .i64 i, .int .i64 o, .int .i64 n] w fun e w' => e = .returned (.int .i64 (convI i o n)) ∧ Below w.heap.size w w' := by
  obtain rfl | rfl | rfl | rfl : i = 0 ∨ i = 1 ∨ i = 2 ∨ i = 3 := by omega
  all_goals obtain rfl | rfl | rfl | rfl : o = 0 ∨ o = 1 ∨ o = 2 ∨ o = 3 := by omega
  · exact conv_00 n w hT
  · exact conv_01 n w hT
  · exact conv_02 n w hT
  · exact conv_03 n w hT
  · exact conv_10 n w hT
  · exact conv_11 n w hT
  · exact conv_12 n w hT
  · exact conv_13 n w hT
  · exact conv_20 n w hT
  · exact conv_21 n w hT
  · exact conv_22 n w hT
  · exact conv_23 n w hT
  · exact conv_30 n w hT
  · exact conv_31 n w hT
  · exact conv_32 n w hT
  · exact conv_33 n w hT

/-- What is deferred, of a frame that returns: nothing is recovered, nothing is turned. -/
theorem catch_idle (p q : Addr) (w : World) :
    CallsD Tryd.prog 10 #[.pointer (some p), .pointer (some q)] .returning w fun e u' w' => e = .returned (.tuple #[]) ∧ u' = .returning ∧ w = w' := by
  refine callsD_of_wpS Tryd.func10 rfl fun c₀ cs hu => ?_
  apply wpS_seq
  apply wpS_region
  simp [wpOpsS, go_sem, recoverD, hu, Tryd.ntmps10, Exit.thenS]
  refine wpS_cond (t := false) (by simp [Act.eval, Array.replicate]) ?_
  simp only [Bool.false_eq_true, if_false]
  refine wpS_of_wp (wp_skip ?_)
  cases c₀
  simp_all [bodyPostS, results, Tryd.results10]

/-- The two named results' variables, behind what only made memory. -/
theorem two_cells {w w1 : World} {a b : Value} {s t : TypeId} (hb : Below ((w.alloc (.cells #[a] s)).alloc (.cells #[b] t)).heap.size ((w.alloc (.cells #[a] s)).alloc (.cells #[b] t)) w1) :
    w1.cell? ⟨w.heap.size, 0, none⟩ = some a ∧ w1.cell? ⟨w.heap.size + 1, 0, none⟩ = some b ∧ w1.frozen? ⟨w.heap.size, 0, none⟩ = false ∧ w1.frozen? ⟨w.heap.size + 1, 0, none⟩ = false ∧ w.heap.size + 1 < w1.heap.size := by
  have hz := hb.size
  have e : ((w.alloc (.cells #[a] s)).alloc (.cells #[b] t)).heap.size = w.heap.size + 2 := by simp
  rw [e] at hz
  refine ⟨(hb.cell (p := ⟨w.heap.size, 0, none⟩) (by rw [e]; simp)).trans (by simp [go_sem]), (hb.cell (p := ⟨w.heap.size + 1, 0, none⟩) (by rw [e]; simp)).trans (by simp [go_sem]),
    (hb.frozen (p := ⟨w.heap.size, 0, none⟩) (by rw [e]; simp)).trans (by simp [go_sem]), (hb.frozen (p := ⟨w.heap.size + 1, 0, none⟩) (by rw [e]; simp)).trans (by simp [go_sem]), by omega⟩

theorem unit_at (i o n : Int) (w : World) (hi : 0 ≤ i ∧ i ≤ 3) (ho : 0 ≤ o ∧ o ≤ 3) (hT : TabAt w) :
    Calls Tryd.prog 4 #[.int .i64 i, .int .i64 o, .int .i64 n] w fun e w' => e = .returned (.tuple #[.int .i64 (convI i o n), .bool true]) ∧ Below w.heap.size w w' := by
  have hmf : ∀ (fn : Fn) (first cap : Array Value) (w : World), (Instr.makeFunc fn first cap).run Tryd.prog w = .ok (.func fn first cap) w := fun _ _ _ _ => rfl
  have hT2 : TabAt ((w.alloc (.cells #[.int .i64 0] 2)).alloc (.cells #[.bool false] 4)) := hT.below (((Below.refl _ _).alloc (Nat.le_refl _) _).alloc (by simp) _)
  go_enter_defers Tryd.func4, Tryd.ntmps4
  go_wp2_with (go_at_call 11; refine (conv_at i o n _ hi ho hT2).mono ?_; rintro e w1 ⟨rfl, hb1⟩; obtain ⟨c6, c7, f6, f7, hz⟩ := two_cells hb1; have HB1 := Lib.hid hb1; clear hb1)
  refine leaves_cons (f := 10) (args := #[.pointer (some ⟨w.heap.size, 0, none⟩), .pointer (some ⟨w.heap.size + 1, 0, none⟩)]) (by simp) (by simp [go_sem]) ?_
  refine (catch_idle ⟨w.heap.size, 0, none⟩ ⟨w.heap.size + 1, 0, none⟩ _).mono ?_
  rintro e u' w'' ⟨rfl, rfl, rfl⟩
  have hbb : Below w.heap.size w w1 := (((Below.refl _ _).alloc (Nat.le_refl _) _).alloc (by simp) _).trans (HB1.out.mono (by simp; omega))
  simp [Leaves, settle, results, Tryd.results4, go_sem, c6, c7]
  exact (hbb.setCell (by simp) _).setCell (by simp) _

/-- What impl.UnitConvert answers, called with units. -/
def impl_UnitConvert.f (a0 a1 a2 : Int) : Option (Int × Bool) := if 0 ≤ a0 ∧ a0 ≤ 3 ∧ 0 ≤ a1 ∧ a1 ≤ 3 then some (convI a0 a1 a2, true) else none
theorem impl_UnitConvert.calls (a0 a1 a2 : Int) (r1 : Int) (r2 : Bool) (w : World) (h : impl_UnitConvert.f a0 a1 a2 = some (r1, r2)) (hT : TabAt w) :
    Calls Tryd.prog 4 #[.int .i64 a0, .int .i64 a1, .int .i64 a2] w fun e w' => e = .returned (.tuple #[.int .i64 r1, .bool r2]) ∧ Below w.heap.size w w' := by
  unfold impl_UnitConvert.f at h
  by_cases c : 0 ≤ a0 ∧ a0 ≤ 3 ∧ 0 ≤ a1 ∧ a1 ≤ 3
  · rw [if_pos c] at h
    obtain ⟨rfl, rfl⟩ := Prod.mk.inj (Option.some.inj h)
    exact unit_at a0 a1 a2 w ⟨c.1, c.2.1⟩ ⟨c.2.2.1, c.2.2.2⟩ hT
  · rw [if_neg c] at h; cases h
end Go.Proofs.YtiiicmfobljnaaaDoor.V
