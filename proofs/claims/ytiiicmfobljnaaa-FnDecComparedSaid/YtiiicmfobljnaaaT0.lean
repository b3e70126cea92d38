/- What impl.decOf and (dec).words do at each width; what is deferred and recovers nothing. -/
import Derived.Test.YtiiicmfobljnaaaV0
import Derived.Defers
import Derived.Recover
import Derived.Laws.Pointers
import Derived.Laws.NewBlocks
import Derived.Lib.Hide
import Derived.Outline
import Derived.RegionTactic
import Derived.Laws.ResultCell
namespace Go.Proofs.Ytiiicmfobljnaaa.V
open Go.RowKit Go.Proofs.YtiiicmfobljnaaaW.PrintWords

/-- A decimal's nine cells. -/
abbrev decA (width d32 d64 lo hi e0 e1 e2 e3 : Int) : Value := .agg #[.int .i64 width, .int .i32 d32, .int .i64 d64, .int .u64 lo, .int .i64 hi, .int .u64 e0, .int .u64 e1, .int .u64 e2, .int .u64 e3]
theorem decOf32 (ad : Addr) (c : Nat) (x0 : Int) (w : World) (hc0 : w.cell? ad = some (.int .u64 x0)) (hx : wrap64 x0 = wrap64 (wrap32 x0)) :
    Calls Try.prog 23 #[.int .i64 32, .slice (some ad) 1 c] w fun e w' => e = .returned (.tuple #[decA 32 (wrap32 x0) 0 0 0 0 0 0 0, .bool true]) ∧ Below w.heap.size w w' := by
  have hlt0 := World.block_lt_of_cell? w _ hc0
  have hb0 : ∀ o, (w.alloc o).cell? ad = some (.int .u64 x0) := fun o => (World.cell?_alloc_lt _ _ _ hlt0).trans hc0
  go_enter Try.func23, Try.ntmps23
  have hx' : (wrap64 x0 == wrap64 (wrap32 x0)) = true := by simp [hx]
  go_wp2
  go_quiet (fail)
  go_wp2
  refine bodyPost_ret (v := .tuple #[decA 32 (wrap32 x0) 0 0 0 0 0 0 0, .bool true]) (by simp [results, Try.results23, go_sem]) rfl ⟨rfl, ?_⟩
  repeat (first | refine Below.setCell ?_ (by simp; try omega) _)
  exact pw_below_drewN (below_alloc (Below.refl _ _) _) _
theorem decOf64 (ad : Addr) (c : Nat) (x0 : Int) (w : World) (hc0 : w.cell? ad = some (.int .u64 x0)) :
    Calls Try.prog 23 #[.int .i64 64, .slice (some ad) 1 c] w fun e w' => e = .returned (.tuple #[decA 64 0 (wrap64 x0) 0 0 0 0 0 0, .bool true]) ∧ Below w.heap.size w w' := by
  have hlt0 := World.block_lt_of_cell? w _ hc0
  have hb0 : ∀ o, (w.alloc o).cell? ad = some (.int .u64 x0) := fun o => (World.cell?_alloc_lt _ _ _ hlt0).trans hc0
  go_enter Try.func23, Try.ntmps23
  go_wp2
  go_quiet (fail)
  go_wp2
  refine bodyPost_ret (v := .tuple #[decA 64 0 (wrap64 x0) 0 0 0 0 0 0, .bool true]) (by simp [results, Try.results23, go_sem]) rfl ⟨rfl, ?_⟩
  repeat (first | refine Below.setCell ?_ (by simp; try omega) _)
  exact pw_below_drewN (below_alloc (Below.refl _ _) _) _
theorem new128 (hi lo : Int) (w : World) : Calls Try.prog 66 #[.int .i64 hi, .int .u64 lo] w fun e w' => e = .returned (.agg #[.int .u64 lo, .int .i64 hi]) ∧ Below w.heap.size w w' := by
  go_enter Try.func66, Try.ntmps66
  go_wp2
  refine bodyPost_ret (v := .agg #[.int .u64 lo, .int .i64 hi]) (by simp [results, Try.results66, go_sem]) rfl ⟨rfl, ?_⟩
  repeat (first | refine Below.setCell ?_ (by simp; try omega) _)
  exact below_alloc (Below.refl _ _) _
theorem new256 (a b c d : Int) (w : World) : Calls Try.prog 67 #[.int .u64 a, .int .u64 b, .int .u64 c, .int .u64 d] w fun e w' => e = .returned (.agg #[.int .u64 d, .int .u64 c, .int .u64 b, .int .u64 a]) ∧ Below w.heap.size w w' := by
  go_enter Try.func67, Try.ntmps67
  go_wp2
  refine bodyPost_ret (v := .agg #[.int .u64 d, .int .u64 c, .int .u64 b, .int .u64 a]) (by simp [results, Try.results67, go_sem]) rfl ⟨rfl, ?_⟩
  repeat (first | refine Below.setCell ?_ (by simp; try omega) _)
  exact below_alloc (Below.refl _ _) _
theorem low_ (hi lo : Int) (w : World) : Calls Try.prog 68 #[.agg #[.int .u64 lo, .int .i64 hi]] w fun e w' => e = .returned (.int .u64 lo) ∧ Below w.heap.size w w' := by
  go_enter Try.func68, Try.ntmps68
  go_wp2
  go_ret
  exact ⟨rfl, below_alloc (Below.refl _ _) _⟩
theorem high_ (hi lo : Int) (w : World) : Calls Try.prog 69 #[.agg #[.int .u64 lo, .int .i64 hi]] w fun e w' => e = .returned (.int .i64 hi) ∧ Below w.heap.size w w' := by
  go_enter Try.func69, Try.ntmps69
  go_wp2
  go_ret
  exact ⟨rfl, below_alloc (Below.refl _ _) _⟩
theorem array_ (a b c d : Int) (w : World) : Calls Try.prog 70 #[.agg #[.int .u64 a, .int .u64 b, .int .u64 c, .int .u64 d]] w fun e w' => e = .returned (.agg #[.int .u64 a, .int .u64 b, .int .u64 c, .int .u64 d]) ∧ Below w.heap.size w w' := by
  go_enter Try.func70, Try.ntmps70
  go_wp2
  refine bodyPost_ret (v := .agg #[.int .u64 a, .int .u64 b, .int .u64 c, .int .u64 d]) (by simp [results, Try.results70, go_sem]) rfl ⟨rfl, ?_⟩
  repeat (first | refine Below.setCell ?_ (by simp; try omega) _)
  exact below_alloc (below_alloc (Below.refl _ _) _) _
/-- A row of numbers that has just been made. -/
theorem fresh_ {W : World} {base e : Nat} {ok : Nat → Prop} (xs : List Int) (hb : base ≤ W.heap.size) (hm : xs.length ≤ maxLen) (hok : ok W.heap.size) :
    Kd.R (Kd.int .u64) e (W.alloc (.cells (xs.map (Value.int .u64)).toArray e)) base ok (.slice (some ⟨W.heap.size, 0, none⟩) xs.length xs.length) xs := by
  have h2 := World.ownsRow_lit (base := base) (e := e) (size := 1) W (xs.map (Value.int .u64)).toArray xs.length hb hm (by simp)
  refine Kd.R_of_own (enc := Value.int .u64) (h1 := fun _ => rfl) (by simpa [encs] using h2) (fun k hk => ?_)
  have : W.heap.size = k := by simpa [Value.ownBlock] using hk
  exact this ▸ hok
theorem words32 (x0 d1 d2 d3 d4 d5 d6 d7 : Int) (w : World) : Calls Try.prog 26 #[decA 32 x0 d1 d2 d3 d4 d5 d6 d7] w fun e w' => ∃ v, e = .returned v ∧ Kd.R (Kd.int .u64) 25 w' w.heap.size (fun k_ => w.heap.size ≤ k_) v [IntKind.u64.wrap (wrap64 x0)] ∧ Below w.heap.size w w' := by
  go_enter Try.func26, Try.ntmps26
  go_wp2
  go_ret
  have hF := fresh_ (W := w.alloc (Obj.cells #[.int .i64 32, .int .i32 x0, .int .i64 d1, .int .u64 d2, .int .i64 d3, .int .u64 d4, .int .u64 d5, .int .u64 d6, .int .u64 d7] 62)) (base := w.heap.size) (e := 25) (ok := fun k_ => w.heap.size ≤ k_) [IntKind.u64.wrap (wrap64 x0)] (by simp) (by simp [maxLen]) (by simp)
  simp only [List.map_cons, List.map_nil, List.length_cons, List.length_nil] at hF
  exact ⟨_, rfl, by simpa using hF, below_alloc (below_alloc (Below.refl _ _) _) _⟩
theorem words64 (x0 d1 d2 d3 d4 d5 d6 d7 : Int) (w : World) : Calls Try.prog 26 #[decA 64 d1 x0 d2 d3 d4 d5 d6 d7] w fun e w' => ∃ v, e = .returned v ∧ Kd.R (Kd.int .u64) 25 w' w.heap.size (fun k_ => w.heap.size ≤ k_) v [IntKind.u64.wrap x0] ∧ Below w.heap.size w w' := by
  go_enter Try.func26, Try.ntmps26
  go_wp2
  go_ret
  have hF := fresh_ (W := w.alloc (Obj.cells #[.int .i64 64, .int .i32 d1, .int .i64 x0, .int .u64 d2, .int .i64 d3, .int .u64 d4, .int .u64 d5, .int .u64 d6, .int .u64 d7] 62)) (base := w.heap.size) (e := 25) (ok := fun k_ => w.heap.size ≤ k_) [IntKind.u64.wrap x0] (by simp) (by simp [maxLen]) (by simp)
  simp only [List.map_cons, List.map_nil, List.length_cons, List.length_nil] at hF
  exact ⟨_, rfl, by simpa using hF, below_alloc (below_alloc (Below.refl _ _) _) _⟩
end Go.Proofs.Ytiiicmfobljnaaa.V
