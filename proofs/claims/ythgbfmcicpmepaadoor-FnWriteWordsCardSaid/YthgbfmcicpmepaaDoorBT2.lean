/- What the small functions of the readers of bits do. -/
import Derived.Test.YthgbfmcicpmepaaDoorBT1
namespace Go.Proofs.YthgbfmcicpmepaaDoor.V
open Go.RowKit Go.Proofs.YthgbfmcicpmepaaDoor.B Go.Proofs.YthgbfmcicpmepaaDoorW.PrintWords Go.Proofs.YthgbfmcicpmepaaDoorW.PrintLast Go.Proofs.YthgbfmcicpmepaaDoorW.PrintMore
set_option linter.unusedVariables false
set_option linter.unusedSimpArgs false
theorem blk_new_at {W : World} {g : Nat} {cs : Array Value} {t : TypeId} (h : g = W.heap.size) : (W.alloc (.cells cs t)).heap[g]? = some (.cells cs t (0, 0)) := by subst h; exact blk_new W _
theorem and_fin : ∀ x : Fin 256, ∀ k : Fin 8, ((x.val &&& 2 ^ k.val) != 0) = x.val.testBit k.val := by decide +kernel
theorem and_bit (x k : Nat) (hx : x < 256) (hk : k < 8) : (bits .and .u8 (x : Int) ((2 : Int) ^ k) != 0) = x.testBit k := by
  have e : bits .and .u8 (x : Int) ((2 : Int) ^ k) = IntKind.u8.wrap (((BitVec.ofInt 8 (x : Int) &&& BitVec.ofInt 8 ((2 ^ k : Nat) : Int)).toNat : Nat) : Int) := by rw [Int.natCast_pow]; rfl
  have hp : 2 ^ k < 256 := Nat.lt_of_lt_of_le (Nat.pow_lt_pow_right (by omega) hk) (by decide)
  have l := Nat.and_lt_two_pow (n := 8) x hp
  rw [e, BitVec.ofInt_natCast, BitVec.ofInt_natCast, BitVec.toNat_and, BitVec.toNat_ofNat, BitVec.toNat_ofNat, Nat.mod_eq_of_lt hx, Nat.mod_eq_of_lt hp, wrap_u8 _ l, ← and_fin ⟨x, hx⟩ ⟨k, hk⟩]
  show ((((x &&& 2 ^ k : Nat) : Int)) != 0) = ((x &&& 2 ^ k) != 0)
  generalize (x &&& 2 ^ k) = y
  cases y
  · rfl
  · simp; omega
theorem blk_put_at {W : World} {g : Nat} {t : TypeId} {cs cs' : Array Value} {i : Nat} {u : Value} (h : W.heap[g]? = some (.cells cs t (0, 0))) (e : cs.setIfInBounds i u = cs') : (W.setCell ⟨g, i, none⟩ u).heap[g]? = some (.cells cs' t (0, 0)) := blk_put h i u e
/-- The table of the masks lies in memory. -/
structure TabAt (w : World) : Prop where
  cell : ∀ j : Nat, j < 8 → w.cell? ⟨1, j, none⟩ = some (.int .u8 ((2 ^ j : Nat) : Int))
theorem TabAt.tch {S : Nat → Prop} {w w' : World} (h : TabAt w) (k : Tch S w w') (hn : ¬ S 1) : TabAt w' := ⟨fun j hj => k.cell (h.cell j hj) hn⟩
theorem TabAt.below {w w' : World} (h : TabAt w) (hb : Below w.heap.size w w') : TabAt w' := h.tch (Tch.of_below (S := fun _ => False) hb) (fun h => h)
theorem bit41 (B O L : Nat) (D : Nat → Nat) (n c m i : Nat) (w : World) (hT : TabAt w) (hD : Dat w B O L D) (hn : n = O) (hm : i / 8 < m) (hs : i / 8 < L) (hi : i < 2 ^ 60) :
    Calls Tryd.prog 41 #[.slice (some ⟨B, n, none⟩) m c, .int .i64 (i : Int)] w fun e w' => e = .returned (.bool (bitD D i)) ∧ Below w.heap.size w w' := by
  subst hn
  have k1 : IntKind.u64.wrap (i : Int) = i := wrap_u64 i (by omega)
  have k2 : IntKind.u8.wrap (i : Int) % 8 = ((i % 8 : Nat) : Int) := by simp only [IntKind.wrap, IntKind.bits, IntKind.signed]; simp <;> omega
  have h0 := hD.at_ (i / 8) (n + i / 8) hs rfl
  have h1 := hT.cell (i % 8) (by omega)
  have k3 : ((i / 8 : Nat) : Int) < (m : Int) := by omega
  go_enter Tryd.func41, Tryd.ntmps41
  go_wp2
  go_region
  go_wp2
  go_ret
  refine ⟨?_, (Below.refl _ _).drew⟩
  exact congrArg (fun z => Ending.returned (Value.bool z)) (and_bit (D (i / 8)) (i % 8) (hD.byte _) (by omega))
theorem rd48 (B O L : Nat) (D : Nat → Nat) (n c m o v : Nat) (w : World) (hD : Dat w B O L D) (hn : n = O) (ho : o < 8) (hv : 0 < v) (hm : 0 < m) (hL : 0 < L) :
    Calls Tryd.prog 48 #[.slice (some ⟨B, n, none⟩) m c, .int .i64 (o : Int), .int .i64 (v : Int)] w fun e w' => e = .returned (.pointer (some ⟨w.heap.size, 0, none⟩)) ∧ w'.heap[w.heap.size]? = some (.cells #[.slice (some ⟨B, n, none⟩) m c, .int .i64 0, .int .i64 (v : Int), .int .u8 (D 0 : Int), .int .i64 0, .int .i64 (o : Int)] 82 (0, 0)) ∧ Below w.heap.size w w' := by
  subst hn
  have h0 := hD.at_ 0 n hL rfl
  have k1 : Int.tdiv (o : Int) 8 = 0 := by rw [Int.tdiv_eq_ediv_of_nonneg (by omega)]; omega
  have k2 : Int.tmod (o : Int) 8 = o := by rw [Int.tmod_eq_emod_of_nonneg (by omega)]; omega
  have k3 : 0 < (v : Int) := by omega
  go_enter Tryd.func48, Tryd.ntmps48
  go_wp2
  go_ret
  exact ⟨rfl, blk_new_at rfl, (Below.refl _ _).alloc (Nat.le_refl _) _⟩
theorem set49 (g : Nat) (S1 a b c : Value) (cur o : Nat) (w : World) (h : w.heap[g]? = some (.cells #[S1, a, b, .int .u8 (cur : Int), c, .int .i64 (o : Int)] 82 (0, 0))) (ho : o < 8) (hc : cur < 256) :
    Calls Tryd.prog 49 #[.pointer (some ⟨g, 0, none⟩)] w fun e w' => e = .returned (.bool (cur.testBit o)) ∧ Below w.heap.size w w' := by
  have h3 : w.cell? ⟨g, 3, none⟩ = some (.int .u8 (cur : Int)) := (blk_cell h 3).trans rfl
  have h5 : w.cell? ⟨g, 5, none⟩ = some (.int .i64 (o : Int)) := (blk_cell h 5).trans rfl
  go_enter Tryd.func49, Tryd.ntmps49
  go_wp2
  go_region
  go_wp2
  go_ret
  refine ⟨?_, (Below.refl _ _).drew⟩
  have hp : (2 : Int) ^ o % 256 = 2 ^ o := by
    have : 2 ^ o < 256 := Nat.lt_of_lt_of_le (Nat.pow_lt_pow_right (by omega) ho) (by decide)
    rw [show (2 : Int) ^ o = ((2 ^ o : Nat) : Int) by rw [Int.natCast_pow]; rfl]
    generalize 2 ^ o = y at *
    omega
  have k := and_bit cur o hc ho
  rw [← hp] at k
  exact congrArg (fun z => Ending.returned (Value.bool z)) k
theorem tset {g i : Nat} {a w : World} {u : Value} (h : Tch (fun k => k = g) a w) : Tch (fun k => k = g) a (w.setCell ⟨g, i, none⟩ u) := h.set (.inl rfl) u
theorem tdrew {g : Nat} {a w : World} (h : Tch (fun k => k = g) a w) : Tch (fun k => k = g) a w.drew := h.drew
theorem blk_drew_ {W : World} {g : Nat} {o : Obj} (h : W.heap[g]? = some o) : W.drew.heap[g]? = some o := h
theorem nextA (g : Nat) (S1 : Value) (o : Nat) (i v cur bo : Nat) (w : World) (h : w.heap[g]? = some (.cells #[S1, .int .i64 (i : Int), .int .i64 (v : Int), .int .u8 (cur : Int), .int .i64 (bo : Int), .int .i64 (o : Int)] 82 (0, 0))) (hi : i < 2 ^ 40) (hv : v < 2 ^ 40) (hb : bo < 2 ^ 40) (ho : o < 7) :
    Calls Tryd.prog 50 #[.pointer (some ⟨g, 0, none⟩)] w fun e w' => e = .returned (.tuple #[]) ∧ Tch (fun k => k = g) w w' ∧ w'.heap[g]? = some (.cells #[S1, .int .i64 ((i : Int) + 1), .int .i64 (v : Int), .int .u8 (cur : Int), .int .i64 (bo : Int), .int .i64 ((o : Int) + 1)] 82 (0, 0)) := by
  have k1 : ((o : Int) + 1 == 8) = false := by rw [beq_eq_false_iff_ne]; omega
  have h0 : w.cell? ⟨g, 0, none⟩ = some S1 := (blk_cell h 0).trans rfl
  have h1 : w.cell? ⟨g, 1, none⟩ = some (.int .i64 (i : Int)) := (blk_cell h 1).trans rfl
  have h2 : w.cell? ⟨g, 2, none⟩ = some (.int .i64 (v : Int)) := (blk_cell h 2).trans rfl
  have h3 : w.cell? ⟨g, 3, none⟩ = some (.int .u8 (cur : Int)) := (blk_cell h 3).trans rfl
  have h4 : w.cell? ⟨g, 4, none⟩ = some (.int .i64 (bo : Int)) := (blk_cell h 4).trans rfl
  have h5 : w.cell? ⟨g, 5, none⟩ = some (.int .i64 (o : Int)) := (blk_cell h 5).trans rfl
  have f1 := blk_frozen h 1
  have f3 := blk_frozen h 3
  have f4 := blk_frozen h 4
  have f5 := blk_frozen h 5
  have H := Lib.hid h
  clear h
  go_enter Tryd.func50, Tryd.ntmps50
  go_wp2
  go_end0
  have h := H.out
  exact ⟨rfl, tset (tset (Tch.refl _ _)), blk_put_at (blk_put_at h rfl) rfl⟩
theorem nextB (g : Nat) (S1 : Value) (i v cur bo : Nat) (w : World) (h : w.heap[g]? = some (.cells #[S1, .int .i64 (i : Int), .int .i64 (v : Int), .int .u8 (cur : Int), .int .i64 (bo : Int), .int .i64 7] 82 (0, 0))) (hi : i < 2 ^ 40) (hv : v < 2 ^ 40) (hb : bo < 2 ^ 40) (hl : v ≤ i + 1) :
    Calls Tryd.prog 50 #[.pointer (some ⟨g, 0, none⟩)] w fun e w' => e = .returned (.tuple #[]) ∧ Tch (fun k => k = g) w w' ∧ w'.heap[g]? = some (.cells #[S1, .int .i64 ((i : Int) + 1), .int .i64 (v : Int), .int .u8 (cur : Int), .int .i64 ((bo : Int) + 1), .int .i64 0] 82 (0, 0)) := by
  have k1 : ¬ (i : Int) + 1 < v := by omega
  have h0 : w.cell? ⟨g, 0, none⟩ = some S1 := (blk_cell h 0).trans rfl
  have h1 : w.cell? ⟨g, 1, none⟩ = some (.int .i64 (i : Int)) := (blk_cell h 1).trans rfl
  have h2 : w.cell? ⟨g, 2, none⟩ = some (.int .i64 (v : Int)) := (blk_cell h 2).trans rfl
  have h3 : w.cell? ⟨g, 3, none⟩ = some (.int .u8 (cur : Int)) := (blk_cell h 3).trans rfl
  have h4 : w.cell? ⟨g, 4, none⟩ = some (.int .i64 (bo : Int)) := (blk_cell h 4).trans rfl
  have h5 : w.cell? ⟨g, 5, none⟩ = some (.int .i64 7) := (blk_cell h 5).trans rfl
  have f1 := blk_frozen h 1
  have f3 := blk_frozen h 3
  have f4 := blk_frozen h 4
  have f5 := blk_frozen h 5
  have H := Lib.hid h
  clear h
  go_enter Tryd.func50, Tryd.ntmps50
  go_wp2
  go_region
  go_wp2
  go_end0
  have h := H.out
  exact ⟨rfl, tdrew (tset (tset (tset (tset (Tch.refl _ _))))), blk_drew_ (blk_put_at (blk_put_at (blk_put_at (blk_put_at h rfl) rfl) rfl) rfl)⟩
set_option maxHeartbeats 2000000 in
theorem nextC (g : Nat) (B O m c : Nat) (i v cur bo : Nat) (w : World) (h : w.heap[g]? = some (.cells #[.slice (some ⟨B, O, none⟩) m c, .int .i64 (i : Int), .int .i64 (v : Int), .int .u8 (cur : Int), .int .i64 (bo : Int), .int .i64 7] 82 (0, 0))) (hi : i < 2 ^ 40) (hv : v < 2 ^ 40) (hb : bo < 2 ^ 40) (hl : i + 1 < v) (x : Nat) (hx : w.cell? ⟨B, O + (bo + 1), none⟩ = some (.int .u8 (x : Int))) (hg : B ≠ g) (hm : bo + 1 < m) :
    Calls Tryd.prog 50 #[.pointer (some ⟨g, 0, none⟩)] w fun e w' => e = .returned (.tuple #[]) ∧ Tch (fun k => k = g) w w' ∧ w'.heap[g]? = some (.cells #[.slice (some ⟨B, O, none⟩) m c, .int .i64 ((i : Int) + 1), .int .i64 (v : Int), .int .u8 (x : Int), .int .i64 ((bo : Int) + 1), .int .i64 0] 82 (0, 0)) := by
  have k1 : (i : Int) + 1 < v := by omega
  have k2 : (bo : Int) + 1 < m := by omega
  have h0 : w.cell? ⟨g, 0, none⟩ = some (.slice (some ⟨B, O, none⟩) m c) := (blk_cell h 0).trans rfl
  have h1 : w.cell? ⟨g, 1, none⟩ = some (.int .i64 (i : Int)) := (blk_cell h 1).trans rfl
  have h2 : w.cell? ⟨g, 2, none⟩ = some (.int .i64 (v : Int)) := (blk_cell h 2).trans rfl
  have h3 : w.cell? ⟨g, 3, none⟩ = some (.int .u8 (cur : Int)) := (blk_cell h 3).trans rfl
  have h4 : w.cell? ⟨g, 4, none⟩ = some (.int .i64 (bo : Int)) := (blk_cell h 4).trans rfl
  have h5 : w.cell? ⟨g, 5, none⟩ = some (.int .i64 7) := (blk_cell h 5).trans rfl
  have f1 := blk_frozen h 1
  have f3 := blk_frozen h 3
  have f4 := blk_frozen h 4
  have f5 := blk_frozen h 5
  have H := Lib.hid h
  clear h
  go_enter Tryd.func50, Tryd.ntmps50
  go_wp2
  go_region
  go_wp2
  go_region
  go_wp2
  go_end0
  have h := H.out
  exact ⟨rfl, tdrew (tset (tdrew (tset (tset (tset (tset (Tch.refl _ _))))))), blk_drew_ (blk_put_at (blk_drew_ (blk_put_at (blk_put_at (blk_put_at (blk_put_at h rfl) rfl) rfl) rfl)) rfl)⟩
end Go.Proofs.YthgbfmcicpmepaaDoor.V
