/- The writer of bits. -/
import Derived.Test.YthgbfmcicpmepaaDoorBW2
namespace Go.Proofs.YthgbfmcicpmepaaDoor.V
open Go.RowKit Go.Proofs.YthgbfmcicpmepaaDoor.B Go.Proofs.YthgbfmcicpmepaaDoorW.PrintWords Go.Proofs.YthgbfmcicpmepaaDoorW.PrintLast Go.Proofs.YthgbfmcicpmepaaDoorW.PrintMore
set_option linter.unusedVariables false
set_option linter.unusedSimpArgs false
/-- A byte with one bit set or cleared. -/
def setb (cur k : Nat) (v : Bool) : Nat := if v then cur ||| 2 ^ k else cur &&& (255 - 2 ^ k)
theorem setb_fin : ∀ x : Fin 256, ∀ k : Fin 8, ∀ v : Bool, setb x.val k.val v < 256 ∧ ∀ i : Fin 8, (setb x.val k.val v).testBit i.val = if i.val = k.val then v else x.val.testBit i.val := by decide +kernel
theorem setb_lt (cur k : Nat) (v : Bool) (hc : cur < 256) (hk : k < 8) : setb cur k v < 256 := (setb_fin ⟨cur, hc⟩ ⟨k, hk⟩ v).1
theorem setb_bit (cur k i : Nat) (v : Bool) (hc : cur < 256) (hk : k < 8) (hi : i < 8) : (setb cur k v).testBit i = if i = k then v else cur.testBit i := (setb_fin ⟨cur, hc⟩ ⟨k, hk⟩ v).2 ⟨i, hi⟩
theorem or_fin : ∀ x : Fin 256, ∀ k : Fin 8, bits .or .u8 (x.val : Int) ((2 ^ k.val : Nat) : Int) = ((setb x.val k.val true : Nat) : Int) := by decide +kernel
theorem clr_fin : ∀ x : Fin 256, ∀ k : Fin 8, bits .and .u8 (x.val : Int) ((255 - 2 ^ k.val : Nat) : Int) = ((setb x.val k.val false : Nat) : Int) := by decide +kernel
/-- The writer's block. -/
def Bw (w : World) (h : Nat) (A : Option Addr) (m c : Nat) (pos v : Nat) (cur k bo : Nat) : Prop := w.heap[h]? = some (.cells #[.slice A m c, .int .i64 (pos : Int), .int .i64 (v : Int), .int .u8 (cur : Int), .int .u8 ((2 ^ k : Nat) : Int), .int .i64 (bo : Int)] 75 (0, 0))
theorem new35 (b C L : Nat) (M : Nat → Nat) (s m c o v : Nat) (w : World) (hT : TabAt w) (hO : Own w b C L M) (hm : 0 < m) (hs : s < L) (ho : o < 8) (hv : 0 < v) :
    Calls Tryd.prog 35 #[.slice (some ⟨b, s, none⟩) m c, .int .i64 (o : Int), .int .i64 (v : Int)] w fun e w' => e = .returned (.pointer (some ⟨w.heap.size, 0, none⟩)) ∧ Below w.heap.size w w' ∧ Bw w' w.heap.size (some ⟨b, s, none⟩) m c 0 v (M s) o 0 := by
  have h0 := hO.cell s hs
  have h1 := hT.cell o ho
  obtain ⟨tk, htk⟩ : ∃ tk : Nat, tk = 2 ^ o := ⟨_, rfl⟩
  unfold Bw
  rw [← htk] at h1 ⊢
  clear htk
  have k1 : Int.tdiv (o : Int) 8 = 0 := by rw [Int.tdiv_eq_ediv_of_nonneg (by omega)]; omega
  have k2 : Int.tmod (o : Int) 8 = o := by rw [Int.tmod_eq_emod_of_nonneg (by omega)]; omega
  have k3 : 0 < (v : Int) := by omega
  have k4 : (0 : Int) < (m : Int) := by omega
  have k5 : (o : Int) < 8 := by omega
  have hlt := hO.lt
  go_enter Tryd.func35, Tryd.ntmps35
  go_wp2
  go_ret
  exact ⟨rfl, (Below.refl _ _).alloc (Nat.le_refl _) _, blk_new_at rfl⟩
theorem xor_fin : ∀ k : Fin 8, bits .xor .u8 (if IntKind.u8.signed = true then -1 else IntKind.u8.max) ((2 ^ k.val : Nat) : Int) = ((255 - 2 ^ k.val : Nat) : Int) := by decide +kernel
theorem set36 (h : Nat) (A : Option Addr) (m c pos v cur k bo : Nat) (w : World) (hB : Bw w h A m c pos v cur k bo) (hc : cur < 256) (hk : k < 8) :
    Calls Tryd.prog 36 #[.pointer (some ⟨h, 0, none⟩)] w fun e w' => e = .returned (.tuple #[]) ∧ Tch (fun j => j = h) w w' ∧ Bw w' h A m c pos v (setb cur k true) k bo := by
  have e1 : bits .or .u8 (cur : Int) ((2 ^ k : Nat) : Int) = ((setb cur k true : Nat) : Int) := or_fin ⟨cur, hc⟩ ⟨k, hk⟩
  unfold Bw at hB ⊢
  obtain ⟨tk, htk⟩ : ∃ tk : Nat, tk = 2 ^ k := ⟨_, rfl⟩
  rw [← htk] at hB e1 ⊢
  clear htk
  generalize setb cur k true = cur' at *
  have c3 : w.cell? ⟨h, 3, none⟩ = some (.int .u8 (cur : Int)) := (blk_cell hB 3).trans rfl
  have c4 : w.cell? ⟨h, 4, none⟩ = some (.int .u8 (tk : Int)) := (blk_cell hB 4).trans rfl
  have f3 := blk_frozen hB 3
  have H := Lib.hid hB
  clear hB
  go_enter Tryd.func36, Tryd.ntmps36
  go_region
  go_wp2
  go_end0
  exact ⟨rfl, tset (tdrew (Tch.refl _ _)), blk_put (blk_drew_ H.out) 3 _ rfl⟩
theorem clear37 (h : Nat) (A : Option Addr) (m c pos v cur k bo : Nat) (w : World) (hB : Bw w h A m c pos v cur k bo) (hc : cur < 256) (hk : k < 8) :
    Calls Tryd.prog 37 #[.pointer (some ⟨h, 0, none⟩)] w fun e w' => e = .returned (.tuple #[]) ∧ Tch (fun j => j = h) w w' ∧ Bw w' h A m c pos v (setb cur k false) k bo := by
  have e1 : bits .and .u8 (cur : Int) ((255 - 2 ^ k : Nat) : Int) = ((setb cur k false : Nat) : Int) := clr_fin ⟨cur, hc⟩ ⟨k, hk⟩
  have e2 : bits .xor .u8 (if IntKind.u8.signed = true then -1 else IntKind.u8.max) ((2 ^ k : Nat) : Int) = ((255 - 2 ^ k : Nat) : Int) := xor_fin ⟨k, hk⟩
  generalize 255 - 2 ^ k = nk at e1 e2
  unfold Bw at hB ⊢
  obtain ⟨tk, htk⟩ : ∃ tk : Nat, tk = 2 ^ k := ⟨_, rfl⟩
  rw [← htk] at hB e2 ⊢
  generalize setb cur k false = cur' at *
  have c3 : w.cell? ⟨h, 3, none⟩ = some (.int .u8 (cur : Int)) := (blk_cell hB 3).trans rfl
  have c4 : w.cell? ⟨h, 4, none⟩ = some (.int .u8 (tk : Int)) := (blk_cell hB 4).trans rfl
  have f3 := blk_frozen hB 3
  have H := Lib.hid hB
  clear hB htk
  go_enter Tryd.func37, Tryd.ntmps37
  go_region
  go_wp2
  go_end0
  exact ⟨rfl, tset (tdrew (Tch.refl _ _)), blk_put (blk_drew_ H.out) 3 _ rfl⟩
/-- The next bit, within a byte. -/
theorem next38a (h : Nat) (A : Option Addr) (m c pos v cur k bo : Nat) (w : World) (hB : Bw w h A m c pos v cur k bo) (hk : k < 7) (hp : pos < 2 ^ 40) :
    Calls Tryd.prog 38 #[.pointer (some ⟨h, 0, none⟩)] w fun e w' => e = .returned (.tuple #[]) ∧ Tch (fun j => j = h) w w' ∧ Bw w' h A m c (pos + 1) v cur (k + 1) bo := by
  have hp2 : 2 ^ k * 2 < 256 := by
    rw [← Nat.pow_succ]
    exact Nat.lt_of_lt_of_le (Nat.pow_lt_pow_right (by omega) (show k + 1 < 8 by omega)) (by decide)
  have hp3 := Nat.two_pow_pos k
  unfold Bw at hB ⊢
  rw [Nat.pow_succ]
  obtain ⟨tk, htk⟩ : ∃ tk : Nat, tk = 2 ^ k := ⟨_, rfl⟩
  rw [← htk] at hB hp2 hp3 ⊢
  clear htk
  have e1 : (tk : Int) * 2 % 256 = (tk : Int) * 2 := by omega
  have e2 : ¬ (tk : Int) * 2 = 0 := by omega
  have e3 : ((tk : Int) * 2 == 0) = false := by rw [beq_eq_false_iff_ne]; exact e2
  have c1 : w.cell? ⟨h, 1, none⟩ = some (.int .i64 (pos : Int)) := (blk_cell hB 1).trans rfl
  have c4 : w.cell? ⟨h, 4, none⟩ = some (.int .u8 (tk : Int)) := (blk_cell hB 4).trans rfl
  have f1 := blk_frozen hB 1
  have f4 := blk_frozen hB 4
  have H := Lib.hid hB
  clear hB
  go_enter Tryd.func38, Tryd.ntmps38
  go_wp2
  go_end0
  refine ⟨rfl, tset (tset (Tch.refl _ _)), ?_⟩
  rw [show ((pos + 1 : Nat) : Int) = (pos : Int) + 1 by omega, show ((tk * 2 : Nat) : Int) = (tk : Int) * 2 by omega]
  exact blk_put (blk_put H.out 4 _ rfl) 1 _ rfl
/-- The next bit, at the end of a byte, nothing left. -/
theorem next38b (h b C L : Nat) (M : Nat → Nat) (s m c pos v cur bo : Nat) (w : World) (hO : Own w b C L M) (hb : b ≠ h) (hB : Bw w h (some ⟨b, s, none⟩) m c pos v cur 7 bo) (hp : pos < 2 ^ 40) (hl : v ≤ pos + 1) (hm : bo < m) (hs : s + bo < L) (hc : cur < 256) (hbo : bo < 2 ^ 40) :
    Calls Tryd.prog 38 #[.pointer (some ⟨h, 0, none⟩)] w fun e w' => e = .returned (.tuple #[]) ∧ Tch (fun j => j = h ∨ j = b) w w' ∧ Own w' b C L (put1D M (s + bo) cur) ∧ Bw w' h (some ⟨b, s, none⟩) m c (pos + 1) v cur 0 (bo + 1) := by
  unfold Bw at hB ⊢
  have c0 : w.cell? ⟨h, 0, none⟩ = some (.slice (some ⟨b, s, none⟩) m c) := (blk_cell hB 0).trans rfl
  have c1 : w.cell? ⟨h, 1, none⟩ = some (.int .i64 (pos : Int)) := (blk_cell hB 1).trans rfl
  have c2 : w.cell? ⟨h, 2, none⟩ = some (.int .i64 (v : Int)) := (blk_cell hB 2).trans rfl
  have c3 : w.cell? ⟨h, 3, none⟩ = some (.int .u8 (cur : Int)) := (blk_cell hB 3).trans rfl
  have c4 : w.cell? ⟨h, 4, none⟩ = some (.int .u8 128) := (blk_cell hB 4).trans rfl
  have c5 : w.cell? ⟨h, 5, none⟩ = some (.int .i64 (bo : Int)) := (blk_cell hB 5).trans rfl
  have cb := hO.cell (s + bo) hs
  have fb := hO.frozen (s + bo)
  have f1 := blk_frozen hB 1
  have f4 := blk_frozen hB 4
  have f5 := blk_frozen hB 5
  have k1 : (bo : Int) < (m : Int) := by omega
  have k2 : ¬ (pos : Int) + 1 < (v : Int) := by omega
  have hbe : h ≠ b := fun e => hb e.symm
  have H := Lib.hid (And.intro hB hO)
  clear hB hO
  go_enter Tryd.func38, Tryd.ntmps38
  go_wp2
  go_region
  go_wp2
  go_region
  go_wp2
  go_end0
  obtain ⟨hB, hO⟩ := H.out
  have dr : ∀ W : World, ∀ N, Own W b C L N → Own W.drew b C L N := fun W N h => h.tch ((Tch.refl (fun _ => False) _).drew) (fun h => h)
  refine ⟨rfl, ((((((Tch.refl _ _).set (.inl (.inl rfl)) _).set (.inl (.inl rfl)) _).set (.inl (.inl rfl)) _).set (.inl (.inr rfl)) _).set (.inl (.inl rfl)) _).drew.drew, dr _ _ (dr _ _ (((((hO.other hb).other hb).other hb).put (s + bo) cur hc).other hb)), ?_⟩
  rw [show ((pos + 1 : Nat) : Int) = (pos : Int) + 1 by omega, show ((bo + 1 : Nat) : Int) = (bo : Int) + 1 by omega]
  exact blk_drew_ (blk_drew_ (blk_put (blk_other_ hbe (blk_put (blk_put (blk_put hB 4 _ rfl) 1 _ rfl) 4 _ rfl)) 5 _ rfl))
set_option maxHeartbeats 4000000 in
/-- The next bit, at the end of a byte, another byte behind it. -/
theorem next38c (h b C L : Nat) (M : Nat → Nat) (s m c pos v cur bo : Nat) (w : World) (hO : Own w b C L M) (hb : b ≠ h) (hB : Bw w h (some ⟨b, s, none⟩) m c pos v cur 7 bo) (hp : pos < 2 ^ 40) (hl : pos + 1 < v) (hm : bo + 1 < m) (hs : s + bo + 1 < L) (hc : cur < 256) (hbo : bo < 2 ^ 40) :
    Calls Tryd.prog 38 #[.pointer (some ⟨h, 0, none⟩)] w fun e w' => e = .returned (.tuple #[]) ∧ Tch (fun j => j = h ∨ j = b) w w' ∧ Own w' b C L (put1D M (s + bo) cur) ∧ Bw w' h (some ⟨b, s, none⟩) m c (pos + 1) v (M (s + (bo + 1))) 0 (bo + 1) := by
  unfold Bw at hB ⊢
  have c0 : w.cell? ⟨h, 0, none⟩ = some (.slice (some ⟨b, s, none⟩) m c) := (blk_cell hB 0).trans rfl
  have c1 : w.cell? ⟨h, 1, none⟩ = some (.int .i64 (pos : Int)) := (blk_cell hB 1).trans rfl
  have c2 : w.cell? ⟨h, 2, none⟩ = some (.int .i64 (v : Int)) := (blk_cell hB 2).trans rfl
  have c3 : w.cell? ⟨h, 3, none⟩ = some (.int .u8 (cur : Int)) := (blk_cell hB 3).trans rfl
  have c4 : w.cell? ⟨h, 4, none⟩ = some (.int .u8 128) := (blk_cell hB 4).trans rfl
  have c5 : w.cell? ⟨h, 5, none⟩ = some (.int .i64 (bo : Int)) := (blk_cell hB 5).trans rfl
  have cb := hO.cell (s + bo) (by omega)
  have cb2 := hO.cell (s + (bo + 1)) (by omega)
  have fb := hO.frozen (s + bo)
  have f1 := blk_frozen hB 1
  have f3 := blk_frozen hB 3
  have f4 := blk_frozen hB 4
  have f5 := blk_frozen hB 5
  have k1 : (bo : Int) < (m : Int) := by omega
  have k2 : (pos : Int) + 1 < (v : Int) := by omega
  have k3 : (bo : Int) + 1 < (m : Int) := by omega
  have hbe : h ≠ b := fun e => hb e.symm
  have H := Lib.hid (And.intro hB hO)
  clear hB hO
  go_enter Tryd.func38, Tryd.ntmps38
  go_wp2
  go_region
  go_wp2
  go_region
  go_wp2
  go_region
  go_wp2
  go_end0
  obtain ⟨hB, hO⟩ := H.out
  have dr : ∀ W : World, ∀ N, Own W b C L N → Own W.drew b C L N := fun W N h => h.tch ((Tch.refl (fun _ => False) _).drew) (fun h => h)
  refine ⟨rfl, (((((((Tch.refl _ _).set (.inl (.inl rfl)) _).set (.inl (.inl rfl)) _).set (.inl (.inl rfl)) _).set (.inl (.inr rfl)) _).set (.inl (.inl rfl)) _).set (.inl (.inl rfl)) _).drew.drew.drew, dr _ _ (dr _ _ (dr _ _ ((((((hO.other hb).other hb).other hb).put (s + bo) cur hc).other hb).other hb))), ?_⟩
  rw [show ((pos + 1 : Nat) : Int) = (pos : Int) + 1 by omega, show ((bo + 1 : Nat) : Int) = (bo : Int) + 1 by omega]
  exact blk_drew_ (blk_drew_ (blk_drew_ (blk_put (blk_put (blk_other_ hbe (blk_put (blk_put (blk_put hB 4 _ rfl) 1 _ rfl) 4 _ rfl)) 5 _ rfl) 3 _ rfl)))
end Go.Proofs.YthgbfmcicpmepaaDoor.V
