/- The end of the writer of bits. -/
import Derived.Test.YthgbfmcicpmepaaDoorBW4
namespace Go.Proofs.YthgbfmcicpmepaaDoor.V
open Go.RowKit Go.Proofs.YthgbfmcicpmepaaDoor.B Go.Proofs.YthgbfmcicpmepaaDoorW.PrintWords Go.Proofs.YthgbfmcicpmepaaDoorW.PrintLast Go.Proofs.YthgbfmcicpmepaaDoorW.PrintMore
set_option linter.unusedVariables false
set_option linter.unusedSimpArgs false
set_option maxHeartbeats 8000000 in
/-- The end, within a byte: it is flushed. -/
theorem fin39a (h b C L : Nat) (M : Nat → Nat) (s m c pos v cur k bo : Nat) (w : World) (hO : Own w b C L M) (hb : b ≠ h) (hB : Bw w h (some ⟨b, s, none⟩) m c pos v cur k bo) (hv : 0 < v) (hk : 0 < k) (hk8 : k < 8) (hm : bo < m) (hs : s + bo < L) (hc : cur < 256) :
    Calls Tryd.prog 39 #[.pointer (some ⟨h, 0, none⟩)] w fun e w' => e = .returned (.tuple #[]) ∧ Tch (fun j => j = h ∨ j = b) w w' ∧ Own w' b C L (put1D M (s + bo) cur) := by
  unfold Bw at hB
  have e2 : ¬ ((2 ^ k : Nat) : Int) = 1 := by
    have : 2 ^ 1 ≤ 2 ^ k := Nat.pow_le_pow_right (by omega) hk
    omega
  obtain ⟨tk, htk⟩ : ∃ tk : Nat, tk = 2 ^ k := ⟨_, rfl⟩
  rw [← htk] at hB e2
  clear htk
  have e3 : ((tk : Int) == 1) = false := by rw [beq_eq_false_iff_ne]; exact e2
  have e4 : ((tk : Int) != 1) = true := by rw [bne_iff_ne]; exact e2
  have c0 : w.cell? ⟨h, 0, none⟩ = some (.slice (some ⟨b, s, none⟩) m c) := (blk_cell hB 0).trans rfl
  have c1 : w.cell? ⟨h, 1, none⟩ = some (.int .i64 (pos : Int)) := (blk_cell hB 1).trans rfl
  have c2 : w.cell? ⟨h, 2, none⟩ = some (.int .i64 (v : Int)) := (blk_cell hB 2).trans rfl
  have c3 : w.cell? ⟨h, 3, none⟩ = some (.int .u8 (cur : Int)) := (blk_cell hB 3).trans rfl
  have c4 : w.cell? ⟨h, 4, none⟩ = some (.int .u8 (tk : Int)) := (blk_cell hB 4).trans rfl
  have c5 : w.cell? ⟨h, 5, none⟩ = some (.int .i64 (bo : Int)) := (blk_cell hB 5).trans rfl
  have cb := hO.cell (s + bo) hs
  have fb := hO.frozen (s + bo)
  have k1 : (bo : Int) < (m : Int) := by omega
  have k2 : (0 : Int) < (v : Int) := by omega
  have hbe : h ≠ b := fun e => hb e.symm
  have H := Lib.hid (And.intro hB hO)
  clear hB hO
  go_enter Tryd.func39, Tryd.ntmps39
  go_wp2
  go_region
  go_wp2
  go_region
  go_wp2
  go_end0
  obtain ⟨hB, hO⟩ := H.out
  have dr : ∀ W : World, ∀ N, Own W b C L N → Own W.drew b C L N := fun W N h => h.tch ((Tch.refl (fun _ => False) _).drew) (fun h => h)
  exact ⟨rfl, ((Tch.refl _ _).set (.inl (.inr rfl)) _).drew.drew, dr _ _ (dr _ _ (hO.put (s + bo) cur hc))⟩
set_option maxHeartbeats 8000000 in
/-- The end, at a byte's end: nothing is done. -/
theorem fin39b (h : Nat) (A : Option Addr) (m c pos v cur bo : Nat) (w : World) (hB : Bw w h A m c pos v cur 0 bo) (hv : 0 < v) (hp : v ≤ pos) :
    Calls Tryd.prog 39 #[.pointer (some ⟨h, 0, none⟩)] w fun e w' => e = .returned (.tuple #[]) ∧ Below w.heap.size w w' := by
  unfold Bw at hB
  have c1 : w.cell? ⟨h, 1, none⟩ = some (.int .i64 (pos : Int)) := (blk_cell hB 1).trans rfl
  have c2 : w.cell? ⟨h, 2, none⟩ = some (.int .i64 (v : Int)) := (blk_cell hB 2).trans rfl
  have c4 : w.cell? ⟨h, 4, none⟩ = some (.int .u8 1) := (blk_cell hB 4).trans rfl
  have k2 : (0 : Int) < (v : Int) := by omega
  have k3 : ¬ (pos : Int) < (v : Int) := by omega
  clear hB
  go_enter Tryd.func39, Tryd.ntmps39
  go_wp2
  go_region
  go_wp2
  go_end0
  exact ⟨rfl, (Below.refl _ _).drew⟩
/-! ### The writer's states -/
/-- Ahead of its i-th bit. -/
def Bs (w : World) (h b C L s m c o v i x : Nat) (M0 : Nat → Nat) : Prop := ∃ cur M, cur < 256 ∧ Bw w h (some ⟨b, s, none⟩) m c i v cur ((o + i) % 8) ((o + i) / 8) ∧ Own w b C L M ∧ ∀ j, bitD (if i < v ∨ (o + i) % 8 ≠ 0 then put1D M (s + (o + i) / 8) cur else M) j = if 8 * s + o ≤ j ∧ j < 8 * s + o + i then x.testBit (j - (8 * s + o)) else bitD M0 j
/-- Behind its i-th bit, ahead of the next one. -/
def Bm (w : World) (h b C L s m c o v i x : Nat) (M0 : Nat → Nat) : Prop := ∃ cur M, cur < 256 ∧ Bw w h (some ⟨b, s, none⟩) m c i v cur ((o + i) % 8) ((o + i) / 8) ∧ Own w b C L M ∧ ∀ j, bitD (put1D M (s + (o + i) / 8) cur) j = if 8 * s + o ≤ j ∧ j < 8 * s + o + (i + 1) then x.testBit (j - (8 * s + o)) else bitD M0 j
theorem put1D_same (M : Nat → Nat) (s : Nat) : put1D M s (M s) = M := by
  funext j
  unfold put1D
  split
  · next h => rw [h]
  · rfl
theorem bs_new (b C L : Nat) (M : Nat → Nat) (s m c o v x : Nat) (w : World) (hT : TabAt w) (hO : Own w b C L M) (hm : 0 < m) (hs : s < L) (ho : o < 8) (hv : 0 < v) :
    Calls Tryd.prog 35 #[.slice (some ⟨b, s, none⟩) m c, .int .i64 (o : Int), .int .i64 (v : Int)] w fun e w' => e = .returned (.pointer (some ⟨w.heap.size, 0, none⟩)) ∧ Below w.heap.size w w' ∧ Bs w' w.heap.size b C L s m c o v 0 x M := by
  refine (new35 b C L M s m c o v w hT hO hm hs ho hv).mono ?_
  rintro e w' ⟨rfl, hb, hB⟩
  refine ⟨rfl, hb, M s, M, hO.byte s, ?_, hO.tch (Tch.of_below (S := fun _ => False) hb) (fun h => h), fun j => ?_⟩
  · rw [show (o + 0) % 8 = o by omega, show (o + 0) / 8 = 0 by omega]
    exact hB
  · rw [if_pos (.inl hv), show s + (o + 0) / 8 = s by omega, put1D_same, if_neg (by omega)]
theorem bs_mid {cur k q i x p : Nat} {M M0 : Nat → Nat} (hc : cur < 256) (hk : k < 8) (e : 8 * q + k = p + i) (h : ∀ j, bitD (put1D M q cur) j = if p ≤ j ∧ j < p + i then x.testBit (j - p) else bitD M0 j) (v : Bool) (hv : v = x.testBit i) :
    ∀ j, bitD (put1D M q (setb cur k v)) j = if p ≤ j ∧ j < p + (i + 1) then x.testBit (j - p) else bitD M0 j := by
  intro j
  have hj := h j
  rw [put1D_bit _ _ _ _ hc] at hj
  rw [put1D_bit _ _ _ _ (setb_lt cur k v hc hk)]
  by_cases h8 : 8 * q ≤ j ∧ j < 8 * q + 8
  · rw [if_pos h8] at hj ⊢
    rw [setb_bit cur k _ v hc hk (by omega)]
    by_cases hjk : j - 8 * q = k
    · rw [if_pos hjk, if_pos (by omega), hv]
      congr 1
      omega
    · rw [if_neg hjk, hj]
      by_cases hp : p ≤ j ∧ j < p + i
      · rw [if_pos hp, if_pos (by omega)]
      · rw [if_neg hp, if_neg (by omega)]
  · rw [if_neg h8] at hj ⊢
    rw [hj]
    by_cases hp : p ≤ j ∧ j < p + i
    · rw [if_pos hp, if_pos (by omega)]
    · rw [if_neg hp, if_neg (by omega)]
theorem bs_set (h b C L s m c o v i x : Nat) (M0 : Nat → Nat) (w : World) (hb : b ≠ h) (hB : Bs w h b C L s m c o v i x M0) (hi : i < v) (hx : x.testBit i = true) :
    Calls Tryd.prog 36 #[.pointer (some ⟨h, 0, none⟩)] w fun e w' => e = .returned (.tuple #[]) ∧ Tch (fun j => j = h ∨ j = b) w w' ∧ Bm w' h b C L s m c o v i x M0 := by
  obtain ⟨cur, M, h1, h2, h3, h4⟩ := hB
  rw [if_pos (.inl hi)] at h4
  refine (set36 h _ m c i v cur _ _ w h2 h1 (by omega)).mono ?_
  rintro e w' ⟨rfl, T, hB⟩
  exact ⟨rfl, T.mono (fun j e => .inl e), _, M, setb_lt cur _ _ h1 (by omega), hB, h3.tch T (fun e => hb e), bs_mid h1 (by omega) (by omega) h4 true hx.symm⟩
theorem bs_clear (h b C L s m c o v i x : Nat) (M0 : Nat → Nat) (w : World) (hb : b ≠ h) (hB : Bs w h b C L s m c o v i x M0) (hi : i < v) (hx : x.testBit i = false) :
    Calls Tryd.prog 37 #[.pointer (some ⟨h, 0, none⟩)] w fun e w' => e = .returned (.tuple #[]) ∧ Tch (fun j => j = h ∨ j = b) w w' ∧ Bm w' h b C L s m c o v i x M0 := by
  obtain ⟨cur, M, h1, h2, h3, h4⟩ := hB
  rw [if_pos (.inl hi)] at h4
  refine (clear37 h _ m c i v cur _ _ w h2 h1 (by omega)).mono ?_
  rintro e w' ⟨rfl, T, hB⟩
  exact ⟨rfl, T.mono (fun j e => .inl e), _, M, setb_lt cur _ _ h1 (by omega), hB, h3.tch T (fun e => hb e), bs_mid h1 (by omega) (by omega) h4 false hx.symm⟩
theorem bs_next (h b C L s m c o v i x : Nat) (M0 : Nat → Nat) (w : World) (hb : b ≠ h) (hB : Bm w h b C L s m c o v i x M0) (hi : i < v) (hv : v < 2 ^ 30) (ho : o < 8) (hm : o + v ≤ 8 * m) (hL : 8 * s + o + v ≤ 8 * L) :
    Calls Tryd.prog 38 #[.pointer (some ⟨h, 0, none⟩)] w fun e w' => e = .returned (.tuple #[]) ∧ Tch (fun j => j = h ∨ j = b) w w' ∧ Bs w' h b C L s m c o v (i + 1) x M0 := by
  obtain ⟨cur, M, h1, h2, h3, h4⟩ := hB
  by_cases h7 : (o + i) % 8 < 7
  · refine (next38a h _ m c i v cur _ _ w h2 h7 (by omega)).mono ?_
    rintro e w' ⟨rfl, T, hB⟩
    refine ⟨rfl, T.mono (fun j e => .inl e), cur, M, h1, ?_, h3.tch T (fun e => hb e), fun j => ?_⟩
    · rw [show (o + (i + 1)) % 8 = (o + i) % 8 + 1 by omega, show (o + (i + 1)) / 8 = (o + i) / 8 by omega]
      exact hB
    · rw [if_pos (.inr (by omega)), show (o + (i + 1)) / 8 = (o + i) / 8 by omega]
      exact h4 j
  · have e7 : (o + i) % 8 = 7 := by omega
    rw [e7] at h2
    by_cases hl : i + 1 < v
    · refine (next38c h b C L M s m c i v cur _ w h3 hb h2 (by omega) hl (by omega) (by omega) h1 (by omega)).mono ?_
      rintro e w' ⟨rfl, T, hO, hB⟩
      refine ⟨rfl, T, M (s + ((o + i) / 8 + 1)), _, h3.byte _, ?_, hO, fun j => ?_⟩
      · rw [show (o + (i + 1)) % 8 = 0 by omega, show (o + (i + 1)) / 8 = (o + i) / 8 + 1 by omega]
        exact hB
      · rw [if_pos (.inl hl), show (o + (i + 1)) / 8 = (o + i) / 8 + 1 by omega]
        have e : M (s + ((o + i) / 8 + 1)) = put1D M (s + (o + i) / 8) cur (s + ((o + i) / 8 + 1)) := by
          unfold put1D
          rw [if_neg (by omega)]
        rw [e, put1D_same]
        exact h4 j
    · refine (next38b h b C L M s m c i v cur _ w h3 hb h2 (by omega) (by omega) (by omega) (by omega) h1 (by omega)).mono ?_
      rintro e w' ⟨rfl, T, hO, hB⟩
      refine ⟨rfl, T, cur, _, h1, ?_, hO, fun j => ?_⟩
      · rw [show (o + (i + 1)) % 8 = 0 by omega, show (o + (i + 1)) / 8 = (o + i) / 8 + 1 by omega]
        exact hB
      · rw [if_neg (by omega)]
        exact h4 j
theorem bs_fin (h b C L s m c o v x : Nat) (M0 : Nat → Nat) (w : World) (hb : b ≠ h) (hB : Bs w h b C L s m c o v v x M0) (hv : 0 < v) (ho : o < 8) (hm : o + v ≤ 8 * m) (hL : 8 * s + o + v ≤ 8 * L) :
    Calls Tryd.prog 39 #[.pointer (some ⟨h, 0, none⟩)] w fun e w' => e = .returned (.tuple #[]) ∧ Tch (fun j => j = h ∨ j = b) w w' ∧ ∃ M', Own w' b C L M' ∧ Upd M0 (8 * s + o) v x M' := by
  obtain ⟨cur, M, h1, h2, h3, h4⟩ := hB
  by_cases h0 : (o + v) % 8 = 0
  · rw [if_neg (by omega)] at h4
    rw [h0] at h2
    refine (fin39b h _ m c v v cur _ w h2 hv (Nat.le_refl _)).mono ?_
    rintro e w' ⟨rfl, T⟩
    exact ⟨rfl, Tch.of_below T, M, h3.tch (Tch.of_below (S := fun _ => False) T) (fun h => h), h4⟩
  · rw [if_pos (.inr h0)] at h4
    refine (fin39a h b C L M s m c v v cur _ _ w h3 hb h2 hv (by omega) (by omega) (by omega) (by omega) h1).mono ?_
    rintro e w' ⟨rfl, T, hO⟩
    exact ⟨rfl, T, _, hO, h4⟩
end Go.Proofs.YthgbfmcicpmepaaDoor.V
