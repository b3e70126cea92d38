/- impl.SameBits: what it answers where the bits are there. -/
import Derived.Test.YthgbfmcicpmepaaDoorBT10
namespace Go.Proofs.YthgbfmcicpmepaaDoor.V
open Go.RowKit Go.Proofs.YthgbfmcicpmepaaDoor.B Go.Proofs.YthgbfmcicpmepaaDoorW.PrintWords Go.Proofs.YthgbfmcicpmepaaDoorW.PrintLast Go.Proofs.YthgbfmcicpmepaaDoorW.PrintMore
set_option linter.unusedVariables false
set_option linter.unusedSimpArgs false
/-- The bytes of a list of numbers. -/
def DL (l : List Int) (j : Nat) : Nat := (rd l (j : Int)).toNat
theorem rd_mem {l : List Int} (hb : ∀ x ∈ l, 0 ≤ x ∧ x < 256) (j : Nat) : 0 ≤ rd l (j : Int) ∧ rd l (j : Int) < 256 := by
  have e : rd l (j : Int) = l.getD j 0 := by first | rfl | simp [rd]
  rw [e, List.getD_eq_getElem?_getD]
  rcases Nat.lt_or_ge j l.length with h | h
  · rw [List.getElem?_eq_getElem h]
    exact hb _ (List.getElem_mem h)
  · rw [List.getElem?_eq_none h]
    exact ⟨Int.le_refl 0, by decide⟩
theorem DL_lt {l : List Int} (hb : ∀ x ∈ l, 0 ≤ x ∧ x < 256) (j : Nat) : DL l j < 256 := by
  have := rd_mem hb j
  unfold DL
  omega
theorem DL_int {l : List Int} (hb : ∀ x ∈ l, 0 ≤ x ∧ x < 256) (j : Nat) : ((DL l j : Nat) : Int) = rd l (j : Int) := by
  have := rd_mem hb j
  unfold DL
  omega
theorem spot_none {w : World} {a : Addr} {v : Value} (h : w.cell? a = some v) : a.spot = none := by
  unfold World.cell? at h
  split at h
  · split at h
    · cases h
    · next h' => simpa using h'
  · cases h
theorem cellI {w : World} {A : Option Addr} {l : List Int} (h : Kd.C (Kd.int .u8) w A l.length l) (hl : 0 < l.length) : ∃ ad, A = some ad ∧ ∀ i : Nat, i < l.length → w.cell? (ad.add i) = some (.int .u8 (rd l (i : Int))) := by
  obtain ⟨ad, e, hx⟩ := Kd.at_int h 0 (by omega) (by omega)
  refine ⟨ad, e, fun i hi => ?_⟩
  obtain ⟨ad', e', hx'⟩ := Kd.at_int h (i : Int) (by omega) (by omega)
  rw [e] at e'
  injection e' with e'
  rw [e']
  exact hx'
theorem row_of_kd {w : World} {A : Option Addr} {l : List Int} (h : Kd.C (Kd.int .u8) w A l.length l) (hb : ∀ x ∈ l, 0 ≤ x ∧ x < 256) : Row w A l.length (DL l) := by
  refine ⟨DL_lt hb, fun hl => ?_⟩
  obtain ⟨ad, rfl, hc⟩ := cellI h hl
  have hs : ad.spot = none := spot_none (a := ad) (hc 0 hl)
  obtain ⟨B, O, sp⟩ := ad
  obtain rfl : sp = none := hs
  refine ⟨B, O, rfl, fun j hj => ?_, DL_lt hb⟩
  have := hc j hj
  rw [add_none] at this
  rw [this, DL_int hb]
/-- Where the bits are there: whether all are alike; of other places nothing is said. -/
def impl_SameBits.f (l0 l1 : List Int) (a2 a3 a4 : Int) : Option Bool :=
  if 0 ≤ a2 ∧ 0 ≤ a3 ∧ 0 ≤ a4 ∧ a2 + a4 ≤ 8 * (l0.length : Int) ∧ a3 + a4 ≤ 8 * (l1.length : Int) ∧ l0.length < 2 ^ 36 ∧ l1.length < 2 ^ 36 ∧ (∀ x ∈ l0, 0 ≤ x ∧ x < 256) ∧ (∀ x ∈ l1, 0 ≤ x ∧ x < 256) then some (pk (DL l0) a2.toNat a4.toNat == pk (DL l1) a3.toNat a4.toNat) else none
theorem eq23 (A0 A1 : Option Addr) (m0 m1 c0 c1 p q n : Nat) (D0 D1 : Nat → Nat) (w : World) (hT : TabAt w) (hr0 : Row w A0 m0 D0) (hr1 : Row w A1 m1 D1) (hm0 : m0 ≤ c0) (hm1 : m1 ≤ c1) (h0 : p + n ≤ 8 * m0) (h1 : q + n ≤ 8 * m1) (l0 : m0 < 2 ^ 36) (l1 : m1 < 2 ^ 36) (z : Bool) (hz : z = true ↔ Same D0 D1 p q n) :
    Calls Tryd.prog 23 #[.slice A0 m0 c0, .slice A1 m1 c1, .int .i64 (p : Int), .int .i64 (q : Int), .int .i64 (n : Int)] w fun e w' => e = .returned (.bool z) ∧ Below w.heap.size w w' := by
  by_cases hu : p % 8 = 0 ∧ q % 8 = 0
  · exact eq23a A0 A1 m0 m1 c0 c1 p q (p / 8) (q / 8) n D0 D1 w hT hr0 hr1 (by omega) (by omega) hm0 hm1 h0 h1 l0 l1 z hz
  · rcases Nat.eq_zero_or_pos n with rfl | hn
    · obtain rfl := hz.2 (Same.zero _ _ _ _)
      exact eq23z A0 A1 m0 m1 c0 c1 p q w hm0 hm1 (by omega) (by omega) (by omega) (by omega) hu
    · obtain ⟨B0, O0, rfl, d0⟩ := hr0.2 (by omega)
      obtain ⟨B1, O1, rfl, d1⟩ := hr1.2 (by omega)
      exact eq23c B0 O0 m0 c0 B1 O1 m1 c1 p q n D0 D1 w d0 d1 hm0 hm1 hn h0 h1 l0 l1 hu z hz
theorem catch22 (p : Addr) (w : World) :
    CallsD Tryd.prog 22 #[.pointer (some p)] .returning w fun e u' w' => e = .returned (.tuple #[]) ∧ u' = .returning ∧ w = w' := by
  refine callsD_of_wpS Tryd.func22 rfl fun c₀ cs hu => ?_
  apply wpS_seq
  apply wpS_region
  simp [wpOpsS, go_sem, recoverD, hu, Tryd.ntmps22, Exit.thenS]
  refine wpS_cond (t := false) (by simp [Act.eval, Array.replicate]) ?_
  simp only [Bool.false_eq_true, if_false]
  refine wpS_of_wp (wp_skip ?_)
  cases c₀
  simp_all [bodyPostS, results, Tryd.results22]
set_option maxHeartbeats 4000000 in
theorem same12 (S0 S1 : Value) (a2 a3 a4 : Int) (z : Bool) (w : World)
    (h : ∀ W, Below w.heap.size w W → Calls Tryd.prog 23 #[S0, S1, .int .i64 a2, .int .i64 a3, .int .i64 a4] W fun e w' => e = .returned (.bool z) ∧ Below W.heap.size W w') :
    Calls Tryd.prog 12 #[S0, S1, .int .i64 a2, .int .i64 a3, .int .i64 a4] w fun e w' => e = .returned (.bool z) ∧ Below w.heap.size w w' := by
  go_enter_defers Tryd.func12, Tryd.ntmps12
  go_wp2_with (go_at_call 23; fail)
  refine calls_at ?_
  intro w0 hw0
  have B0 : w0.heap[w.heap.size]? = some (.cells #[.bool false] 4 (0, 0)) := by rw [hw0]; exact blk_new_at rfl
  have b0 : Below w.heap.size w w0 := by rw [hw0]; exact (Below.refl _ _).alloc (Nat.le_refl _) _
  clear hw0
  refine (h w0 b0).mono ?_
  rintro e w1 ⟨rfl, b1⟩
  clear h
  have B1 := blk_below B0 b1
  have b2 := Tch.below b0 (Tch.of_below (S := fun _ => False) b1) b0.size (fun _ h => h.elim)
  clear B0 b0 b1
  have c1 : w1.cell? ⟨w.heap.size, 0, none⟩ = some (.bool false) := (blk_cell B1 0).trans rfl
  have f1 := blk_frozen B1 0
  have H := Lib.hid (And.intro B1 b2)
  clear B1 b2
  go_wp2
  refine leaves_cons (f := 22) (args := #[.pointer (some ⟨w.heap.size, 0, none⟩)]) (by simp) (by simp [go_sem]) ?_
  refine (catch22 _ _).mono ?_
  rintro e u' w'' ⟨rfl, rfl, rfl⟩
  obtain ⟨B1, b2⟩ := H.out
  have B2 : (w1.setCell ⟨w.heap.size, 0, none⟩ (.bool z)).heap[w.heap.size]? = some (.cells #[.bool z] 4 (0, 0)) := blk_put_at B1 rfl
  have cN := (blk_cell B2 0).trans (show _ = some (Value.bool z) from rfl)
  simp [Leaves, settle, results, Tryd.results12, go_sem, cN]
  exact b2.setCell (Nat.le_refl _) _
theorem impl_SameBits.calls (A0 : Option Addr) (c0 : Nat) (l0 : List Int) (A1 : Option Addr) (c1 : Nat) (l1 : List Int) (a2 a3 a4 : Int) (r : Bool) (w : World) (hT : TabAt w) (hr0 : Kd.C (Kd.int .u8) w A0 l0.length l0) (hc0 : l0.length ≤ c0) (hr1 : Kd.C (Kd.int .u8) w A1 l1.length l1) (hc1 : l1.length ≤ c1) (h : impl_SameBits.f l0 l1 a2 a3 a4 = some r) :
    Calls Tryd.prog 12 #[.slice A0 l0.length c0, .slice A1 l1.length c1, .int .i64 a2, .int .i64 a3, .int .i64 a4] w fun e w' => e = .returned (.bool r) ∧ Below w.heap.size w w' := by
  unfold impl_SameBits.f at h
  split at h
  · next c =>
    obtain ⟨h2, h3, h4, e0, e1, g0, g1, y0, y1⟩ := c
    obtain ⟨p, rfl⟩ := Int.eq_ofNat_of_zero_le h2
    obtain ⟨q, rfl⟩ := Int.eq_ofNat_of_zero_le h3
    obtain ⟨n, rfl⟩ := Int.eq_ofNat_of_zero_le h4
    injection h with h
    simp only [Int.toNat_natCast] at h
    refine same12 _ _ _ _ _ r w (fun W hb => ?_)
    refine eq23 A0 A1 l0.length l1.length c0 c1 p q n (DL l0) (DL l1) W (hT.tch (Tch.of_below (S := fun _ => False) hb) (fun h => h)) ((row_of_kd hr0 y0).below hb) ((row_of_kd hr1 y1).below hb) hc0 hc1 (by omega) (by omega) g0 g1 r ?_
    rw [← h, beq_iff_eq]
    exact same_pk
  · cases h
end Go.Proofs.YthgbfmcicpmepaaDoor.V
