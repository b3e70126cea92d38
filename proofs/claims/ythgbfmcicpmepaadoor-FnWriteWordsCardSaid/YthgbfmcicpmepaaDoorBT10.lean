/- bitutil.BitmapEquals at places of whole bytes, and of no bits. -/
import Derived.Test.YthgbfmcicpmepaaDoorBT9
namespace Go.Proofs.YthgbfmcicpmepaaDoor.V
open Go.RowKit Go.Proofs.YthgbfmcicpmepaaDoor.B Go.Proofs.YthgbfmcicpmepaaDoorW.PrintWords Go.Proofs.YthgbfmcicpmepaaDoorW.PrintLast Go.Proofs.YthgbfmcicpmepaaDoorW.PrintMore
set_option linter.unusedVariables false
set_option linter.unusedSimpArgs false
theorem same_bytes {D E : Nat → Nat} {P Q nb : Nat} (hD : ∀ j, D j < 256) (hE : ∀ j, E j < 256) : Same D E (8 * P) (8 * Q) (8 * nb) ↔ ∀ j, j < nb → D (P + j) = E (Q + j) := by
  induction nb with
  | zero => exact ⟨fun _ j hj => by omega, fun _ => Same.zero _ _ _ _⟩
  | succ m ih =>
    rw [show 8 * (m + 1) = 8 * m + 8 by omega, same_add, ih, show 8 * P + 8 * m = 8 * (P + m) by omega, show 8 * Q + 8 * m = 8 * (Q + m) by omega, ← same_pk, pk_byte D _ (hD _), pk_byte E _ (hE _)]
    constructor
    · rintro ⟨h1, h2⟩ j hj
      by_cases hjm : j < m
      · exact h1 j hjm
      · obtain rfl : j = m := by omega
        exact h2
    · intro h
      exact ⟨fun j hj => h j (by omega), h m (by omega)⟩
/-- One bit of a row that may be empty. -/
theorem bit41r (A : Option Addr) (m c i : Nat) (D : Nat → Nat) (w : World) (hT : TabAt w) (hD : Row w A m D) (hm : m ≤ c) (hi : i < 8 * m) (hl : m < 2 ^ 36) :
    Calls Tryd.prog 41 #[.slice A m c, .int .i64 (i : Int)] w fun e w' => e = .returned (.bool (bitD D i)) ∧ Below w.heap.size w w' := by
  obtain ⟨B, O, rfl, hd⟩ := hD.2 (by omega)
  exact bit41 B O m D O c m i w hT hd rfl (by omega) (by omega) (by omega)
theorem Row.below {w w' : World} {A : Option Addr} {m : Nat} {D : Nat → Nat} (h : Row w A m D) (hb : Below w.heap.size w w') : Row w' A m D :=
  ⟨h.1, fun hm => by
    obtain ⟨B, O, e, hd⟩ := h.2 hm
    exact ⟨B, O, e, hd.tch (Tch.of_below (S := fun _ => False) hb) (fun h => h)⟩⟩
theorem new42e (A : Option Addr) (m c p : Nat) (w : World) (hm : m ≤ c) (hc : p ≤ 8 * m) (hp : m < 2 ^ 40) :
    Calls Tryd.prog 42 #[.slice A m c, .int .i64 (p : Int), .int .i64 0] w fun e w' => e = .returned (.pointer (some ⟨w.heap.size, 0, none⟩)) ∧ Below w.heap.size w w' ∧ w'.cell? ⟨w.heap.size, 2, none⟩ = some (.int .i64 0) ∧ w'.cell? ⟨w.heap.size, 4, none⟩ = some (.int .i64 0) := by
  obtain ⟨L, hL⟩ : ∃ L, L = (p % 8 + 7) / 8 := ⟨_, rfl⟩
  have l2 : p / 8 + L ≤ c := by omega
  have l8 : L ≤ 1 := by omega
  have l5 : (p : Int) / 8 + (L : Int) ≤ (c : Int) := by omega
  have l6 : (p : Int) / 8 ≤ (c : Int) := by omega
  have hP : ∀ W, Calls Tryd.prog 34 #[.int .i64 ((p : Int) % 8)] W fun e w' => e = .returned (.int .i64 (L : Int)) ∧ W = w' := fun W => by
    have := by34 (p % 8) W (by omega)
    rw [← hL, show ((p % 8 : Nat) : Int) = (p : Int) % 8 by omega] at this
    exact this
  have hQ : ∀ W, Calls Tryd.prog 34 #[.int .i64 0] W fun e w' => e = .returned (.int .i64 0) ∧ W = w' := fun W => by34 0 W (by omega)
  by_cases hz : p / 8 < c
  · have l7 : ¬ c = p / 8 := by omega
    clear hL
    go_enter Tryd.func42, Tryd.ntmps42
    go_wp2_with (first | (go_at_call 34; (with_reducible refine (hP _).mono ?_); rintro e w1 ⟨rfl, rfl⟩))
    refine calls_at ?_
    intro w1 hw1
    have b1 : Below w.heap.size w w1 := by rw [hw1]; exact (Below.refl _ _).alloc (Nat.le_refl _) _
    obtain ⟨X, Y, B1⟩ : ∃ X Y, w1.heap[w.heap.size]? = some (.cells #[X, Y, .int .i64 0, .int .i64 0, .int .i64 0, .int .u64 0] 77 (0, 0)) := ⟨_, _, by rw [hw1]; exact blk_new_at rfl⟩
    clear hw1
    refine (hQ w1).mono ?_
    rintro e w2 ⟨rfl, rfl⟩
    have h2 : w1.cell? ⟨w.heap.size, 2, none⟩ = some (.int .i64 0) := (blk_cell B1 2).trans rfl
    have h4 : w1.cell? ⟨w.heap.size, 4, none⟩ = some (.int .i64 0) := (blk_cell B1 4).trans rfl
    have f4 := blk_frozen B1 4
    have H1 := Lib.hid (And.intro b1 B1)
    clear b1 B1
    go_wp2
    go_ret
    obtain ⟨b1, B1⟩ := H1.out
    have B2 := blk_put B1 4 (.int .i64 0) rfl
    exact ⟨rfl, b1.setCell (Nat.le_refl _) _, (blk_cell B2 2).trans rfl, (blk_cell B2 4).trans rfl⟩
  · have l7 : c = p / 8 := by omega
    have l9 : (p : Int) % 8 = 0 := by omega
    clear hL
    go_enter Tryd.func42, Tryd.ntmps42
    go_wp2_with (first | (go_at_call 34; (with_reducible refine (hQ _).mono ?_); rintro e w1 ⟨rfl, rfl⟩))
    go_ret
    refine ⟨rfl, ?_, ?_, ?_⟩
    · exact (Below.refl _ _).alloc (Nat.le_refl _) _
    · exact (blk_cell (blk_new_at rfl) 2).trans rfl
    · exact (blk_cell (blk_new_at rfl) 4).trans rfl
set_option maxHeartbeats 4000000 in
theorem eq23z (A0 A1 : Option Addr) (m0 m1 c0 c1 p q : Nat) (w : World) (hm0 : m0 ≤ c0) (hm1 : m1 ≤ c1) (h0 : p ≤ 8 * m0) (h1 : q ≤ 8 * m1) (l0 : m0 < 2 ^ 40) (l1 : m1 < 2 ^ 40) (hu : ¬ (p % 8 = 0 ∧ q % 8 = 0)) :
    Calls Tryd.prog 23 #[.slice A0 m0 c0, .slice A1 m1 c1, .int .i64 (p : Int), .int .i64 (q : Int), .int .i64 0] w fun e w' => e = .returned (.bool true) ∧ Below w.heap.size w w' := by
  have N0 := fun W => new42e A0 m0 c0 p W hm0 h0 l0
  have N1 := fun W => new42e A1 m1 c1 q W hm1 h1 l1
  have u0 : (p : Int) % 8 = 0 ∨ (p : Int) % 8 ≠ 0 := by omega
  have u1 : (p : Int) % 8 = 0 → (q : Int) % 8 ≠ 0 := by omega
  clear hm0 hm1 h0 h1 l0 l1 hu
  rcases u0 with u0 | u0
  · have u2 := u1 u0
    clear u1
    go_enter Tryd.func23, Tryd.ntmps23
    go_wp2_with (go_at_call 42; fail)
    refine (N0 w).mono ?_
    rintro e w1 ⟨rfl, b1, c2, c4⟩
    obtain ⟨g0, hg0⟩ : ∃ g, g = w.heap.size := ⟨_, rfl⟩
    have HA := Lib.hid (And.intro b1 (And.intro c2 c4))
    clear b1 c2 c4 N0
    go_wp2_with (go_at_call 42; fail)
    refine (N1 w1).mono ?_
    rintro e w2 ⟨rfl, b2, -, -⟩
    clear N1
    have HB : Hid (Below w.heap.size w w2 ∧ w2.cell? ⟨w.heap.size, 2, none⟩ = some (.int .i64 0) ∧ w2.cell? ⟨w.heap.size, 4, none⟩ = some (.int .i64 0)) := by
      obtain ⟨b1, c2, c4⟩ := HA.out
      exact Lib.hid ⟨Tch.below b1 (Tch.of_below (S := fun _ => False) b2) b1.size (fun _ h => h.elim), (Tch.of_below (S := fun _ => False) b2).cell c2 (fun h => h), (Tch.of_below (S := fun _ => False) b2).cell c4 (fun h => h)⟩
    clear HA b2
    go_wp2_with (go_at_call 43; fail)
    refine (words43 _ _ w2 HB.out.2.1).mono ?_
    rintro e w3 ⟨rfl, rfl⟩
    go_wp2_with fail
    go_loopg [17] 0 (fun kq v17 wr => v17 = .int .i64 0 ∧ Aside0 (wr = w2))
    case atStart => exact ⟨rfl, ⟨rfl⟩⟩
    case round =>
      obtain ⟨rfl, HA⟩ := hrel
      obtain rfl := HA.out
      go_wp2_with (go_at_call 45; fail)
      refine (bytes45 _ _ wr HB.out.2.2).mono ?_
      rintro e w3 ⟨rfl, rfl⟩
      go_wp2_with fail
      go_loopg [18] 0 (fun kq v18 wr2 => v18 = .int .i64 0 ∧ Aside0 (Below w.heap.size w wr2))
      case atStart => exact ⟨rfl, ⟨HB.out.1⟩⟩
      case round =>
        obtain ⟨rfl, HA⟩ := hrel
        go_wp2
        go_ret
        exact ⟨rfl, HA.out⟩
  · clear u1
    go_enter Tryd.func23, Tryd.ntmps23
    go_wp2_with (go_at_call 42; fail)
    refine (N0 w).mono ?_
    rintro e w1 ⟨rfl, b1, c2, c4⟩
    obtain ⟨g0, hg0⟩ : ∃ g, g = w.heap.size := ⟨_, rfl⟩
    have HA := Lib.hid (And.intro b1 (And.intro c2 c4))
    clear b1 c2 c4 N0
    go_wp2_with (go_at_call 42; fail)
    refine (N1 w1).mono ?_
    rintro e w2 ⟨rfl, b2, -, -⟩
    clear N1
    have HB : Hid (Below w.heap.size w w2 ∧ w2.cell? ⟨w.heap.size, 2, none⟩ = some (.int .i64 0) ∧ w2.cell? ⟨w.heap.size, 4, none⟩ = some (.int .i64 0)) := by
      obtain ⟨b1, c2, c4⟩ := HA.out
      exact Lib.hid ⟨Tch.below b1 (Tch.of_below (S := fun _ => False) b2) b1.size (fun _ h => h.elim), (Tch.of_below (S := fun _ => False) b2).cell c2 (fun h => h), (Tch.of_below (S := fun _ => False) b2).cell c4 (fun h => h)⟩
    clear HA b2
    go_wp2_with (go_at_call 43; fail)
    refine (words43 _ _ w2 HB.out.2.1).mono ?_
    rintro e w3 ⟨rfl, rfl⟩
    go_wp2_with fail
    go_loopg [17] 0 (fun kq v17 wr => v17 = .int .i64 0 ∧ Aside0 (wr = w2))
    case atStart => exact ⟨rfl, ⟨rfl⟩⟩
    case round =>
      obtain ⟨rfl, HA⟩ := hrel
      obtain rfl := HA.out
      go_wp2_with (go_at_call 45; fail)
      refine (bytes45 _ _ wr HB.out.2.2).mono ?_
      rintro e w3 ⟨rfl, rfl⟩
      go_wp2_with fail
      go_loopg [18] 0 (fun kq v18 wr2 => v18 = .int .i64 0 ∧ Aside0 (Below w.heap.size w wr2))
      case atStart => exact ⟨rfl, ⟨HB.out.1⟩⟩
      case round =>
        obtain ⟨rfl, HA⟩ := hrel
        go_wp2
        go_ret
        exact ⟨rfl, HA.out⟩
set_option maxHeartbeats 4000000 in
theorem eq23a (A0 A1 : Option Addr) (m0 m1 c0 c1 p q P Q n : Nat) (D0 D1 : Nat → Nat) (w : World) (hT : TabAt w) (hr0 : Row w A0 m0 D0) (hr1 : Row w A1 m1 D1) (hp : p = 8 * P) (hq : q = 8 * Q) (hm0 : m0 ≤ c0) (hm1 : m1 ≤ c1) (h0 : p + n ≤ 8 * m0) (h1 : q + n ≤ 8 * m1) (l0 : m0 < 2 ^ 36) (l1 : m1 < 2 ^ 36) (z : Bool) (hz : z = true ↔ Same D0 D1 p q n) :
    Calls Tryd.prog 23 #[.slice A0 m0 c0, .slice A1 m1 c1, .int .i64 (p : Int), .int .i64 (q : Int), .int .i64 (n : Int)] w fun e w' => e = .returned (.bool z) ∧ Below w.heap.size w w' := by
  obtain ⟨nb, hnb⟩ : ∃ nb, nb = n / 8 := ⟨_, rfl⟩
  have e0 : (n : Int) / 8 = (nb : Int) := by omega
  have e1 : (p : Int) / 8 = (P : Int) := by omega
  have e2 : (q : Int) / 8 = (Q : Int) := by omega
  have e3 : (p : Int) % 8 = 0 := by omega
  have e4 : (q : Int) % 8 = 0 := by omega
  have k0 : (P : Int) + (nb : Int) ≤ (c0 : Int) := by omega
  have k1 : (Q : Int) + (nb : Int) ≤ (c1 : Int) := by omega
  have k2 : P < 2 ^ 40 := by omega
  have k3 : Q < 2 ^ 40 := by omega
  have k4 : nb < 2 ^ 40 := by omega
  obtain ⟨zb, hzb⟩ : ∃ zb : Bool, zb = true ↔ ∀ j, j < nb → D0 (P + j) = D1 (Q + j) := by
    by_cases h : ∀ j, j < nb → D0 (P + j) = D1 (Q + j)
    · exact ⟨true, by simpa using h⟩
    · exact ⟨false, by simpa using h⟩
  have C40 : ∀ W, Below w.heap.size w W → Calls Tryd.prog 40 #[.slice (if c0 = P then A0 else Option.map (fun x => x.add P) A0) nb (c0 - P), .slice (if c1 = Q then A1 else Option.map (fun x => x.add Q) A1) nb (c1 - Q)] W fun e w' => e = .returned (.bool zb) ∧ Below W.heap.size W w' := fun W hb =>
    eq40 _ _ _ _ nb _ _ W ((hr0.cut c0 P nb hm0 (by omega)).below hb) ((hr1.cut c1 Q nb hm1 (by omega)).below hb) k4 zb hzb
  have C41 : ∀ W i, i < n → Below w.heap.size w W → Calls Tryd.prog 41 #[.slice A0 m0 c0, .int .i64 ((p + i : Nat) : Int)] W (fun e w' => e = .returned (.bool (bitD D0 (p + i))) ∧ Below W.heap.size W w') ∧ ∀ W', Below W.heap.size W W' → Calls Tryd.prog 41 #[.slice A1 m1 c1, .int .i64 ((q + i : Nat) : Int)] W' (fun e w' => e = .returned (.bool (bitD D1 (q + i))) ∧ Below W'.heap.size W' w') := fun W i hi hb =>
    ⟨bit41r A0 m0 c0 (p + i) D0 W (hT.tch (Tch.of_below (S := fun _ => False) hb) (fun h => h)) (hr0.below hb) hm0 (by omega) l0, fun W' hb' => by
      have hb2 := Tch.below hb (Tch.of_below (S := fun _ => False) hb') hb.size (fun _ h => h.elim)
      exact bit41r A1 m1 c1 (q + i) D1 W' (hT.tch (Tch.of_below (S := fun _ => False) hb2) (fun h => h)) (hr1.below hb2) hm1 (by omega) l1⟩
  have SM : Same D0 D1 p q (8 * nb) ↔ zb = true := by rw [hzb, hp, hq]; exact same_bytes hr0.1 hr1.1
  have HH := Lib.hid (And.intro hnb (And.intro SM (And.intro hz (And.intro (show n < 2 ^ 40 by omega) (And.intro (show p < 2 ^ 40 by omega) (show q < 2 ^ 40 by omega))))))
  clear hp hq hnb hm0 hm1 h0 h1 hT hr0 hr1 hzb SM hz l0 l1
  go_enter Tryd.func23, Tryd.ntmps23
  go_upto_region 5 with fail
  refine wp_at ?_
  intro w2 hw2
  have b2 : Below w.heap.size w w2.drew := by rw [hw2]; exact (Below.refl _ _).drew
  clear hw2
  have a0 : 0 ≤ (P : Int) + (nb : Int) := by omega
  have a1 : (P : Int) + (nb : Int) < 2 ^ 62 := by omega
  have a2 : 0 ≤ (Q : Int) + (nb : Int) := by omega
  have a3 : (Q : Int) + (nb : Int) < 2 ^ 62 := by omega
  have a4 : (P : Int) ≤ (P : Int) + (nb : Int) := by omega
  have a5 : ((P : Int) + (nb : Int)).toNat - P = nb := by omega
  have a6 : (Q : Int) ≤ (Q : Int) + (nb : Int) := by omega
  have a7 : ((Q : Int) + (nb : Int)).toNat - Q = nb := by omega
  have kw0 := w64_id _ a0 a1
  have kw1 := w64_id _ a2 a3
  have HC := Lib.hid (And.intro C40 C41)
  clear C40 C41
  refine start_ (n := 14) (S := fun w' => True) (ds := []) #[false, false, false, false, false, false, false, false, false, false, false, false, false, false] (by kernel_rfl) rfl rfl trivial (fun hHeld => ?_)
  refine pure_ (i := 0) (N := some 37) (v := ?_) (a' := ?_) #[true, false, false, false, false, false, false, false, false, false, false, false, false, false] rfl rfl (by kernel_rfl) (fun _ _ _ h => h) (Or.inl ⟨by rfl, ?_⟩) ?_ ?_
  rotate_left
  · intro w'
    go_simp
    with_reducible rfl
  rotate_left
  · simp only [Act.put, s1_, s2_, s3_, i64_w, i32_w]
    rfl
  refine pure_ (i := 1) (N := some 38) (v := ?_) (a' := ?_) #[true, true, false, false, false, false, false, false, false, false, false, false, false, false] rfl rfl (by kernel_rfl) (fun _ _ _ h => h) (Or.inl ⟨by rfl, ?_⟩) ?_ ?_
  rotate_left
  · intro w'
    go_simp
    with_reducible rfl
  rotate_left
  · simp only [Act.put, s1_, s2_, s3_, i64_w, i32_w]
    rfl
  refine pure_ (i := 2) (N := some 39) (v := ?_) (a' := ?_) #[true, true, true, false, false, false, false, false, false, false, false, false, false, false] rfl rfl (by kernel_rfl) (fun _ _ _ h => h) (Or.inl ⟨by rfl, ?_⟩) ?_ ?_
  rotate_left
  · intro w'
    go_simp
    with_reducible rfl
  rotate_left
  · simp only [Act.put, s1_, s2_, s3_, i64_w, i32_w]
    rfl
  refine pure_ (i := 3) (N := some 40) (v := ?_) (a' := ?_) #[true, true, true, true, false, false, false, false, false, false, false, false, false, false] rfl rfl (by kernel_rfl) (fun _ _ _ h => h) (Or.inl ⟨by rfl, ?_⟩) ?_ ?_
  rotate_left
  · intro w'
    go_simp
    with_reducible rfl
  rotate_left
  · simp only [Act.put, s1_, s2_, s3_, i64_w, i32_w]
    rfl
  refine pure_ (i := 4) (N := some 41) (v := ?_) (a' := ?_) #[true, true, true, true, true, false, false, false, false, false, false, false, false, false] rfl rfl (by kernel_rfl) (fun _ _ _ h => h) (Or.inl ⟨by rfl, ?_⟩) ?_ ?_
  rotate_left
  · intro w'
    go_simp
    with_reducible rfl
  rotate_left
  · simp only [Act.put, s1_, s2_, s3_, i64_w, i32_w]
    rfl
  refine pure_ (i := 5) (N := some 42) (v := ?_) (a' := ?_) #[true, true, true, true, true, true, false, false, false, false, false, false, false, false] rfl rfl (by kernel_rfl) (fun _ _ _ h => h) (Or.inl ⟨by rfl, ?_⟩) ?_ ?_
  rotate_left
  · intro w'
    go_simp
    with_reducible rfl
  rotate_left
  · simp only [Act.put, s1_, s2_, s3_, i64_w, i32_w]
    rfl
  refine pure_ (i := 6) (N := some 43) (v := ?_) (a' := ?_) #[true, true, true, true, true, true, true, false, false, false, false, false, false, false] rfl rfl (by kernel_rfl) (fun _ _ _ h => h) (Or.inl ⟨by rfl, ?_⟩) ?_ ?_
  rotate_left
  · intro w'
    go_simp
    with_reducible rfl
  rotate_left
  · simp only [Act.put, s1_, s2_, s3_, i64_w, i32_w]
    rfl
  refine pure_ (i := 7) (N := some 44) (v := ?_) (a' := ?_) #[true, true, true, true, true, true, true, true, false, false, false, false, false, false] rfl rfl (by kernel_rfl) (fun _ _ _ h => h) (Or.inl ⟨by rfl, ?_⟩) ?_ ?_
  rotate_left
  · intro w'
    go_simp
    with_reducible rfl
  rotate_left
  · simp only [Act.put, s1_, s2_, s3_, i64_w, i32_w]
    rfl
  refine pure_ (i := 8) (N := some 45) (v := ?_) (a' := ?_) #[true, true, true, true, true, true, true, true, true, false, false, false, false, false] rfl rfl (by kernel_rfl) (fun _ _ _ h => h) (Or.inl ⟨by rfl, ?_⟩) ?_ ?_
  rotate_left
  · intro w'
    go_simp
    with_reducible rfl
  rotate_left
  · simp only [Act.put, s1_, s2_, s3_, i64_w, i32_w]
    rfl
  refine pure_ (i := 9) (N := some 46) (v := ?_) (a' := ?_) #[true, true, true, true, true, true, true, true, true, true, false, false, false, false] rfl rfl (by kernel_rfl) (fun _ _ _ h => h) (Or.inl ⟨by rfl, ?_⟩) ?_ ?_
  rotate_left
  · intro w'
    go_simp
    with_reducible rfl
  rotate_left
  · simp only [Act.put, s1_, s2_, s3_, i64_w, i32_w]
    rfl
  refine pure_ (i := 10) (N := some 47) (v := ?_) (a' := ?_) #[true, true, true, true, true, true, true, true, true, true, true, false, false, false] rfl rfl (by kernel_rfl) (fun _ _ _ h => h) (Or.inl ⟨by rfl, ?_⟩) ?_ ?_
  rotate_left
  · intro w'
    go_simp
    with_reducible rfl
  rotate_left
  · simp only [Act.put, s1_, s2_, s3_, i64_w, i32_w]
    rfl
  refine pure_ (i := 11) (N := some 48) (v := ?_) (a' := ?_) #[true, true, true, true, true, true, true, true, true, true, true, true, false, false] rfl rfl (by kernel_rfl) (fun _ _ _ h => h) (Or.inl ⟨by rfl, ?_⟩) ?_ ?_
  rotate_left
  · intro w'
    go_simp
    with_reducible rfl
  rotate_left
  · simp only [Act.put, s1_, s2_, s3_, i64_w, i32_w]
    rfl
  clear kw0 kw1 a0 a1 a2 a3 a4 a5 a6 a7
  refine one_ (i := 12) (N := some 49) #[true, true, true, true, true, true, true, true, true, true, true, true, true, false] rfl rfl (by kernel_rfl) (by decide) (fun K hK => ?_)
  refine goes_ Tryd.func40 (by kernel_rfl) rfl #[(.slice (if c0 = P then A0 else Option.map (fun x => x.add P) A0) nb (c0 - P)), (.slice (if c1 = Q then A1 else Option.map (fun x => x.add Q) A1) nb (c1 - Q))] (by rfl) rfl rfl (by (try simp only [List.map_toArray, List.map_cons, List.map_nil]); rfl) ?_
  refine (HC.out.1 w2.drew b2).mono ?_
  rintro e w3 ⟨rfl, b3⟩
  refine ⟨_, rfl, ?_⟩
  have b3 := Tch.below b2 (Tch.of_below (S := fun _ => False) b3) b2.size (fun _ h => h.elim)
  refine hK.out _ _ trivial (fun hHeld => ?_)
  clear hK K hHeld b2
  refine norm_ (a' := ?_) ?_ ?_
  rotate_left
  · show Act.put _ (some 49) _ = _
    simp only [Act.put, s1_, s2_, s3_]
    rfl
  refine pure_ (i := 13) (N := some 50) (v := ?_) (a' := ?_) #[true, true, true, true, true, true, true, true, true, true, true, true, true, true] rfl rfl (by kernel_rfl) (fun _ _ _ h => h) (Or.inl ⟨by rfl, ?_⟩) ?_ ?_
  rotate_left
  · intro w'
    go_simp
    with_reducible rfl
  rotate_left
  · simp only [Act.put, s1_, s2_, s3_, i64_w, i32_w]
    rfl
  refine done_ (by kernel_rfl) ?_
  clear hHeld
  have C41 := HC.out.2
  clear HC
  generalize (if c0 = P then A0 else Option.map (fun x => x.add P) A0) = X0
  generalize (if c1 = Q then A1 else Option.map (fun x => x.add Q) A1) = X1
  have HC := Lib.hid C41
  clear C41
  cases zb with
  | false =>
    go_wp2
    go_ret
    refine ⟨?_, b3⟩
    obtain ⟨hnb, SM, hz, -⟩ := HH.out
    rw [no_z hz (fun h => by have := SM.1 (fun i hi => h i (by omega)); cases this)]
    rfl
  | true =>
    go_wp2_with fail
    go_loopg [14] (n - 8 * nb) (fun kq v14 wr => ∃ i : Nat, v14 = .int .i64 (i : Int) ∧ Aside0 (i + kq = n ∧ Below w.heap.size w wr ∧ Same D0 D1 p q i))
    case atStart => exact ⟨8 * nb, by rw [show ((8 * nb : Nat) : Int) = (nb : Int) * 8 by omega], ⟨by have := HH.out.1; omega, b3, HH.out.2.1.2 (by first | rfl | trivial)⟩⟩
    case round =>
      clear b3
      obtain ⟨i, rfl, HA⟩ := hrel
      by_cases hi : i < n
      · have hi1 : (i : Int) < (n : Int) := by omega
        have hi3 : i < 2 ^ 40 := by have := HH.out.2.2.2.1; omega
        have hi4 : p < 2 ^ 40 := HH.out.2.2.2.2.1
        have hi5 : q < 2 ^ 40 := HH.out.2.2.2.2.2
        obtain ⟨x, y, HC2⟩ : ∃ x y : Bool, Hid (i + gk = n ∧ Below w.heap.size w wr ∧ Same D0 D1 p q i ∧ x = bitD D0 (p + i) ∧ y = bitD D1 (q + i) ∧ Calls Tryd.prog 41 #[.slice A0 m0 c0, .int .i64 ((p : Int) + (i : Int))] wr (fun e w' => e = .returned (.bool x) ∧ Below wr.heap.size wr w') ∧ ∀ W', Below wr.heap.size wr W' → Calls Tryd.prog 41 #[.slice A1 m1 c1, .int .i64 ((q : Int) + (i : Int))] W' (fun e w' => e = .returned (.bool y) ∧ Below W'.heap.size W' w')) := by
          obtain ⟨hk, bw, sm⟩ := HA.out
          exact ⟨_, _, Lib.hid ⟨hk, bw, sm, rfl, rfl, HC.out wr i hi bw⟩⟩
        clear HA HC hi
        go_wp2_with (go_at_call 41; fail)
        refine (HC2.out.2.2.2.2.2.1).mono ?_
        rintro e w5 ⟨rfl, b5⟩
        have H5 := Lib.hid b5
        clear b5
        go_wp2_with (go_at_call 41; fail)
        refine (HC2.out.2.2.2.2.2.2 w5 H5.out).mono ?_
        rintro e w6 ⟨rfl, b6⟩
        have HE : Hid (i + gk = n ∧ Below w.heap.size w w6 ∧ Same D0 D1 p q i ∧ x = bitD D0 (p + i) ∧ y = bitD D1 (q + i)) := by
          obtain ⟨hk, bw, sm, hx, hy, -, -⟩ := HC2.out
          have bw5 := Tch.below bw (Tch.of_below (S := fun _ => False) H5.out) bw.size (fun _ h => h.elim)
          exact Lib.hid ⟨hk, Tch.below bw5 (Tch.of_below (S := fun _ => False) b6) bw5.size (fun _ h => h.elim), sm, hx, hy⟩
        clear HC2 H5 b6
        by_cases hxy : x = y
        · subst hxy
          have hxx : (x != x) = false := by cases x <;> rfl
          go_wp2_with fail
          go_roundg (gk - 1)
          case measure => have := HE.out.1; omega
          case rel =>
            obtain ⟨hk, bw, sm, hx, hy⟩ := HE.out
            exact ⟨i + 1, by rw [show ((i + 1 : Nat) : Int) = (i : Int) + 1 by omega], ⟨by omega, bw, same_add.2 ⟨sm, fun j hj => by rw [show j = 0 by omega, Nat.add_zero, Nat.add_zero, ← hx, ← hy]⟩⟩⟩
        · have hxz : (x == y) = false := by cases x <;> cases y <;> first | rfl | exact absurd rfl hxy
          have hxx : (x != y) = true := by cases x <;> cases y <;> first | rfl | exact absurd rfl hxy
          go_wp2
          go_ret
          obtain ⟨hk, bw, sm, hx, hy⟩ := HE.out
          exact ⟨by rw [no_z HH.out.2.2.1 (fun h => hxy (by rw [hx, hy]; exact h i (by omega)))]; rfl, bw⟩
      · have hi1 : ¬ (i : Int) < (n : Int) := by omega
        go_wp2
        go_ret
        obtain ⟨hk, bw, sm⟩ := HA.out
        rw [show i = n by omega] at sm
        exact ⟨by rw [HH.out.2.2.1.2 sm]; rfl, bw⟩
end Go.Proofs.YthgbfmcicpmepaaDoor.V
