/- bitutil.BitmapEquals: two ranges of bits are compared. -/
import Derived.Test.YthgbfmcicpmepaaDoorBT8
namespace Go.Proofs.YthgbfmcicpmepaaDoor.V
open Go.RowKit Go.Proofs.YthgbfmcicpmepaaDoor.B Go.Proofs.YthgbfmcicpmepaaDoorW.PrintWords Go.Proofs.YthgbfmcicpmepaaDoorW.PrintLast Go.Proofs.YthgbfmcicpmepaaDoorW.PrintMore
set_option linter.unusedVariables false
set_option linter.unusedSimpArgs false
theorem rs_tail (g B O E : Nat) (D : Nat → Nat) (s o k tb v : Nat) (nw tB : Int) (w : World) (hD : Dat w B O E D) (hg : B ≠ g) (h : Rs w g B O E D s o nw (tb : Int) tB k) (hs : s + (o + tb + 7) / 8 ≤ E) (ho : o < 8) (hE : E < 2 ^ 40) (h0 : 0 < tb) (ht2 : tb < 2 ^ 40) (hB : 0 ≤ tB) (hB2 : tB < 2 ^ 40) (hv : v = min 8 tb) :
    Calls Tryd.prog 46 #[.pointer (some ⟨g, 0, none⟩)] w fun e w' => e = .returned (.tuple #[.int .u8 (pk D (8 * s + o) v : Nat), .int .i64 v]) ∧ Tch (fun k => k = g) w w' ∧ (8 < tb → Rs w' g B O E D (s + 1) o nw ((tb - 8 : Nat) : Int) (tB - 1) 0) := by
  by_cases h8 : 8 < tb
  · obtain rfl : v = 8 := by omega
    refine (rs_byte g B O E D s o k tb nw tB w hD hg h (by omega) ho hE h8 ht2 hB hB2).mono ?_
    rintro e w' ⟨rfl, T, hr⟩
    exact ⟨rfl, T, fun _ => hr⟩
  · obtain rfl : v = tb := by omega
    refine (rs_last g B O E D s o k v nw tB w hD hg h hs ho hE h0 (by omega)).mono ?_
    rintro e w' ⟨rfl, T⟩
    exact ⟨rfl, T, fun h => absurd h h8⟩
theorem same_part {D E : Nat → Nat} {p q n a b : Nat} (h : Same D E p q n) (hab : a + b ≤ n) : pk D (p + a) b = pk E (q + a) b := same_pk.2 (fun i hi => by
  rw [Nat.add_assoc, Nat.add_assoc]
  exact h (a + i) (by omega))
theorem no_z {z : Bool} {P : Prop} (hz : z = true ↔ P) (h : ¬ P) : z = false := by
  cases z
  · rfl
  · exact absurd (hz.1 rfl) h
set_option maxHeartbeats 4000000 in
theorem eq23c (B0 O0 m0 c0 B1 O1 m1 c1 p q n : Nat) (D0 D1 : Nat → Nat) (w : World) (hD0 : Dat w B0 O0 m0 D0) (hD1 : Dat w B1 O1 m1 D1) (hc0 : m0 ≤ c0) (hc1 : m1 ≤ c1) (hn : 0 < n) (h0 : p + n ≤ 8 * m0) (h1 : q + n ≤ 8 * m1) (l0 : m0 < 2 ^ 36) (l1 : m1 < 2 ^ 36) (hu : ¬ (p % 8 = 0 ∧ q % 8 = 0)) (z : Bool) (hz : z = true ↔ Same D0 D1 p q n) :
    Calls Tryd.prog 23 #[.slice (some ⟨B0, O0, none⟩) m0 c0, .slice (some ⟨B1, O1, none⟩) m1 c1, .int .i64 (p : Int), .int .i64 (q : Int), .int .i64 (n : Int)] w fun e w' => e = .returned (.bool z) ∧ Below w.heap.size w w' := by
  obtain ⟨s0, hs0⟩ : ∃ s, s = p / 8 := ⟨_, rfl⟩
  obtain ⟨o0, ho0⟩ : ∃ o, o = p % 8 := ⟨_, rfl⟩
  obtain ⟨s1, hs1⟩ : ∃ s, s = q / 8 := ⟨_, rfl⟩
  obtain ⟨o1, ho1⟩ : ∃ o, o = q % 8 := ⟨_, rfl⟩
  obtain ⟨nw, hnw⟩ : ∃ k, k = n / 64 - 1 := ⟨_, rfl⟩
  obtain ⟨t, ht⟩ : ∃ k, k = n - 64 * nw := ⟨_, rfl⟩
  obtain ⟨E0, hE0⟩ : ∃ k, k = s0 + (o0 + n + 7) / 8 := ⟨_, rfl⟩
  obtain ⟨E1, hE1⟩ : ∃ k, k = s1 + (o1 + n + 7) / 8 := ⟨_, rfl⟩
  obtain ⟨tB, htB⟩ : ∃ k, k = (t + 7) / 8 := ⟨_, rfl⟩
  have N0 : ∀ W, Below w.heap.size w W → Calls Tryd.prog 42 #[.slice (some ⟨B0, O0, none⟩) m0 c0, .int .i64 (p : Int), .int .i64 (n : Int)] W fun e w' => e = .returned (.pointer (some ⟨W.heap.size, 0, none⟩)) ∧ Below W.heap.size W w' ∧ Rs w' W.heap.size B0 O0 E0 D0 s0 o0 (nw : Int) (t : Int) (tB : Int) nw := fun W hb => by
    rw [hE0, htB]
    exact rs_new B0 O0 m0 D0 c0 p n s0 o0 nw t W (hD0.tch (Tch.of_below (S := fun _ => False) hb) (fun h => h)) hc0 hn hs0 ho0 hnw ht h0 (by omega)
  have N1 : ∀ W, Below w.heap.size w W → Calls Tryd.prog 42 #[.slice (some ⟨B1, O1, none⟩) m1 c1, .int .i64 (q : Int), .int .i64 (n : Int)] W fun e w' => e = .returned (.pointer (some ⟨W.heap.size, 0, none⟩)) ∧ Below W.heap.size W w' ∧ Rs w' W.heap.size B1 O1 E1 D1 s1 o1 (nw : Int) (t : Int) (tB : Int) nw := fun W hb => by
    rw [hE1, htB]
    exact rs_new B1 O1 m1 D1 c1 q n s1 o1 nw t W (hD1.tch (Tch.of_below (S := fun _ => False) hb) (fun h => h)) hc1 hn hs1 ho1 hnw ht h1 (by omega)
  have dat0 : ∀ W, Below w.heap.size w W → Dat W B0 O0 E0 D0 := fun W hb => (hD0.tch (Tch.of_below (S := fun _ => False) hb) (fun h => h)).less (by omega)
  have dat1 : ∀ W, Below w.heap.size w W → Dat W B1 O1 E1 D1 := fun W hb => (hD1.tch (Tch.of_below (S := fun _ => False) hb) (fun h => h)).less (by omega)
  have b0 : B0 < w.heap.size := World.block_lt_of_cell? w ⟨B0, O0, none⟩ (hD0.at_ 0 O0 (by omega) rfl)
  have b1 : B1 < w.heap.size := World.block_lt_of_cell? w ⟨B1, O1, none⟩ (hD1.at_ 0 O1 (by omega) rfl)
  have q0 : 8 * s0 + o0 = p := by omega
  have q1 : 8 * s1 + o1 = q := by omega
  have F : n = 64 * nw + t ∧ 0 < t ∧ (0 < nw → 64 ≤ t) ∧ t < 128 ∧ o0 < 8 ∧ o1 < 8 ∧ E0 < 2 ^ 40 ∧ E1 < 2 ^ 40 ∧ nw < 2 ^ 40 := by omega
  have HF := Lib.hid (And.intro F (And.intro b0 (And.intro b1 (And.intro hE0 (And.intro hE1 (And.intro htB (And.intro q0 q1)))))))
  have HZ := Lib.hid hz
  have u0 : (p : Int) % 8 = 0 ∨ (p : Int) % 8 ≠ 0 := by omega
  have u1 : (p : Int) % 8 = 0 → (q : Int) % 8 ≠ 0 := by omega
  clear F hs0 ho0 hs1 ho1 hnw ht hE0 hE1 htB hD0 hD1 hc0 hc1 hn h0 h1 l0 l1 hu hz b0 b1 q0 q1
  rcases u0 with u0 | u0
  · have u2 := u1 u0
    clear u1
    go_enter Tryd.func23, Tryd.ntmps23
    go_wp2_with (go_at_call 42; fail)
    refine (N0 w (Below.refl _ _)).mono ?_
    rintro e w1 ⟨rfl, b1, r1⟩
    clear N0
    obtain ⟨g0, hg0⟩ : ∃ g, g = w.heap.size := ⟨_, rfl⟩
    rw [← hg0] at r1
    have HA := Lib.hid (And.intro hg0 (And.intro b1 r1))
    clear b1 r1
    simp only [← hg0]
    clear hg0
    go_wp2_with (go_at_call 42; fail)
    refine (N1 w1 HA.out.2.1).mono ?_
    rintro e w2 ⟨rfl, b2, r2⟩
    clear N1
    obtain ⟨g1, hg1⟩ : ∃ g, g = w1.heap.size := ⟨_, rfl⟩
    rw [← hg1] at r2
    have HG : Hid (g0 = w.heap.size ∧ g0 < g1 ∧ Below w.heap.size w w2 ∧ Rs w2 g0 B0 O0 E0 D0 s0 o0 (nw : Int) (t : Int) (tB : Int) nw ∧ Rs w2 g1 B1 O1 E1 D1 s1 o1 (nw : Int) (t : Int) (tB : Int) nw) := by
      obtain ⟨e, b1, r1⟩ := HA.out
      obtain ⟨c, cw, x1, x2, x3, x4, x5⟩ := id r1
      refine Lib.hid ⟨e, by rw [hg1]; exact Tch.lt x5, Tch.below b1 (Tch.of_below (S := fun _ => False) b2) b1.size (fun _ h => h.elim), r1.tch (Tch.of_below (S := fun _ => False) b2) (fun h => h), r2⟩
    clear b2 r2 HA
    simp only [← hg1]
    clear hg1
    go_wp2_with (go_at_call 43; fail)
    refine (rs_words g0 B0 O0 E0 D0 s0 o0 nw _ _ _ w2 HG.out.2.2.2.1).mono ?_
    rintro e w3 ⟨rfl, rfl⟩
    go_wp2_with fail
    go_loopg [17] nw (fun kq v17 wr => v17 = .int .i64 (kq : Int) ∧ Aside0 (∃ i, i + kq = nw ∧ Below w.heap.size w wr ∧ Rs wr g0 B0 O0 E0 D0 (s0 + 8 * i) o0 (nw : Int) (t : Int) (tB : Int) kq ∧ Rs wr g1 B1 O1 E1 D1 (s1 + 8 * i) o1 (nw : Int) (t : Int) (tB : Int) kq ∧ Same D0 D1 p q (64 * i)))
    case atStart => exact ⟨rfl, ⟨0, by omega, HG.out.2.2.1, HG.out.2.2.2.1, HG.out.2.2.2.2, Same.zero _ _ _ _⟩⟩
    case round =>
      obtain ⟨rfl, HA⟩ := hrel
      rcases Nat.eq_zero_or_pos gk with hk | hk
      · subst hk
        have HB : Hid (Below w.heap.size w wr ∧ Rs wr g0 B0 O0 E0 D0 (s0 + 8 * nw) o0 (nw : Int) (t : Int) (tB : Int) 0 ∧ Rs wr g1 B1 O1 E1 D1 (s1 + 8 * nw) o1 (nw : Int) (t : Int) (tB : Int) 0 ∧ Same D0 D1 p q (64 * nw)) := by
          obtain ⟨i, hi, bw, r0, r1, sm⟩ := HA.out
          obtain rfl : i = nw := by omega
          exact Lib.hid ⟨bw, r0, r1, sm⟩
        clear HA
        go_wp2_with (go_at_call 45; fail)
        refine (rs_bytes g0 B0 O0 E0 D0 (s0 + 8 * nw) o0 0 _ _ _ wr HB.out.2.1).mono ?_
        rintro e w3 ⟨rfl, rfl⟩
        go_wp2_with fail
        go_loopg [18] tB (fun kq v18 wr2 => v18 = .int .i64 (kq : Int) ∧ Aside0 (∃ j, j + kq = tB ∧ Below w.heap.size w wr2 ∧ (0 < kq → Rs wr2 g0 B0 O0 E0 D0 (s0 + 8 * nw + j) o0 (nw : Int) ((t - 8 * j : Nat) : Int) (kq : Int) 0 ∧ Rs wr2 g1 B1 O1 E1 D1 (s1 + 8 * nw + j) o1 (nw : Int) ((t - 8 * j : Nat) : Int) (kq : Int) 0) ∧ Same D0 D1 p q (64 * nw + min (8 * j) t)))
        case atStart => exact ⟨rfl, ⟨0, by omega, HB.out.1, fun _ => ⟨HB.out.2.1, HB.out.2.2.1⟩, by rw [show 64 * nw + min (8 * 0) t = 64 * nw by omega]; exact HB.out.2.2.2⟩⟩
        case round =>
          clear HB
          obtain ⟨rfl, HA⟩ := hrel
          rcases Nat.eq_zero_or_pos gk with hk | hk
          · subst hk
            go_wp2
            go_ret
            obtain ⟨j, hj, bw, -, sm⟩ := HA.out
            obtain ⟨F, -, -, -, -, htB, -, -⟩ := HF.out
            rw [show 64 * nw + min (8 * j) t = n by omega] at sm
            exact ⟨by rw [HZ.out.2 sm]; rfl, bw⟩
          · have hk1 : (0 : Int) < (gk : Int) := by omega
            have hk2 : (gk : Int) < 10000000000000 := by
              obtain ⟨j, hj, -⟩ := HA.out
              obtain ⟨F, -, -, -, -, htB, -, -⟩ := HF.out
              omega
            obtain ⟨x, y, HC⟩ : ∃ x y : Nat, Hid (∃ j, j + gk = tB ∧ Below w.heap.size w wr ∧ Same D0 D1 p q (64 * nw + min (8 * j) t) ∧ x = pk D0 (p + 64 * nw + 8 * j) (min 8 (t - 8 * j)) ∧ y = pk D1 (q + 64 * nw + 8 * j) (min 8 (t - 8 * j)) ∧
                Calls Tryd.prog 46 #[.pointer (some ⟨g0, 0, none⟩)] wr (fun e w' => e = .returned (.tuple #[.int .u8 x, .int .i64 (min 8 (t - 8 * j) : Nat)]) ∧ Tch (fun k => k = g0) wr w' ∧ (8 < t - 8 * j → Rs w' g0 B0 O0 E0 D0 (s0 + 8 * nw + (j + 1)) o0 (nw : Int) ((t - 8 * (j + 1) : Nat) : Int) ((gk - 1 : Nat) : Int) 0)) ∧
                ∀ W, Tch (fun k => k = g0) wr W → Calls Tryd.prog 46 #[.pointer (some ⟨g1, 0, none⟩)] W (fun e w' => e = .returned (.tuple #[.int .u8 y, .int .i64 (min 8 (t - 8 * j) : Nat)]) ∧ Tch (fun k => k = g1) W w' ∧ (8 < t - 8 * j → Rs w' g1 B1 O1 E1 D1 (s1 + 8 * nw + (j + 1)) o1 (nw : Int) ((t - 8 * (j + 1) : Nat) : Int) ((gk - 1 : Nat) : Int) 0))) := by
              obtain ⟨j, hj, bw, hr, sm⟩ := HA.out
              obtain ⟨r0, r1⟩ := hr hk
              obtain ⟨F, b0, b1, hE0, hE1, htB, q0, q1⟩ := HF.out
              obtain ⟨hg0, hg01, -, -, -⟩ := HG.out
              refine ⟨_, _, Lib.hid ⟨j, hj, bw, sm, rfl, rfl, ?_, fun W T => ?_⟩⟩
              · have C := rs_tail g0 B0 O0 E0 D0 (s0 + 8 * nw + j) o0 0 (t - 8 * j) (min 8 (t - 8 * j)) (nw : Int) (gk : Int) wr (dat0 wr bw) (by omega) r0 (by omega) (by omega) (by omega) (by omega) (by omega) (by omega) (by omega) rfl
                rw [show 8 * (s0 + 8 * nw + j) + o0 = p + 64 * nw + 8 * j by omega, show t - 8 * j - 8 = t - 8 * (j + 1) by omega, show (gk : Int) - 1 = ((gk - 1 : Nat) : Int) by omega, Nat.add_assoc (s0 + 8 * nw)] at C
                exact C
              · have C := rs_tail g1 B1 O1 E1 D1 (s1 + 8 * nw + j) o1 0 (t - 8 * j) (min 8 (t - 8 * j)) (nw : Int) (gk : Int) W (dat1 W (Tch.below bw T bw.size (fun k hk => by omega))) (by omega) (r1.tch T (by omega)) (by omega) (by omega) (by omega) (by omega) (by omega) (by omega) (by omega) rfl
                rw [show 8 * (s1 + 8 * nw + j) + o1 = q + 64 * nw + 8 * j by omega, show t - 8 * j - 8 = t - 8 * (j + 1) by omega, show (gk : Int) - 1 = ((gk - 1 : Nat) : Int) by omega, Nat.add_assoc (s1 + 8 * nw)] at C
                exact C
            clear HA
            obtain ⟨j, HC⟩ : ∃ j, Hid _ := HC.out
            go_wp2_with (go_at_call 46; fail)
            refine (HC.out.2.2.2.2.2.1).mono ?_
            rintro e w5 ⟨rfl, T5, r5⟩
            have H5 := Lib.hid (And.intro T5 r5)
            clear T5 r5
            go_wp2_with (go_at_call 46; fail)
            refine (HC.out.2.2.2.2.2.2 w5 H5.out.1).mono ?_
            rintro e w6 ⟨rfl, T6, r6⟩
            have H6 := Lib.hid (And.intro T6 r6)
            clear T6 r6
            by_cases hxy : x = y
            · have HC2 : Hid (j + gk = tB ∧ Below w.heap.size w w6 ∧ (0 < gk - 1 → Rs w6 g0 B0 O0 E0 D0 (s0 + 8 * nw + (j + 1)) o0 (nw : Int) ((t - 8 * (j + 1) : Nat) : Int) ((gk - 1 : Nat) : Int) 0 ∧ Rs w6 g1 B1 O1 E1 D1 (s1 + 8 * nw + (j + 1)) o1 (nw : Int) ((t - 8 * (j + 1) : Nat) : Int) ((gk - 1 : Nat) : Int) 0) ∧ Same D0 D1 p q (64 * nw + min (8 * (j + 1)) t)) := by
                obtain ⟨hj, bw, sm, hx, hy, -, -⟩ := HC.out
                obtain ⟨T5, r5⟩ := H5.out
                obtain ⟨T6, r6⟩ := H6.out
                obtain ⟨hg0, hg01, -, -, -⟩ := HG.out
                obtain ⟨F, b0, b1, hE0, hE1, htB, q0, q1⟩ := HF.out
                have bw5 := Tch.below bw T5 bw.size (fun k hk => by omega)
                refine Lib.hid ⟨hj, Tch.below bw5 T6 bw5.size (fun k hk => by omega), fun h => ⟨(r5 (by omega)).tch T6 (by omega), r6 (by omega)⟩, ?_⟩
                rw [show 64 * nw + min (8 * (j + 1)) t = (64 * nw + min (8 * j) t) + min 8 (t - 8 * j) by omega, same_add]
                refine ⟨sm, same_pk.1 ?_⟩
                rw [hx, hy] at hxy
                rw [show p + (64 * nw + min (8 * j) t) = p + 64 * nw + 8 * j by omega, show q + (64 * nw + min (8 * j) t) = q + 64 * nw + 8 * j by omega]
                exact hxy
              clear HC H5 H6
              subst hxy
              go_wp2_with fail
              go_roundg (gk - 1)
              case measure => omega
              case rel =>
                obtain ⟨hj, bw, hr, sm⟩ := HC2.out
                exact ⟨by rw [show ((gk - 1 : Nat) : Int) = (gk : Int) - 1 by omega], ⟨j + 1, by omega, bw, hr, sm⟩⟩
            · have hxy2 : ¬ (x : Int) = (y : Int) := by omega
              have HC2 : Hid (Below w.heap.size w w6 ∧ z = false) := by
                obtain ⟨hj, bw, sm, hx, hy, -, -⟩ := HC.out
                obtain ⟨T5, r5⟩ := H5.out
                obtain ⟨T6, r6⟩ := H6.out
                obtain ⟨hg0, hg01, -, -, -⟩ := HG.out
                obtain ⟨F, b0, b1, hE0, hE1, htB, q0, q1⟩ := HF.out
                have bw5 := Tch.below bw T5 bw.size (fun k hk => by omega)
                refine Lib.hid ⟨Tch.below bw5 T6 bw5.size (fun k hk => by omega), no_z HZ.out (fun sm => hxy ?_)⟩
                rw [hx, hy, Nat.add_assoc p, Nat.add_assoc q]
                exact same_part sm (by omega)
              clear HC H5 H6 hk2
              go_wp2
              go_ret
              exact ⟨by rw [HC2.out.2]; rfl, HC2.out.1⟩
      · have hk1 : (0 : Int) < (gk : Int) := by omega
        have hk2 : (gk : Int) < 10000000000000 := by
          obtain ⟨i, hi, -⟩ := HA.out
          obtain ⟨F, -⟩ := HF.out
          omega
        obtain ⟨x, y, i, HC⟩ : ∃ x y i : Nat, Hid (i + gk = nw ∧ Below w.heap.size w wr ∧ Same D0 D1 p q (64 * i) ∧ x = pk D0 (p + 64 * i) 64 ∧ y = pk D1 (q + 64 * i) 64 ∧
            Calls Tryd.prog 44 #[.pointer (some ⟨g0, 0, none⟩)] wr (fun e w' => e = .returned (.int .u64 x) ∧ Tch (fun k => k = g0) wr w' ∧ Rs w' g0 B0 O0 E0 D0 (s0 + 8 * (i + 1)) o0 (nw : Int) (t : Int) (tB : Int) (gk - 1)) ∧
            ∀ W, Tch (fun k => k = g0) wr W → Calls Tryd.prog 44 #[.pointer (some ⟨g1, 0, none⟩)] W (fun e w' => e = .returned (.int .u64 y) ∧ Tch (fun k => k = g1) W w' ∧ Rs w' g1 B1 O1 E1 D1 (s1 + 8 * (i + 1)) o1 (nw : Int) (t : Int) (tB : Int) (gk - 1))) := by
          obtain ⟨i, hi, bw, r0, r1, sm⟩ := HA.out
          obtain ⟨F, b0, b1, hE0, hE1, htB, q0, q1⟩ := HF.out
          obtain ⟨hg0, hg01, -, -, -⟩ := HG.out
          refine ⟨_, _, i, Lib.hid ⟨hi, bw, sm, rfl, rfl, ?_, fun W T => ?_⟩⟩
          · have C := rs_word g0 B0 O0 E0 D0 (s0 + 8 * i) o0 gk (gk - 1) (nw : Int) (t : Int) (tB : Int) wr (dat0 wr bw) (by omega) r0 hk (by omega) (by omega) (by omega)
            rw [show 8 * (s0 + 8 * i) + o0 = p + 64 * i by omega, show s0 + 8 * i + 8 = s0 + 8 * (i + 1) by omega] at C
            exact C
          · have C := rs_word g1 B1 O1 E1 D1 (s1 + 8 * i) o1 gk (gk - 1) (nw : Int) (t : Int) (tB : Int) W (dat1 W (Tch.below bw T bw.size (fun k hk => by omega))) (by omega) (r1.tch T (by omega)) hk (by omega) (by omega) (by omega)
            rw [show 8 * (s1 + 8 * i) + o1 = q + 64 * i by omega, show s1 + 8 * i + 8 = s1 + 8 * (i + 1) by omega] at C
            exact C
        clear HA
        go_wp2_with (go_at_call 44; fail)
        refine (HC.out.2.2.2.2.2.1).mono ?_
        rintro e w5 ⟨rfl, T5, r5⟩
        have H5 := Lib.hid (And.intro T5 r5)
        clear T5 r5
        go_wp2_with (go_at_call 44; fail)
        refine (HC.out.2.2.2.2.2.2 w5 H5.out.1).mono ?_
        rintro e w6 ⟨rfl, T6, r6⟩
        have H6 := Lib.hid (And.intro T6 r6)
        clear T6 r6
        by_cases hxy : x = y
        · have HC2 : Hid (i + gk = nw ∧ Below w.heap.size w w6 ∧ Rs w6 g0 B0 O0 E0 D0 (s0 + 8 * (i + 1)) o0 (nw : Int) (t : Int) (tB : Int) (gk - 1) ∧ Rs w6 g1 B1 O1 E1 D1 (s1 + 8 * (i + 1)) o1 (nw : Int) (t : Int) (tB : Int) (gk - 1) ∧ Same D0 D1 p q (64 * (i + 1))) := by
            obtain ⟨hj, bw, sm, hx, hy, -, -⟩ := HC.out
            obtain ⟨T5, r5⟩ := H5.out
            obtain ⟨T6, r6⟩ := H6.out
            obtain ⟨hg0, hg01, -, -, -⟩ := HG.out
            have bw5 := Tch.below bw T5 bw.size (fun k hk => by omega)
            refine Lib.hid ⟨hj, Tch.below bw5 T6 bw5.size (fun k hk => by omega), r5.tch T6 (by omega), r6, ?_⟩
            rw [show 64 * (i + 1) = 64 * i + 64 by omega, same_add]
            rw [hx, hy] at hxy
            exact ⟨sm, same_pk.1 hxy⟩
          clear HC H5 H6
          subst hxy
          go_wp2_with fail
          go_roundg (gk - 1)
          case measure => omega
          case rel =>
            obtain ⟨hi, bw, r0, r1, sm⟩ := HC2.out
            exact ⟨by rw [show ((gk - 1 : Nat) : Int) = (gk : Int) - 1 by omega], ⟨i + 1, by omega, bw, r0, r1, sm⟩⟩
        · have hxy2 : ¬ (x : Int) = (y : Int) := by omega
          have HC2 : Hid (Below w.heap.size w w6 ∧ z = false) := by
            obtain ⟨hj, bw, sm, hx, hy, -, -⟩ := HC.out
            obtain ⟨T5, r5⟩ := H5.out
            obtain ⟨T6, r6⟩ := H6.out
            obtain ⟨hg0, hg01, -, -, -⟩ := HG.out
            obtain ⟨F, -⟩ := HF.out
            have bw5 := Tch.below bw T5 bw.size (fun k hk => by omega)
            refine Lib.hid ⟨Tch.below bw5 T6 bw5.size (fun k hk => by omega), no_z HZ.out (fun sm => hxy ?_)⟩
            rw [hx, hy]
            exact same_part sm (by omega)
          clear HC H5 H6 hk2
          go_wp2
          go_ret
          exact ⟨by rw [HC2.out.2]; rfl, HC2.out.1⟩
  · clear u1
    go_enter Tryd.func23, Tryd.ntmps23
    go_wp2_with (go_at_call 42; fail)
    refine (N0 w (Below.refl _ _)).mono ?_
    rintro e w1 ⟨rfl, b1, r1⟩
    clear N0
    obtain ⟨g0, hg0⟩ : ∃ g, g = w.heap.size := ⟨_, rfl⟩
    rw [← hg0] at r1
    have HA := Lib.hid (And.intro hg0 (And.intro b1 r1))
    clear b1 r1
    simp only [← hg0]
    clear hg0
    go_wp2_with (go_at_call 42; fail)
    refine (N1 w1 HA.out.2.1).mono ?_
    rintro e w2 ⟨rfl, b2, r2⟩
    clear N1
    obtain ⟨g1, hg1⟩ : ∃ g, g = w1.heap.size := ⟨_, rfl⟩
    rw [← hg1] at r2
    have HG : Hid (g0 = w.heap.size ∧ g0 < g1 ∧ Below w.heap.size w w2 ∧ Rs w2 g0 B0 O0 E0 D0 s0 o0 (nw : Int) (t : Int) (tB : Int) nw ∧ Rs w2 g1 B1 O1 E1 D1 s1 o1 (nw : Int) (t : Int) (tB : Int) nw) := by
      obtain ⟨e, b1, r1⟩ := HA.out
      obtain ⟨c, cw, x1, x2, x3, x4, x5⟩ := id r1
      refine Lib.hid ⟨e, by rw [hg1]; exact Tch.lt x5, Tch.below b1 (Tch.of_below (S := fun _ => False) b2) b1.size (fun _ h => h.elim), r1.tch (Tch.of_below (S := fun _ => False) b2) (fun h => h), r2⟩
    clear b2 r2 HA
    simp only [← hg1]
    clear hg1
    go_wp2_with (go_at_call 43; fail)
    refine (rs_words g0 B0 O0 E0 D0 s0 o0 nw _ _ _ w2 HG.out.2.2.2.1).mono ?_
    rintro e w3 ⟨rfl, rfl⟩
    go_wp2_with fail
    go_loopg [17] nw (fun kq v17 wr => v17 = .int .i64 (kq : Int) ∧ Aside0 (∃ i, i + kq = nw ∧ Below w.heap.size w wr ∧ Rs wr g0 B0 O0 E0 D0 (s0 + 8 * i) o0 (nw : Int) (t : Int) (tB : Int) kq ∧ Rs wr g1 B1 O1 E1 D1 (s1 + 8 * i) o1 (nw : Int) (t : Int) (tB : Int) kq ∧ Same D0 D1 p q (64 * i)))
    case atStart => exact ⟨rfl, ⟨0, by omega, HG.out.2.2.1, HG.out.2.2.2.1, HG.out.2.2.2.2, Same.zero _ _ _ _⟩⟩
    case round =>
      obtain ⟨rfl, HA⟩ := hrel
      rcases Nat.eq_zero_or_pos gk with hk | hk
      · subst hk
        have HB : Hid (Below w.heap.size w wr ∧ Rs wr g0 B0 O0 E0 D0 (s0 + 8 * nw) o0 (nw : Int) (t : Int) (tB : Int) 0 ∧ Rs wr g1 B1 O1 E1 D1 (s1 + 8 * nw) o1 (nw : Int) (t : Int) (tB : Int) 0 ∧ Same D0 D1 p q (64 * nw)) := by
          obtain ⟨i, hi, bw, r0, r1, sm⟩ := HA.out
          obtain rfl : i = nw := by omega
          exact Lib.hid ⟨bw, r0, r1, sm⟩
        clear HA
        go_wp2_with (go_at_call 45; fail)
        refine (rs_bytes g0 B0 O0 E0 D0 (s0 + 8 * nw) o0 0 _ _ _ wr HB.out.2.1).mono ?_
        rintro e w3 ⟨rfl, rfl⟩
        go_wp2_with fail
        go_loopg [18] tB (fun kq v18 wr2 => v18 = .int .i64 (kq : Int) ∧ Aside0 (∃ j, j + kq = tB ∧ Below w.heap.size w wr2 ∧ (0 < kq → Rs wr2 g0 B0 O0 E0 D0 (s0 + 8 * nw + j) o0 (nw : Int) ((t - 8 * j : Nat) : Int) (kq : Int) 0 ∧ Rs wr2 g1 B1 O1 E1 D1 (s1 + 8 * nw + j) o1 (nw : Int) ((t - 8 * j : Nat) : Int) (kq : Int) 0) ∧ Same D0 D1 p q (64 * nw + min (8 * j) t)))
        case atStart => exact ⟨rfl, ⟨0, by omega, HB.out.1, fun _ => ⟨HB.out.2.1, HB.out.2.2.1⟩, by rw [show 64 * nw + min (8 * 0) t = 64 * nw by omega]; exact HB.out.2.2.2⟩⟩
        case round =>
          clear HB
          obtain ⟨rfl, HA⟩ := hrel
          rcases Nat.eq_zero_or_pos gk with hk | hk
          · subst hk
            go_wp2
            go_ret
            obtain ⟨j, hj, bw, -, sm⟩ := HA.out
            obtain ⟨F, -, -, -, -, htB, -, -⟩ := HF.out
            rw [show 64 * nw + min (8 * j) t = n by omega] at sm
            exact ⟨by rw [HZ.out.2 sm]; rfl, bw⟩
          · have hk1 : (0 : Int) < (gk : Int) := by omega
            have hk2 : (gk : Int) < 10000000000000 := by
              obtain ⟨j, hj, -⟩ := HA.out
              obtain ⟨F, -, -, -, -, htB, -, -⟩ := HF.out
              omega
            obtain ⟨x, y, HC⟩ : ∃ x y : Nat, Hid (∃ j, j + gk = tB ∧ Below w.heap.size w wr ∧ Same D0 D1 p q (64 * nw + min (8 * j) t) ∧ x = pk D0 (p + 64 * nw + 8 * j) (min 8 (t - 8 * j)) ∧ y = pk D1 (q + 64 * nw + 8 * j) (min 8 (t - 8 * j)) ∧
                Calls Tryd.prog 46 #[.pointer (some ⟨g0, 0, none⟩)] wr (fun e w' => e = .returned (.tuple #[.int .u8 x, .int .i64 (min 8 (t - 8 * j) : Nat)]) ∧ Tch (fun k => k = g0) wr w' ∧ (8 < t - 8 * j → Rs w' g0 B0 O0 E0 D0 (s0 + 8 * nw + (j + 1)) o0 (nw : Int) ((t - 8 * (j + 1) : Nat) : Int) ((gk - 1 : Nat) : Int) 0)) ∧
                ∀ W, Tch (fun k => k = g0) wr W → Calls Tryd.prog 46 #[.pointer (some ⟨g1, 0, none⟩)] W (fun e w' => e = .returned (.tuple #[.int .u8 y, .int .i64 (min 8 (t - 8 * j) : Nat)]) ∧ Tch (fun k => k = g1) W w' ∧ (8 < t - 8 * j → Rs w' g1 B1 O1 E1 D1 (s1 + 8 * nw + (j + 1)) o1 (nw : Int) ((t - 8 * (j + 1) : Nat) : Int) ((gk - 1 : Nat) : Int) 0))) := by
              obtain ⟨j, hj, bw, hr, sm⟩ := HA.out
              obtain ⟨r0, r1⟩ := hr hk
              obtain ⟨F, b0, b1, hE0, hE1, htB, q0, q1⟩ := HF.out
              obtain ⟨hg0, hg01, -, -, -⟩ := HG.out
              refine ⟨_, _, Lib.hid ⟨j, hj, bw, sm, rfl, rfl, ?_, fun W T => ?_⟩⟩
              · have C := rs_tail g0 B0 O0 E0 D0 (s0 + 8 * nw + j) o0 0 (t - 8 * j) (min 8 (t - 8 * j)) (nw : Int) (gk : Int) wr (dat0 wr bw) (by omega) r0 (by omega) (by omega) (by omega) (by omega) (by omega) (by omega) (by omega) rfl
                rw [show 8 * (s0 + 8 * nw + j) + o0 = p + 64 * nw + 8 * j by omega, show t - 8 * j - 8 = t - 8 * (j + 1) by omega, show (gk : Int) - 1 = ((gk - 1 : Nat) : Int) by omega, Nat.add_assoc (s0 + 8 * nw)] at C
                exact C
              · have C := rs_tail g1 B1 O1 E1 D1 (s1 + 8 * nw + j) o1 0 (t - 8 * j) (min 8 (t - 8 * j)) (nw : Int) (gk : Int) W (dat1 W (Tch.below bw T bw.size (fun k hk => by omega))) (by omega) (r1.tch T (by omega)) (by omega) (by omega) (by omega) (by omega) (by omega) (by omega) (by omega) rfl
                rw [show 8 * (s1 + 8 * nw + j) + o1 = q + 64 * nw + 8 * j by omega, show t - 8 * j - 8 = t - 8 * (j + 1) by omega, show (gk : Int) - 1 = ((gk - 1 : Nat) : Int) by omega, Nat.add_assoc (s1 + 8 * nw)] at C
                exact C
            clear HA
            obtain ⟨j, HC⟩ : ∃ j, Hid _ := HC.out
            go_wp2_with (go_at_call 46; fail)
            refine (HC.out.2.2.2.2.2.1).mono ?_
            rintro e w5 ⟨rfl, T5, r5⟩
            have H5 := Lib.hid (And.intro T5 r5)
            clear T5 r5
            go_wp2_with (go_at_call 46; fail)
            refine (HC.out.2.2.2.2.2.2 w5 H5.out.1).mono ?_
            rintro e w6 ⟨rfl, T6, r6⟩
            have H6 := Lib.hid (And.intro T6 r6)
            clear T6 r6
            by_cases hxy : x = y
            · have HC2 : Hid (j + gk = tB ∧ Below w.heap.size w w6 ∧ (0 < gk - 1 → Rs w6 g0 B0 O0 E0 D0 (s0 + 8 * nw + (j + 1)) o0 (nw : Int) ((t - 8 * (j + 1) : Nat) : Int) ((gk - 1 : Nat) : Int) 0 ∧ Rs w6 g1 B1 O1 E1 D1 (s1 + 8 * nw + (j + 1)) o1 (nw : Int) ((t - 8 * (j + 1) : Nat) : Int) ((gk - 1 : Nat) : Int) 0) ∧ Same D0 D1 p q (64 * nw + min (8 * (j + 1)) t)) := by
                obtain ⟨hj, bw, sm, hx, hy, -, -⟩ := HC.out
                obtain ⟨T5, r5⟩ := H5.out
                obtain ⟨T6, r6⟩ := H6.out
                obtain ⟨hg0, hg01, -, -, -⟩ := HG.out
                obtain ⟨F, b0, b1, hE0, hE1, htB, q0, q1⟩ := HF.out
                have bw5 := Tch.below bw T5 bw.size (fun k hk => by omega)
                refine Lib.hid ⟨hj, Tch.below bw5 T6 bw5.size (fun k hk => by omega), fun h => ⟨(r5 (by omega)).tch T6 (by omega), r6 (by omega)⟩, ?_⟩
                rw [show 64 * nw + min (8 * (j + 1)) t = (64 * nw + min (8 * j) t) + min 8 (t - 8 * j) by omega, same_add]
                refine ⟨sm, same_pk.1 ?_⟩
                rw [hx, hy] at hxy
                rw [show p + (64 * nw + min (8 * j) t) = p + 64 * nw + 8 * j by omega, show q + (64 * nw + min (8 * j) t) = q + 64 * nw + 8 * j by omega]
                exact hxy
              clear HC H5 H6
              subst hxy
              go_wp2_with fail
              go_roundg (gk - 1)
              case measure => omega
              case rel =>
                obtain ⟨hj, bw, hr, sm⟩ := HC2.out
                exact ⟨by rw [show ((gk - 1 : Nat) : Int) = (gk : Int) - 1 by omega], ⟨j + 1, by omega, bw, hr, sm⟩⟩
            · have hxy2 : ¬ (x : Int) = (y : Int) := by omega
              have HC2 : Hid (Below w.heap.size w w6 ∧ z = false) := by
                obtain ⟨hj, bw, sm, hx, hy, -, -⟩ := HC.out
                obtain ⟨T5, r5⟩ := H5.out
                obtain ⟨T6, r6⟩ := H6.out
                obtain ⟨hg0, hg01, -, -, -⟩ := HG.out
                obtain ⟨F, b0, b1, hE0, hE1, htB, q0, q1⟩ := HF.out
                have bw5 := Tch.below bw T5 bw.size (fun k hk => by omega)
                refine Lib.hid ⟨Tch.below bw5 T6 bw5.size (fun k hk => by omega), no_z HZ.out (fun sm => hxy ?_)⟩
                rw [hx, hy, Nat.add_assoc p, Nat.add_assoc q]
                exact same_part sm (by omega)
              clear HC H5 H6 hk2
              go_wp2
              go_ret
              exact ⟨by rw [HC2.out.2]; rfl, HC2.out.1⟩
      · have hk1 : (0 : Int) < (gk : Int) := by omega
        have hk2 : (gk : Int) < 10000000000000 := by
          obtain ⟨i, hi, -⟩ := HA.out
          obtain ⟨F, -⟩ := HF.out
          omega
        obtain ⟨x, y, i, HC⟩ : ∃ x y i : Nat, Hid (i + gk = nw ∧ Below w.heap.size w wr ∧ Same D0 D1 p q (64 * i) ∧ x = pk D0 (p + 64 * i) 64 ∧ y = pk D1 (q + 64 * i) 64 ∧
            Calls Tryd.prog 44 #[.pointer (some ⟨g0, 0, none⟩)] wr (fun e w' => e = .returned (.int .u64 x) ∧ Tch (fun k => k = g0) wr w' ∧ Rs w' g0 B0 O0 E0 D0 (s0 + 8 * (i + 1)) o0 (nw : Int) (t : Int) (tB : Int) (gk - 1)) ∧
            ∀ W, Tch (fun k => k = g0) wr W → Calls Tryd.prog 44 #[.pointer (some ⟨g1, 0, none⟩)] W (fun e w' => e = .returned (.int .u64 y) ∧ Tch (fun k => k = g1) W w' ∧ Rs w' g1 B1 O1 E1 D1 (s1 + 8 * (i + 1)) o1 (nw : Int) (t : Int) (tB : Int) (gk - 1))) := by
          obtain ⟨i, hi, bw, r0, r1, sm⟩ := HA.out
          obtain ⟨F, b0, b1, hE0, hE1, htB, q0, q1⟩ := HF.out
          obtain ⟨hg0, hg01, -, -, -⟩ := HG.out
          refine ⟨_, _, i, Lib.hid ⟨hi, bw, sm, rfl, rfl, ?_, fun W T => ?_⟩⟩
          · have C := rs_word g0 B0 O0 E0 D0 (s0 + 8 * i) o0 gk (gk - 1) (nw : Int) (t : Int) (tB : Int) wr (dat0 wr bw) (by omega) r0 hk (by omega) (by omega) (by omega)
            rw [show 8 * (s0 + 8 * i) + o0 = p + 64 * i by omega, show s0 + 8 * i + 8 = s0 + 8 * (i + 1) by omega] at C
            exact C
          · have C := rs_word g1 B1 O1 E1 D1 (s1 + 8 * i) o1 gk (gk - 1) (nw : Int) (t : Int) (tB : Int) W (dat1 W (Tch.below bw T bw.size (fun k hk => by omega))) (by omega) (r1.tch T (by omega)) hk (by omega) (by omega) (by omega)
            rw [show 8 * (s1 + 8 * i) + o1 = q + 64 * i by omega, show s1 + 8 * i + 8 = s1 + 8 * (i + 1) by omega] at C
            exact C
        clear HA
        go_wp2_with (go_at_call 44; fail)
        refine (HC.out.2.2.2.2.2.1).mono ?_
        rintro e w5 ⟨rfl, T5, r5⟩
        have H5 := Lib.hid (And.intro T5 r5)
        clear T5 r5
        go_wp2_with (go_at_call 44; fail)
        refine (HC.out.2.2.2.2.2.2 w5 H5.out.1).mono ?_
        rintro e w6 ⟨rfl, T6, r6⟩
        have H6 := Lib.hid (And.intro T6 r6)
        clear T6 r6
        by_cases hxy : x = y
        · have HC2 : Hid (i + gk = nw ∧ Below w.heap.size w w6 ∧ Rs w6 g0 B0 O0 E0 D0 (s0 + 8 * (i + 1)) o0 (nw : Int) (t : Int) (tB : Int) (gk - 1) ∧ Rs w6 g1 B1 O1 E1 D1 (s1 + 8 * (i + 1)) o1 (nw : Int) (t : Int) (tB : Int) (gk - 1) ∧ Same D0 D1 p q (64 * (i + 1))) := by
            obtain ⟨hj, bw, sm, hx, hy, -, -⟩ := HC.out
            obtain ⟨T5, r5⟩ := H5.out
            obtain ⟨T6, r6⟩ := H6.out
            obtain ⟨hg0, hg01, -, -, -⟩ := HG.out
            have bw5 := Tch.below bw T5 bw.size (fun k hk => by omega)
            refine Lib.hid ⟨hj, Tch.below bw5 T6 bw5.size (fun k hk => by omega), r5.tch T6 (by omega), r6, ?_⟩
            rw [show 64 * (i + 1) = 64 * i + 64 by omega, same_add]
            rw [hx, hy] at hxy
            exact ⟨sm, same_pk.1 hxy⟩
          clear HC H5 H6
          subst hxy
          go_wp2_with fail
          go_roundg (gk - 1)
          case measure => omega
          case rel =>
            obtain ⟨hi, bw, r0, r1, sm⟩ := HC2.out
            exact ⟨by rw [show ((gk - 1 : Nat) : Int) = (gk : Int) - 1 by omega], ⟨i + 1, by omega, bw, r0, r1, sm⟩⟩
        · have hxy2 : ¬ (x : Int) = (y : Int) := by omega
          have HC2 : Hid (Below w.heap.size w w6 ∧ z = false) := by
            obtain ⟨hj, bw, sm, hx, hy, -, -⟩ := HC.out
            obtain ⟨T5, r5⟩ := H5.out
            obtain ⟨T6, r6⟩ := H6.out
            obtain ⟨hg0, hg01, -, -, -⟩ := HG.out
            obtain ⟨F, -⟩ := HF.out
            have bw5 := Tch.below bw T5 bw.size (fun k hk => by omega)
            refine Lib.hid ⟨Tch.below bw5 T6 bw5.size (fun k hk => by omega), no_z HZ.out (fun sm => hxy ?_)⟩
            rw [hx, hy]
            exact same_part sm (by omega)
          clear HC H5 H6 hk2
          go_wp2
          go_ret
          exact ⟨by rw [HC2.out.2]; rfl, HC2.out.1⟩
end Go.Proofs.YthgbfmcicpmepaaDoor.V
