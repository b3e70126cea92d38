/- bitutil.transferBitmap where a place is within a byte. -/
import Derived.Test.YthgbfmcicpmepaaDoorBW10
import Derived.Test.YthgbfmcicpmepaaDoorBT9
namespace Go.Proofs.YthgbfmcicpmepaaDoor.V
open Go.RowKit Go.Proofs.YthgbfmcicpmepaaDoor.B Go.Proofs.YthgbfmcicpmepaaDoorW.PrintWords Go.Proofs.YthgbfmcicpmepaaDoorW.PrintLast Go.Proofs.YthgbfmcicpmepaaDoorW.PrintMore
set_option linter.unusedVariables false
set_option linter.unusedSimpArgs false
theorem xor_k (k : IntKind) (x : Nat) (hx : x < 2 ^ k.bits) (c : Int) (hc : BitVec.ofInt k.bits c = BitVec.allOnes k.bits) : bits .xor k c (x : Int) = k.wrap ((2 ^ k.bits - 1 - x : Nat) : Int) := by
  have e : bits .xor k c (x : Int) = k.wrap (((BitVec.ofInt k.bits c ^^^ BitVec.ofInt k.bits (x : Int)).toNat : Nat) : Int) := rfl
  rw [e, hc, BitVec.allOnes_xor, BitVec.ofInt_natCast, BitVec.toNat_not, BitVec.toNat_ofNat, Nat.mod_eq_of_lt hx]
theorem xor64 (x : Nat) (hx : x < 2 ^ 64) : bits .xor .u64 (if IntKind.u64.signed = true then -1 else IntKind.u64.max) (x : Int) = ((2 ^ 64 - 1 - x : Nat) : Int) := by
  rw [xor_k .u64 x hx _ (by decide +kernel)]
  exact wrap_u64 _ (by show 2 ^ 64 - 1 - x < 2 ^ 64; omega)
theorem xor8 (x : Nat) (hx : x < 256) : bits .xor .u8 (if IntKind.u8.signed = true then -1 else IntKind.u8.max) (x : Int) = ((255 - x : Nat) : Int) := by
  rw [xor_k .u8 x hx _ (by decide +kernel)]
  exact wrap_u8 _ (by show 2 ^ 8 - 1 - x < 256; omega)
theorem inv_bit64 (x i : Nat) (hx : x < 2 ^ 64) (hi : i < 64) : (2 ^ 64 - 1 - x).testBit i = !x.testBit i := by
  rw [Nat.sub_sub, Nat.add_comm 1, Nat.testBit_two_pow_sub_succ hx]
  simp [hi]
theorem inv_bit8 (x i : Nat) (hx : x < 256) (hi : i < 8) : (255 - x).testBit i = !x.testBit i := by
  have h : 255 - x = 2 ^ 8 - (x + 1) := by omega
  rw [h, Nat.testBit_two_pow_sub_succ (show x < 2 ^ 8 from hx)]
  simp [hi]
set_option maxHeartbeats 8000000 in
set_option maxRecDepth 100000 in
theorem tr47a (B O m c b C L p q n : Nat) (D M : Nat → Nat) (w : World) (hT : TabAt w) (hD : Dat w B O m D) (hO : Own w b C L M) (hBb : B ≠ b) (h1b : b ≠ 1) (hc : m ≤ c) (hL : L ≤ C) (hn : 0 < n) (hp : p + n ≤ 8 * m) (hq : q + n ≤ 8 * L) (hm : m < 2 ^ 36) (hE : L < 2 ^ 40) (u0 : (p : Int) % 8 ≠ 0) :
    Calls Tryd.prog 47 #[.int .i8 0, .slice (some ⟨B, O, none⟩) m c, .int .i64 (p : Int), .int .i64 (n : Int), .slice (some ⟨b, 0, none⟩) L C, .int .i64 (q : Int)] w fun e w' => e = .returned (.tuple #[]) ∧ Tch (fun k => k = b) w w' ∧ ∃ M', Own w' b C L M' ∧ Wrote M q n (fun i => bitD D (p + i)) M' := by
  obtain ⟨s0, hs0⟩ : ∃ s, s = p / 8 := ⟨_, rfl⟩
  obtain ⟨o0, ho0⟩ : ∃ o, o = p % 8 := ⟨_, rfl⟩
  obtain ⟨s1, hs1⟩ : ∃ s, s = q / 8 := ⟨_, rfl⟩
  obtain ⟨o1, ho1⟩ : ∃ o, o = q % 8 := ⟨_, rfl⟩
  obtain ⟨nw, hnw⟩ : ∃ k, k = n / 64 - 1 := ⟨_, rfl⟩
  obtain ⟨t, ht⟩ : ∃ k, k = n - 64 * nw := ⟨_, rfl⟩
  obtain ⟨E0, hE0⟩ : ∃ k, k = s0 + (o0 + n + 7) / 8 := ⟨_, rfl⟩
  obtain ⟨tB, htB⟩ : ∃ k, k = (t + 7) / 8 := ⟨_, rfl⟩
  obtain ⟨f, hf⟩ : ∃ f : Nat → Bool, f = fun i => bitD D (p + i) := ⟨_, rfl⟩
  rw [← hf]
  have N0 : Calls Tryd.prog 42 #[.slice (some ⟨B, O, none⟩) m c, .int .i64 (p : Int), .int .i64 (n : Int)] w fun e w' => e = .returned (.pointer (some ⟨w.heap.size, 0, none⟩)) ∧ Below w.heap.size w w' ∧ Rs w' w.heap.size B O E0 D s0 o0 (nw : Int) (t : Int) (tB : Int) nw := by
    rw [hE0, htB]
    exact rs_new B O m D c p n s0 o0 nw t w hD hc hn hs0 ho0 hnw ht hp (by omega)
  have N1 : ∀ W, Below w.heap.size w W → Calls Tryd.prog 18 #[.slice (some ⟨b, 0, none⟩) L C, .int .i64 (q : Int), .int .i64 (n : Int)] W fun e w' => e = .returned (.pointer (some ⟨W.heap.size, 0, none⟩)) ∧ Below W.heap.size W w' ∧ Ww w' W.heap.size b C L s1 o1 M := fun W hb =>
    ww_new b C L M q s1 o1 n W (hO.tch (Tch.of_below (S := fun _ => False) hb) (fun h => h)) hL hq hE hs1 ho1 hn
  have dat0 : ∀ W, Tch (fun k => k = b) w W → Dat W B O E0 D := fun W hb => (hD.tch hb hBb).less (by omega)
  have tabs : ∀ W, Tch (fun k => k = b) w W → TabAt W := fun W hb => hT.tch hb (fun e => h1b e.symm)
  have own0 : ∀ W, Below w.heap.size w W → Own W b C L M := fun W hb => hO.tch (Tch.of_below (S := fun _ => False) hb) (fun h => h)
  have b0 : B < w.heap.size := World.block_lt_of_cell? w ⟨B, O, none⟩ (hD.at_ 0 O (by omega) rfl)
  have b1 : b < w.heap.size := hO.lt
  have q0 : 8 * s0 + o0 = p := by omega
  have q1 : 8 * s1 + o1 = q := by omega
  have F : n = 64 * nw + t ∧ 0 < t ∧ (0 < nw → 64 ≤ t) ∧ t < 128 ∧ o0 < 8 ∧ o1 < 8 ∧ E0 < 2 ^ 40 ∧ nw < 2 ^ 40 ∧ L < 2 ^ 41 := by omega
  have HF := Lib.hid (And.intro F (And.intro b0 (And.intro b1 (And.intro hE0 (And.intro htB (And.intro q0 (And.intro q1 (And.intro hq (And.intro hE (And.intro hL hf))))))))))
  have kn : ¬ (n : Int) = 0 := by omega
  clear F hs0 ho0 hs1 ho1 hnw ht hE0 htB hD hO hT hc hn hp hq hm hE b0 b1 q0 q1 hf
  go_enter Tryd.func47, Tryd.ntmps47
  go_wp2_with (go_at_call 42; fail)
  refine N0.mono ?_
  rintro e w1 ⟨rfl, B1, r1⟩
  clear N0
  obtain ⟨g0, hg0⟩ : ∃ g, g = w.heap.size := ⟨_, rfl⟩
  rw [← hg0] at r1
  have HA := Lib.hid (And.intro hg0 (And.intro B1 r1))
  clear B1 r1
  simp only [← hg0]
  clear hg0
  go_wp2_with (go_at_call 18; fail)
  refine (N1 w1 HA.out.2.1).mono ?_
  rintro e w2 ⟨rfl, B2, r2⟩
  clear N1
  obtain ⟨g1, hg1⟩ : ∃ g, g = w1.heap.size := ⟨_, rfl⟩
  rw [← hg1] at r2
  have HG : Hid (g0 = w.heap.size ∧ g0 < g1 ∧ Below w.heap.size w w2 ∧ Rs w2 g0 B O E0 D s0 o0 (nw : Int) (t : Int) (tB : Int) nw ∧ Ww w2 g1 b C L s1 o1 M) := by
    obtain ⟨e, b1, r1⟩ := HA.out
    obtain ⟨c, cw, x1, x2, x3, x4, x5⟩ := id r1
    refine Lib.hid ⟨e, by rw [hg1]; exact Tch.lt x5, Tch.below b1 (Tch.of_below (S := fun _ => False) B2) b1.size (fun _ h => h.elim), r1.tch (Tch.of_below (S := fun _ => False) B2) (fun h => h), r2⟩
  clear B2 r2 HA
  simp only [← hg1]
  clear hg1
  go_wp2_with (go_at_call 43; fail)
  refine (rs_words g0 B O E0 D s0 o0 nw _ _ _ w2 HG.out.2.2.2.1).mono ?_
  rintro e w3 ⟨rfl, rfl⟩
  go_wp2_with fail
  go_loopg [16] nw (fun kq v16 wr => v16 = .int .i64 (kq : Int) ∧ Aside0 (∃ i Mi, i + kq = nw ∧ Tch (fun k => k = b) w wr ∧ Rs wr g0 B O E0 D (s0 + 8 * i) o0 (nw : Int) (t : Int) (tB : Int) kq ∧ Own wr b C L Mi ∧ Ww wr g1 b C L (s1 + 8 * i) o1 Mi ∧ Wrote M q (64 * i) f Mi))
  case atStart => exact ⟨rfl, ⟨0, M, by omega, Tch.of_below HG.out.2.2.1, HG.out.2.2.2.1, own0 _ HG.out.2.2.1, HG.out.2.2.2.2, Wrote.zero _ _ _⟩⟩
  case round =>
    obtain ⟨rfl, HA⟩ := hrel
    rcases Nat.eq_zero_or_pos gk with hk | hk
    · subst hk
      obtain ⟨Mn, HB⟩ : ∃ Mn, Hid (Tch (fun k => k = b) w wr ∧ Rs wr g0 B O E0 D (s0 + 8 * nw) o0 (nw : Int) (t : Int) (tB : Int) 0 ∧ Own wr b C L Mn ∧ Ww wr g1 b C L (s1 + 8 * nw) o1 Mn ∧ Wrote M q (64 * nw) f Mn) := by
        obtain ⟨i, Mi, hi, bw, r0, ow, r1, sm⟩ := HA.out
        obtain rfl : i = nw := by omega
        exact ⟨Mi, Lib.hid ⟨bw, r0, ow, r1, sm⟩⟩
      clear HA
      go_wp2_with (go_at_call 45; fail)
      refine (rs_bytes g0 B O E0 D (s0 + 8 * nw) o0 0 _ _ _ wr HB.out.2.1).mono ?_
      rintro e w3 ⟨rfl, rfl⟩
      go_wp2_with fail
      go_loopg [17] tB (fun kq v17 wr2 => v17 = .int .i64 (kq : Int) ∧ Aside0 (∃ j Mj, j + kq = tB ∧ Tch (fun k => k = b) w wr2 ∧ (0 < kq → Rs wr2 g0 B O E0 D (s0 + 8 * nw + j) o0 (nw : Int) ((t - 8 * j : Nat) : Int) (kq : Int) 0 ∧ Ww wr2 g1 b C L (s1 + 8 * nw + j) o1 Mj) ∧ Own wr2 b C L Mj ∧ Wrote M q (64 * nw + min (8 * j) t) f Mj))
      case atStart => exact ⟨rfl, ⟨0, Mn, by omega, HB.out.1, fun _ => ⟨HB.out.2.1, HB.out.2.2.2.1⟩, HB.out.2.2.1, by rw [show 64 * nw + min (8 * 0) t = 64 * nw by omega]; exact HB.out.2.2.2.2⟩⟩
      case round =>
        clear HB
        obtain ⟨rfl, HA⟩ := hrel
        rcases Nat.eq_zero_or_pos gk with hk | hk
        · subst hk
          go_wp2
          refine bodyPost_ret (results_none rfl _ _ _) rfl ?_
          obtain ⟨j, Mj, hj, bw, -, ow, sm⟩ := HA.out
          obtain ⟨F, -, -, -, htB, -⟩ := HF.out
          rw [show 64 * nw + min (8 * j) t = n by omega] at sm
          exact ⟨rfl, bw, Mj, ow, sm⟩
        · have hk1 : (0 : Int) < (gk : Int) := by omega
          have hk2 : (gk : Int) < 10000000000000 := by
            obtain ⟨j, Mj, hj, -⟩ := HA.out
            obtain ⟨F, -, -, -, htB, -⟩ := HF.out
            omega
          obtain ⟨x, y, j, Mj, HC⟩ : ∃ x y j : Nat, ∃ Mj, Hid (j + gk = tB ∧ Tch (fun k => k = b) w wr ∧ Wrote M q (64 * nw + min (8 * j) t) f Mj ∧ (x < 256 ∧ y = x) ∧ (∀ i, i < min 8 (t - 8 * j) → y.testBit i = f (64 * nw + min (8 * j) t + i)) ∧
              Calls Tryd.prog 46 #[.pointer (some ⟨g0, 0, none⟩)] wr (fun e w' => e = .returned (.tuple #[.int .u8 x, .int .i64 (min 8 (t - 8 * j) : Nat)]) ∧ Tch (fun k => k = g0) wr w' ∧ (8 < t - 8 * j → Rs w' g0 B O E0 D (s0 + 8 * nw + (j + 1)) o0 (nw : Int) ((t - 8 * (j + 1) : Nat) : Int) ((gk - 1 : Nat) : Int) 0)) ∧
              ∀ W, Tch (fun k => k = g0) wr W → Calls Tryd.prog 20 #[.pointer (some ⟨g1, 0, none⟩), .int .u8 (y : Int), .int .i64 (min 8 (t - 8 * j) : Nat)] W (fun e w' => e = .returned (.tuple #[]) ∧ Tch (fun k => k = g1 ∨ k = b) W w' ∧ ∃ M', Own w' b C L M' ∧ Upd Mj (q + (64 * nw + min (8 * j) t)) (min 8 (t - 8 * j)) y M' ∧ (min 8 (t - 8 * j) = 8 → Ww w' g1 b C L (s1 + 8 * nw + (j + 1)) o1 M'))) := by
            obtain ⟨j, Mj, hj, bw, hr, ow, sm⟩ := HA.out
            obtain ⟨r0, r1⟩ := hr hk
            obtain ⟨F, b0, b1, hE0, htB, q0, q1, hq, hE, hL, hf⟩ := HF.out
            obtain ⟨hg0, hg01, -, -, -⟩ := HG.out
            obtain ⟨x, hx⟩ : ∃ x, x = pk D (p + 64 * nw + 8 * j) (min 8 (t - 8 * j)) := ⟨_, rfl⟩
            have hx8 : x < 256 := by
              rw [hx]
              exact Nat.lt_of_lt_of_le (pk_lt _ _ _) (show 2 ^ (min 8 (t - 8 * j)) ≤ 2 ^ 8 from Nat.pow_le_pow_right (by omega) (by omega))
            refine ⟨x, _, j, Mj, Lib.hid ⟨hj, bw, sm, ⟨hx8, rfl⟩, fun i hi => ?_, ?_, fun W T => ?_⟩⟩
            · rw [hx, pk_testBit, hf]
              simp only [hi, decide_true, Bool.true_and]
              congr 1
              omega
            · have C := rs_tail g0 B O E0 D (s0 + 8 * nw + j) o0 0 (t - 8 * j) (min 8 (t - 8 * j)) (nw : Int) (gk : Int) wr (dat0 wr bw) (by omega) r0 (by omega) (by omega) (by omega) (by omega) (by omega) (by omega) (by omega) rfl
              rw [show 8 * (s0 + 8 * nw + j) + o0 = p + 64 * nw + 8 * j by omega, show t - 8 * j - 8 = t - 8 * (j + 1) by omega, show (gk : Int) - 1 = ((gk - 1 : Nat) : Int) by omega, Nat.add_assoc (s0 + 8 * nw), ← hx] at C
              exact C
            · have TT : Tch (fun k => k = b) w W := bw.then_ T (fun k hk => .inr (by omega))
              have C := ww_tail g1 b C L Mj (s1 + 8 * nw + j) o1 x (min 8 (t - 8 * j)) W (tabs W TT) (ow.tch T (by omega)) (by omega) (r1.tch T (by omega)) (by omega) (by omega) (by omega) (by omega) (by omega) hE (by omega)
              rw [show 8 * (s1 + 8 * nw + j) + o1 = q + (64 * nw + min (8 * j) t) by omega, Nat.add_assoc (s1 + 8 * nw)] at C
              exact C
          clear HA
          go_wp2_with (go_at_call 46; fail)
          refine (HC.out.2.2.2.2.2.1).mono ?_
          rintro e w5 ⟨rfl, T5, r5⟩
          have H5 := Lib.hid (And.intro T5 r5)
          clear T5 r5
          skip
          obtain rfl : y = x := HC.out.2.2.2.1.2
          go_wp2_with (go_at_call 20; fail)
          refine (HC.out.2.2.2.2.2.2 w5 H5.out.1).mono ?_
          rintro e w6 ⟨rfl, T6, M6, O6, U6, r6⟩
          have HC2 : Hid (j + gk = tB ∧ Tch (fun k => k = b) w w6 ∧ (0 < gk - 1 → Rs w6 g0 B O E0 D (s0 + 8 * nw + (j + 1)) o0 (nw : Int) ((t - 8 * (j + 1) : Nat) : Int) ((gk - 1 : Nat) : Int) 0 ∧ Ww w6 g1 b C L (s1 + 8 * nw + (j + 1)) o1 M6) ∧ Own w6 b C L M6 ∧ Wrote M q (64 * nw + min (8 * (j + 1)) t) f M6) := by
            obtain ⟨hj, bw, sm, -, hbit, -, -⟩ := HC.out
            obtain ⟨T5, r5⟩ := H5.out
            obtain ⟨hg0, hg01, -, -, -⟩ := HG.out
            obtain ⟨F, b0, b1, hE0, htB, q0, q1, -⟩ := HF.out
            have bw5 : Tch (fun k => k = b) w w5 := bw.then_ T5 (fun k hk => .inr (by omega))
            refine Lib.hid ⟨hj, bw5.then_ T6 (fun k hk => hk.elim (fun e => .inr (by omega)) .inl), fun h => ⟨(r5 (by omega)).tch T6 (by omega), r6 (by omega)⟩, O6, ?_⟩
            rw [show 64 * nw + min (8 * (j + 1)) t = (64 * nw + min (8 * j) t) + min 8 (t - 8 * j) by omega]
            exact sm.more U6 hbit
          clear HC H5 T6 O6 U6 r6
          go_wp2_with fail
          go_roundg (gk - 1)
          case measure => omega
          case rel =>
            obtain ⟨hj, bw, hr, ow, sm⟩ := HC2.out
            exact ⟨by rw [show ((gk - 1 : Nat) : Int) = (gk : Int) - 1 by omega], ⟨j + 1, M6, by omega, bw, hr, ow, sm⟩⟩
    · have hk1 : (0 : Int) < (gk : Int) := by omega
      have hk2 : (gk : Int) < 10000000000000 := by
        obtain ⟨i, Mi, hi, -⟩ := HA.out
        obtain ⟨F, -⟩ := HF.out
        omega
      obtain ⟨x, y, i, Mi, HC⟩ : ∃ x y i : Nat, ∃ Mi, Hid (i + gk = nw ∧ Tch (fun k => k = b) w wr ∧ Wrote M q (64 * i) f Mi ∧ (x < 2 ^ 64 ∧ y = x) ∧ (∀ k, k < 64 → y.testBit k = f (64 * i + k)) ∧
          Calls Tryd.prog 44 #[.pointer (some ⟨g0, 0, none⟩)] wr (fun e w' => e = .returned (.int .u64 x) ∧ Tch (fun k => k = g0) wr w' ∧ Rs w' g0 B O E0 D (s0 + 8 * (i + 1)) o0 (nw : Int) (t : Int) (tB : Int) (gk - 1)) ∧
          ∀ W, Tch (fun k => k = g0) wr W → Calls Tryd.prog 19 #[.pointer (some ⟨g1, 0, none⟩), .int .u64 (y : Int)] W (fun e w' => e = .returned (.tuple #[]) ∧ Tch (fun k => k = g1 ∨ k = b) W w' ∧ ∃ M', Own w' b C L M' ∧ Upd Mi (q + 64 * i) 64 y M' ∧ Ww w' g1 b C L (s1 + 8 * (i + 1)) o1 M')) := by
        obtain ⟨i, Mi, hi, bw, r0, ow, r1, sm⟩ := HA.out
        obtain ⟨F, b0, b1, hE0, htB, q0, q1, hq, hE, hL, hf⟩ := HF.out
        obtain ⟨hg0, hg01, -, -, -⟩ := HG.out
        obtain ⟨x, hx⟩ : ∃ x, x = pk D (p + 64 * i) 64 := ⟨_, rfl⟩
        have hx64 : x < 2 ^ 64 := by rw [hx]; exact pk_lt _ _ _
        refine ⟨x, _, i, Mi, Lib.hid ⟨hi, bw, sm, ⟨hx64, rfl⟩, fun k hk => ?_, ?_, fun W T => ?_⟩⟩
        · rw [hx, pk_testBit, hf]
          simp only [hk, decide_true, Bool.true_and, Nat.add_assoc]
        · have C := rs_word g0 B O E0 D (s0 + 8 * i) o0 gk (gk - 1) (nw : Int) (t : Int) (tB : Int) wr (dat0 wr bw) (by omega) r0 hk (by omega) (by omega) (by omega)
          rw [show 8 * (s0 + 8 * i) + o0 = p + 64 * i by omega, show s0 + 8 * i + 8 = s0 + 8 * (i + 1) by omega, ← hx] at C
          exact C
        · have C := ww_word g1 b C L Mi (s1 + 8 * i) o1 x W (ow.tch T (by omega)) (by omega) (r1.tch T (by omega)) (by omega) (by omega) (by omega) (by omega) hE (by omega)
          rw [show 8 * (s1 + 8 * i) + o1 = q + 64 * i by omega, show s1 + 8 * i + 8 = s1 + 8 * (i + 1) by omega] at C
          exact C
      clear HA
      go_wp2_with (go_at_call 44; fail)
      refine (HC.out.2.2.2.2.2.1).mono ?_
      rintro e w5 ⟨rfl, T5, r5⟩
      have H5 := Lib.hid (And.intro T5 r5)
      clear T5 r5
      skip
      obtain rfl : y = x := HC.out.2.2.2.1.2
      go_wp2_with (go_at_call 19; fail)
      refine (HC.out.2.2.2.2.2.2 w5 H5.out.1).mono ?_
      rintro e w6 ⟨rfl, T6, M6, O6, U6, r6⟩
      have HC2 : Hid (i + gk = nw ∧ Tch (fun k => k = b) w w6 ∧ Rs w6 g0 B O E0 D (s0 + 8 * (i + 1)) o0 (nw : Int) (t : Int) (tB : Int) (gk - 1) ∧ Own w6 b C L M6 ∧ Ww w6 g1 b C L (s1 + 8 * (i + 1)) o1 M6 ∧ Wrote M q (64 * (i + 1)) f M6) := by
        obtain ⟨hj, bw, sm, -, hbit, -, -⟩ := HC.out
        obtain ⟨T5, r5⟩ := H5.out
        obtain ⟨hg0, hg01, -, -, -⟩ := HG.out
        obtain ⟨F, b0, b1, hE0, htB, q0, q1, -⟩ := HF.out
        have bw5 : Tch (fun k => k = b) w w5 := bw.then_ T5 (fun k hk => .inr (by omega))
        refine Lib.hid ⟨hj, bw5.then_ T6 (fun k hk => hk.elim (fun e => .inr (by omega)) .inl), r5.tch T6 (by omega), O6, r6, ?_⟩
        rw [show 64 * (i + 1) = 64 * i + 64 by omega]
        exact sm.more U6 hbit
      clear HC H5 T6 O6 U6 r6
      go_wp2_with fail
      go_roundg (gk - 1)
      case measure => omega
      case rel =>
        obtain ⟨hi, bw, r0, ow, r1, sm⟩ := HC2.out
        exact ⟨by rw [show ((gk - 1 : Nat) : Int) = (gk : Int) - 1 by omega], ⟨i + 1, M6, by omega, bw, r0, ow, r1, sm⟩⟩
set_option maxHeartbeats 8000000 in
set_option maxRecDepth 100000 in
theorem tr47b (B O m c b C L p q n : Nat) (D M : Nat → Nat) (w : World) (hT : TabAt w) (hD : Dat w B O m D) (hO : Own w b C L M) (hBb : B ≠ b) (h1b : b ≠ 1) (hc : m ≤ c) (hL : L ≤ C) (hn : 0 < n) (hp : p + n ≤ 8 * m) (hq : q + n ≤ 8 * L) (hm : m < 2 ^ 36) (hE : L < 2 ^ 40) (u0 : (p : Int) % 8 = 0) (u2 : (q : Int) % 8 ≠ 0) :
    Calls Tryd.prog 47 #[.int .i8 0, .slice (some ⟨B, O, none⟩) m c, .int .i64 (p : Int), .int .i64 (n : Int), .slice (some ⟨b, 0, none⟩) L C, .int .i64 (q : Int)] w fun e w' => e = .returned (.tuple #[]) ∧ Tch (fun k => k = b) w w' ∧ ∃ M', Own w' b C L M' ∧ Wrote M q n (fun i => bitD D (p + i)) M' := by
  obtain ⟨s0, hs0⟩ : ∃ s, s = p / 8 := ⟨_, rfl⟩
  obtain ⟨o0, ho0⟩ : ∃ o, o = p % 8 := ⟨_, rfl⟩
  obtain ⟨s1, hs1⟩ : ∃ s, s = q / 8 := ⟨_, rfl⟩
  obtain ⟨o1, ho1⟩ : ∃ o, o = q % 8 := ⟨_, rfl⟩
  obtain ⟨nw, hnw⟩ : ∃ k, k = n / 64 - 1 := ⟨_, rfl⟩
  obtain ⟨t, ht⟩ : ∃ k, k = n - 64 * nw := ⟨_, rfl⟩
  obtain ⟨E0, hE0⟩ : ∃ k, k = s0 + (o0 + n + 7) / 8 := ⟨_, rfl⟩
  obtain ⟨tB, htB⟩ : ∃ k, k = (t + 7) / 8 := ⟨_, rfl⟩
  obtain ⟨f, hf⟩ : ∃ f : Nat → Bool, f = fun i => bitD D (p + i) := ⟨_, rfl⟩
  rw [← hf]
  have N0 : Calls Tryd.prog 42 #[.slice (some ⟨B, O, none⟩) m c, .int .i64 (p : Int), .int .i64 (n : Int)] w fun e w' => e = .returned (.pointer (some ⟨w.heap.size, 0, none⟩)) ∧ Below w.heap.size w w' ∧ Rs w' w.heap.size B O E0 D s0 o0 (nw : Int) (t : Int) (tB : Int) nw := by
    rw [hE0, htB]
    exact rs_new B O m D c p n s0 o0 nw t w hD hc hn hs0 ho0 hnw ht hp (by omega)
  have N1 : ∀ W, Below w.heap.size w W → Calls Tryd.prog 18 #[.slice (some ⟨b, 0, none⟩) L C, .int .i64 (q : Int), .int .i64 (n : Int)] W fun e w' => e = .returned (.pointer (some ⟨W.heap.size, 0, none⟩)) ∧ Below W.heap.size W w' ∧ Ww w' W.heap.size b C L s1 o1 M := fun W hb =>
    ww_new b C L M q s1 o1 n W (hO.tch (Tch.of_below (S := fun _ => False) hb) (fun h => h)) hL hq hE hs1 ho1 hn
  have dat0 : ∀ W, Tch (fun k => k = b) w W → Dat W B O E0 D := fun W hb => (hD.tch hb hBb).less (by omega)
  have tabs : ∀ W, Tch (fun k => k = b) w W → TabAt W := fun W hb => hT.tch hb (fun e => h1b e.symm)
  have own0 : ∀ W, Below w.heap.size w W → Own W b C L M := fun W hb => hO.tch (Tch.of_below (S := fun _ => False) hb) (fun h => h)
  have b0 : B < w.heap.size := World.block_lt_of_cell? w ⟨B, O, none⟩ (hD.at_ 0 O (by omega) rfl)
  have b1 : b < w.heap.size := hO.lt
  have q0 : 8 * s0 + o0 = p := by omega
  have q1 : 8 * s1 + o1 = q := by omega
  have F : n = 64 * nw + t ∧ 0 < t ∧ (0 < nw → 64 ≤ t) ∧ t < 128 ∧ o0 < 8 ∧ o1 < 8 ∧ E0 < 2 ^ 40 ∧ nw < 2 ^ 40 ∧ L < 2 ^ 41 := by omega
  have HF := Lib.hid (And.intro F (And.intro b0 (And.intro b1 (And.intro hE0 (And.intro htB (And.intro q0 (And.intro q1 (And.intro hq (And.intro hE (And.intro hL hf))))))))))
  have kn : ¬ (n : Int) = 0 := by omega
  clear F hs0 ho0 hs1 ho1 hnw ht hE0 htB hD hO hT hc hn hp hq hm hE b0 b1 q0 q1 hf
  go_enter Tryd.func47, Tryd.ntmps47
  go_wp2_with (go_at_call 42; fail)
  refine N0.mono ?_
  rintro e w1 ⟨rfl, B1, r1⟩
  clear N0
  obtain ⟨g0, hg0⟩ : ∃ g, g = w.heap.size := ⟨_, rfl⟩
  rw [← hg0] at r1
  have HA := Lib.hid (And.intro hg0 (And.intro B1 r1))
  clear B1 r1
  simp only [← hg0]
  clear hg0
  go_wp2_with (go_at_call 18; fail)
  refine (N1 w1 HA.out.2.1).mono ?_
  rintro e w2 ⟨rfl, B2, r2⟩
  clear N1
  obtain ⟨g1, hg1⟩ : ∃ g, g = w1.heap.size := ⟨_, rfl⟩
  rw [← hg1] at r2
  have HG : Hid (g0 = w.heap.size ∧ g0 < g1 ∧ Below w.heap.size w w2 ∧ Rs w2 g0 B O E0 D s0 o0 (nw : Int) (t : Int) (tB : Int) nw ∧ Ww w2 g1 b C L s1 o1 M) := by
    obtain ⟨e, b1, r1⟩ := HA.out
    obtain ⟨c, cw, x1, x2, x3, x4, x5⟩ := id r1
    refine Lib.hid ⟨e, by rw [hg1]; exact Tch.lt x5, Tch.below b1 (Tch.of_below (S := fun _ => False) B2) b1.size (fun _ h => h.elim), r1.tch (Tch.of_below (S := fun _ => False) B2) (fun h => h), r2⟩
  clear B2 r2 HA
  simp only [← hg1]
  clear hg1
  go_wp2_with (go_at_call 43; fail)
  refine (rs_words g0 B O E0 D s0 o0 nw _ _ _ w2 HG.out.2.2.2.1).mono ?_
  rintro e w3 ⟨rfl, rfl⟩
  go_wp2_with fail
  go_loopg [16] nw (fun kq v16 wr => v16 = .int .i64 (kq : Int) ∧ Aside0 (∃ i Mi, i + kq = nw ∧ Tch (fun k => k = b) w wr ∧ Rs wr g0 B O E0 D (s0 + 8 * i) o0 (nw : Int) (t : Int) (tB : Int) kq ∧ Own wr b C L Mi ∧ Ww wr g1 b C L (s1 + 8 * i) o1 Mi ∧ Wrote M q (64 * i) f Mi))
  case atStart => exact ⟨rfl, ⟨0, M, by omega, Tch.of_below HG.out.2.2.1, HG.out.2.2.2.1, own0 _ HG.out.2.2.1, HG.out.2.2.2.2, Wrote.zero _ _ _⟩⟩
  case round =>
    obtain ⟨rfl, HA⟩ := hrel
    rcases Nat.eq_zero_or_pos gk with hk | hk
    · subst hk
      obtain ⟨Mn, HB⟩ : ∃ Mn, Hid (Tch (fun k => k = b) w wr ∧ Rs wr g0 B O E0 D (s0 + 8 * nw) o0 (nw : Int) (t : Int) (tB : Int) 0 ∧ Own wr b C L Mn ∧ Ww wr g1 b C L (s1 + 8 * nw) o1 Mn ∧ Wrote M q (64 * nw) f Mn) := by
        obtain ⟨i, Mi, hi, bw, r0, ow, r1, sm⟩ := HA.out
        obtain rfl : i = nw := by omega
        exact ⟨Mi, Lib.hid ⟨bw, r0, ow, r1, sm⟩⟩
      clear HA
      go_wp2_with (go_at_call 45; fail)
      refine (rs_bytes g0 B O E0 D (s0 + 8 * nw) o0 0 _ _ _ wr HB.out.2.1).mono ?_
      rintro e w3 ⟨rfl, rfl⟩
      go_wp2_with fail
      go_loopg [17] tB (fun kq v17 wr2 => v17 = .int .i64 (kq : Int) ∧ Aside0 (∃ j Mj, j + kq = tB ∧ Tch (fun k => k = b) w wr2 ∧ (0 < kq → Rs wr2 g0 B O E0 D (s0 + 8 * nw + j) o0 (nw : Int) ((t - 8 * j : Nat) : Int) (kq : Int) 0 ∧ Ww wr2 g1 b C L (s1 + 8 * nw + j) o1 Mj) ∧ Own wr2 b C L Mj ∧ Wrote M q (64 * nw + min (8 * j) t) f Mj))
      case atStart => exact ⟨rfl, ⟨0, Mn, by omega, HB.out.1, fun _ => ⟨HB.out.2.1, HB.out.2.2.2.1⟩, HB.out.2.2.1, by rw [show 64 * nw + min (8 * 0) t = 64 * nw by omega]; exact HB.out.2.2.2.2⟩⟩
      case round =>
        clear HB
        obtain ⟨rfl, HA⟩ := hrel
        rcases Nat.eq_zero_or_pos gk with hk | hk
        · subst hk
          go_wp2
          refine bodyPost_ret (results_none rfl _ _ _) rfl ?_
          obtain ⟨j, Mj, hj, bw, -, ow, sm⟩ := HA.out
          obtain ⟨F, -, -, -, htB, -⟩ := HF.out
          rw [show 64 * nw + min (8 * j) t = n by omega] at sm
          exact ⟨rfl, bw, Mj, ow, sm⟩
        · have hk1 : (0 : Int) < (gk : Int) := by omega
          have hk2 : (gk : Int) < 10000000000000 := by
            obtain ⟨j, Mj, hj, -⟩ := HA.out
            obtain ⟨F, -, -, -, htB, -⟩ := HF.out
            omega
          obtain ⟨x, y, j, Mj, HC⟩ : ∃ x y j : Nat, ∃ Mj, Hid (j + gk = tB ∧ Tch (fun k => k = b) w wr ∧ Wrote M q (64 * nw + min (8 * j) t) f Mj ∧ (x < 256 ∧ y = x) ∧ (∀ i, i < min 8 (t - 8 * j) → y.testBit i = f (64 * nw + min (8 * j) t + i)) ∧
              Calls Tryd.prog 46 #[.pointer (some ⟨g0, 0, none⟩)] wr (fun e w' => e = .returned (.tuple #[.int .u8 x, .int .i64 (min 8 (t - 8 * j) : Nat)]) ∧ Tch (fun k => k = g0) wr w' ∧ (8 < t - 8 * j → Rs w' g0 B O E0 D (s0 + 8 * nw + (j + 1)) o0 (nw : Int) ((t - 8 * (j + 1) : Nat) : Int) ((gk - 1 : Nat) : Int) 0)) ∧
              ∀ W, Tch (fun k => k = g0) wr W → Calls Tryd.prog 20 #[.pointer (some ⟨g1, 0, none⟩), .int .u8 (y : Int), .int .i64 (min 8 (t - 8 * j) : Nat)] W (fun e w' => e = .returned (.tuple #[]) ∧ Tch (fun k => k = g1 ∨ k = b) W w' ∧ ∃ M', Own w' b C L M' ∧ Upd Mj (q + (64 * nw + min (8 * j) t)) (min 8 (t - 8 * j)) y M' ∧ (min 8 (t - 8 * j) = 8 → Ww w' g1 b C L (s1 + 8 * nw + (j + 1)) o1 M'))) := by
            obtain ⟨j, Mj, hj, bw, hr, ow, sm⟩ := HA.out
            obtain ⟨r0, r1⟩ := hr hk
            obtain ⟨F, b0, b1, hE0, htB, q0, q1, hq, hE, hL, hf⟩ := HF.out
            obtain ⟨hg0, hg01, -, -, -⟩ := HG.out
            obtain ⟨x, hx⟩ : ∃ x, x = pk D (p + 64 * nw + 8 * j) (min 8 (t - 8 * j)) := ⟨_, rfl⟩
            have hx8 : x < 256 := by
              rw [hx]
              exact Nat.lt_of_lt_of_le (pk_lt _ _ _) (show 2 ^ (min 8 (t - 8 * j)) ≤ 2 ^ 8 from Nat.pow_le_pow_right (by omega) (by omega))
            refine ⟨x, _, j, Mj, Lib.hid ⟨hj, bw, sm, ⟨hx8, rfl⟩, fun i hi => ?_, ?_, fun W T => ?_⟩⟩
            · rw [hx, pk_testBit, hf]
              simp only [hi, decide_true, Bool.true_and]
              congr 1
              omega
            · have C := rs_tail g0 B O E0 D (s0 + 8 * nw + j) o0 0 (t - 8 * j) (min 8 (t - 8 * j)) (nw : Int) (gk : Int) wr (dat0 wr bw) (by omega) r0 (by omega) (by omega) (by omega) (by omega) (by omega) (by omega) (by omega) rfl
              rw [show 8 * (s0 + 8 * nw + j) + o0 = p + 64 * nw + 8 * j by omega, show t - 8 * j - 8 = t - 8 * (j + 1) by omega, show (gk : Int) - 1 = ((gk - 1 : Nat) : Int) by omega, Nat.add_assoc (s0 + 8 * nw), ← hx] at C
              exact C
            · have TT : Tch (fun k => k = b) w W := bw.then_ T (fun k hk => .inr (by omega))
              have C := ww_tail g1 b C L Mj (s1 + 8 * nw + j) o1 x (min 8 (t - 8 * j)) W (tabs W TT) (ow.tch T (by omega)) (by omega) (r1.tch T (by omega)) (by omega) (by omega) (by omega) (by omega) (by omega) hE (by omega)
              rw [show 8 * (s1 + 8 * nw + j) + o1 = q + (64 * nw + min (8 * j) t) by omega, Nat.add_assoc (s1 + 8 * nw)] at C
              exact C
          clear HA
          go_wp2_with (go_at_call 46; fail)
          refine (HC.out.2.2.2.2.2.1).mono ?_
          rintro e w5 ⟨rfl, T5, r5⟩
          have H5 := Lib.hid (And.intro T5 r5)
          clear T5 r5
          skip
          obtain rfl : y = x := HC.out.2.2.2.1.2
          go_wp2_with (go_at_call 20; fail)
          refine (HC.out.2.2.2.2.2.2 w5 H5.out.1).mono ?_
          rintro e w6 ⟨rfl, T6, M6, O6, U6, r6⟩
          have HC2 : Hid (j + gk = tB ∧ Tch (fun k => k = b) w w6 ∧ (0 < gk - 1 → Rs w6 g0 B O E0 D (s0 + 8 * nw + (j + 1)) o0 (nw : Int) ((t - 8 * (j + 1) : Nat) : Int) ((gk - 1 : Nat) : Int) 0 ∧ Ww w6 g1 b C L (s1 + 8 * nw + (j + 1)) o1 M6) ∧ Own w6 b C L M6 ∧ Wrote M q (64 * nw + min (8 * (j + 1)) t) f M6) := by
            obtain ⟨hj, bw, sm, -, hbit, -, -⟩ := HC.out
            obtain ⟨T5, r5⟩ := H5.out
            obtain ⟨hg0, hg01, -, -, -⟩ := HG.out
            obtain ⟨F, b0, b1, hE0, htB, q0, q1, -⟩ := HF.out
            have bw5 : Tch (fun k => k = b) w w5 := bw.then_ T5 (fun k hk => .inr (by omega))
            refine Lib.hid ⟨hj, bw5.then_ T6 (fun k hk => hk.elim (fun e => .inr (by omega)) .inl), fun h => ⟨(r5 (by omega)).tch T6 (by omega), r6 (by omega)⟩, O6, ?_⟩
            rw [show 64 * nw + min (8 * (j + 1)) t = (64 * nw + min (8 * j) t) + min 8 (t - 8 * j) by omega]
            exact sm.more U6 hbit
          clear HC H5 T6 O6 U6 r6
          go_wp2_with fail
          go_roundg (gk - 1)
          case measure => omega
          case rel =>
            obtain ⟨hj, bw, hr, ow, sm⟩ := HC2.out
            exact ⟨by rw [show ((gk - 1 : Nat) : Int) = (gk : Int) - 1 by omega], ⟨j + 1, M6, by omega, bw, hr, ow, sm⟩⟩
    · have hk1 : (0 : Int) < (gk : Int) := by omega
      have hk2 : (gk : Int) < 10000000000000 := by
        obtain ⟨i, Mi, hi, -⟩ := HA.out
        obtain ⟨F, -⟩ := HF.out
        omega
      obtain ⟨x, y, i, Mi, HC⟩ : ∃ x y i : Nat, ∃ Mi, Hid (i + gk = nw ∧ Tch (fun k => k = b) w wr ∧ Wrote M q (64 * i) f Mi ∧ (x < 2 ^ 64 ∧ y = x) ∧ (∀ k, k < 64 → y.testBit k = f (64 * i + k)) ∧
          Calls Tryd.prog 44 #[.pointer (some ⟨g0, 0, none⟩)] wr (fun e w' => e = .returned (.int .u64 x) ∧ Tch (fun k => k = g0) wr w' ∧ Rs w' g0 B O E0 D (s0 + 8 * (i + 1)) o0 (nw : Int) (t : Int) (tB : Int) (gk - 1)) ∧
          ∀ W, Tch (fun k => k = g0) wr W → Calls Tryd.prog 19 #[.pointer (some ⟨g1, 0, none⟩), .int .u64 (y : Int)] W (fun e w' => e = .returned (.tuple #[]) ∧ Tch (fun k => k = g1 ∨ k = b) W w' ∧ ∃ M', Own w' b C L M' ∧ Upd Mi (q + 64 * i) 64 y M' ∧ Ww w' g1 b C L (s1 + 8 * (i + 1)) o1 M')) := by
        obtain ⟨i, Mi, hi, bw, r0, ow, r1, sm⟩ := HA.out
        obtain ⟨F, b0, b1, hE0, htB, q0, q1, hq, hE, hL, hf⟩ := HF.out
        obtain ⟨hg0, hg01, -, -, -⟩ := HG.out
        obtain ⟨x, hx⟩ : ∃ x, x = pk D (p + 64 * i) 64 := ⟨_, rfl⟩
        have hx64 : x < 2 ^ 64 := by rw [hx]; exact pk_lt _ _ _
        refine ⟨x, _, i, Mi, Lib.hid ⟨hi, bw, sm, ⟨hx64, rfl⟩, fun k hk => ?_, ?_, fun W T => ?_⟩⟩
        · rw [hx, pk_testBit, hf]
          simp only [hk, decide_true, Bool.true_and, Nat.add_assoc]
        · have C := rs_word g0 B O E0 D (s0 + 8 * i) o0 gk (gk - 1) (nw : Int) (t : Int) (tB : Int) wr (dat0 wr bw) (by omega) r0 hk (by omega) (by omega) (by omega)
          rw [show 8 * (s0 + 8 * i) + o0 = p + 64 * i by omega, show s0 + 8 * i + 8 = s0 + 8 * (i + 1) by omega, ← hx] at C
          exact C
        · have C := ww_word g1 b C L Mi (s1 + 8 * i) o1 x W (ow.tch T (by omega)) (by omega) (r1.tch T (by omega)) (by omega) (by omega) (by omega) (by omega) hE (by omega)
          rw [show 8 * (s1 + 8 * i) + o1 = q + 64 * i by omega, show s1 + 8 * i + 8 = s1 + 8 * (i + 1) by omega] at C
          exact C
      clear HA
      go_wp2_with (go_at_call 44; fail)
      refine (HC.out.2.2.2.2.2.1).mono ?_
      rintro e w5 ⟨rfl, T5, r5⟩
      have H5 := Lib.hid (And.intro T5 r5)
      clear T5 r5
      skip
      obtain rfl : y = x := HC.out.2.2.2.1.2
      go_wp2_with (go_at_call 19; fail)
      refine (HC.out.2.2.2.2.2.2 w5 H5.out.1).mono ?_
      rintro e w6 ⟨rfl, T6, M6, O6, U6, r6⟩
      have HC2 : Hid (i + gk = nw ∧ Tch (fun k => k = b) w w6 ∧ Rs w6 g0 B O E0 D (s0 + 8 * (i + 1)) o0 (nw : Int) (t : Int) (tB : Int) (gk - 1) ∧ Own w6 b C L M6 ∧ Ww w6 g1 b C L (s1 + 8 * (i + 1)) o1 M6 ∧ Wrote M q (64 * (i + 1)) f M6) := by
        obtain ⟨hj, bw, sm, -, hbit, -, -⟩ := HC.out
        obtain ⟨T5, r5⟩ := H5.out
        obtain ⟨hg0, hg01, -, -, -⟩ := HG.out
        obtain ⟨F, b0, b1, hE0, htB, q0, q1, -⟩ := HF.out
        have bw5 : Tch (fun k => k = b) w w5 := bw.then_ T5 (fun k hk => .inr (by omega))
        refine Lib.hid ⟨hj, bw5.then_ T6 (fun k hk => hk.elim (fun e => .inr (by omega)) .inl), r5.tch T6 (by omega), O6, r6, ?_⟩
        rw [show 64 * (i + 1) = 64 * i + 64 by omega]
        exact sm.more U6 hbit
      clear HC H5 T6 O6 U6 r6
      go_wp2_with fail
      go_roundg (gk - 1)
      case measure => omega
      case rel =>
        obtain ⟨hi, bw, r0, ow, r1, sm⟩ := HC2.out
        exact ⟨by rw [show ((gk - 1 : Nat) : Int) = (gk : Int) - 1 by omega], ⟨i + 1, M6, by omega, bw, r0, ow, r1, sm⟩⟩
set_option maxHeartbeats 8000000 in
set_option maxRecDepth 100000 in
theorem tr47c (B O m c b C L p q n : Nat) (D M : Nat → Nat) (w : World) (hT : TabAt w) (hD : Dat w B O m D) (hO : Own w b C L M) (hBb : B ≠ b) (h1b : b ≠ 1) (hc : m ≤ c) (hL : L ≤ C) (hn : 0 < n) (hp : p + n ≤ 8 * m) (hq : q + n ≤ 8 * L) (hm : m < 2 ^ 36) (hE : L < 2 ^ 40) (u0 : (p : Int) % 8 ≠ 0) :
    Calls Tryd.prog 47 #[.int .i8 1, .slice (some ⟨B, O, none⟩) m c, .int .i64 (p : Int), .int .i64 (n : Int), .slice (some ⟨b, 0, none⟩) L C, .int .i64 (q : Int)] w fun e w' => e = .returned (.tuple #[]) ∧ Tch (fun k => k = b) w w' ∧ ∃ M', Own w' b C L M' ∧ Wrote M q n (fun i => !bitD D (p + i)) M' := by
  obtain ⟨s0, hs0⟩ : ∃ s, s = p / 8 := ⟨_, rfl⟩
  obtain ⟨o0, ho0⟩ : ∃ o, o = p % 8 := ⟨_, rfl⟩
  obtain ⟨s1, hs1⟩ : ∃ s, s = q / 8 := ⟨_, rfl⟩
  obtain ⟨o1, ho1⟩ : ∃ o, o = q % 8 := ⟨_, rfl⟩
  obtain ⟨nw, hnw⟩ : ∃ k, k = n / 64 - 1 := ⟨_, rfl⟩
  obtain ⟨t, ht⟩ : ∃ k, k = n - 64 * nw := ⟨_, rfl⟩
  obtain ⟨E0, hE0⟩ : ∃ k, k = s0 + (o0 + n + 7) / 8 := ⟨_, rfl⟩
  obtain ⟨tB, htB⟩ : ∃ k, k = (t + 7) / 8 := ⟨_, rfl⟩
  obtain ⟨f, hf⟩ : ∃ f : Nat → Bool, f = fun i => !bitD D (p + i) := ⟨_, rfl⟩
  rw [← hf]
  have N0 : Calls Tryd.prog 42 #[.slice (some ⟨B, O, none⟩) m c, .int .i64 (p : Int), .int .i64 (n : Int)] w fun e w' => e = .returned (.pointer (some ⟨w.heap.size, 0, none⟩)) ∧ Below w.heap.size w w' ∧ Rs w' w.heap.size B O E0 D s0 o0 (nw : Int) (t : Int) (tB : Int) nw := by
    rw [hE0, htB]
    exact rs_new B O m D c p n s0 o0 nw t w hD hc hn hs0 ho0 hnw ht hp (by omega)
  have N1 : ∀ W, Below w.heap.size w W → Calls Tryd.prog 18 #[.slice (some ⟨b, 0, none⟩) L C, .int .i64 (q : Int), .int .i64 (n : Int)] W fun e w' => e = .returned (.pointer (some ⟨W.heap.size, 0, none⟩)) ∧ Below W.heap.size W w' ∧ Ww w' W.heap.size b C L s1 o1 M := fun W hb =>
    ww_new b C L M q s1 o1 n W (hO.tch (Tch.of_below (S := fun _ => False) hb) (fun h => h)) hL hq hE hs1 ho1 hn
  have dat0 : ∀ W, Tch (fun k => k = b) w W → Dat W B O E0 D := fun W hb => (hD.tch hb hBb).less (by omega)
  have tabs : ∀ W, Tch (fun k => k = b) w W → TabAt W := fun W hb => hT.tch hb (fun e => h1b e.symm)
  have own0 : ∀ W, Below w.heap.size w W → Own W b C L M := fun W hb => hO.tch (Tch.of_below (S := fun _ => False) hb) (fun h => h)
  have b0 : B < w.heap.size := World.block_lt_of_cell? w ⟨B, O, none⟩ (hD.at_ 0 O (by omega) rfl)
  have b1 : b < w.heap.size := hO.lt
  have q0 : 8 * s0 + o0 = p := by omega
  have q1 : 8 * s1 + o1 = q := by omega
  have F : n = 64 * nw + t ∧ 0 < t ∧ (0 < nw → 64 ≤ t) ∧ t < 128 ∧ o0 < 8 ∧ o1 < 8 ∧ E0 < 2 ^ 40 ∧ nw < 2 ^ 40 ∧ L < 2 ^ 41 := by omega
  have HF := Lib.hid (And.intro F (And.intro b0 (And.intro b1 (And.intro hE0 (And.intro htB (And.intro q0 (And.intro q1 (And.intro hq (And.intro hE (And.intro hL hf))))))))))
  have kn : ¬ (n : Int) = 0 := by omega
  clear F hs0 ho0 hs1 ho1 hnw ht hE0 htB hD hO hT hc hn hp hq hm hE b0 b1 q0 q1 hf
  go_enter Tryd.func47, Tryd.ntmps47
  go_wp2_with (go_at_call 42; fail)
  refine N0.mono ?_
  rintro e w1 ⟨rfl, B1, r1⟩
  clear N0
  obtain ⟨g0, hg0⟩ : ∃ g, g = w.heap.size := ⟨_, rfl⟩
  rw [← hg0] at r1
  have HA := Lib.hid (And.intro hg0 (And.intro B1 r1))
  clear B1 r1
  simp only [← hg0]
  clear hg0
  go_wp2_with (go_at_call 18; fail)
  refine (N1 w1 HA.out.2.1).mono ?_
  rintro e w2 ⟨rfl, B2, r2⟩
  clear N1
  obtain ⟨g1, hg1⟩ : ∃ g, g = w1.heap.size := ⟨_, rfl⟩
  rw [← hg1] at r2
  have HG : Hid (g0 = w.heap.size ∧ g0 < g1 ∧ Below w.heap.size w w2 ∧ Rs w2 g0 B O E0 D s0 o0 (nw : Int) (t : Int) (tB : Int) nw ∧ Ww w2 g1 b C L s1 o1 M) := by
    obtain ⟨e, b1, r1⟩ := HA.out
    obtain ⟨c, cw, x1, x2, x3, x4, x5⟩ := id r1
    refine Lib.hid ⟨e, by rw [hg1]; exact Tch.lt x5, Tch.below b1 (Tch.of_below (S := fun _ => False) B2) b1.size (fun _ h => h.elim), r1.tch (Tch.of_below (S := fun _ => False) B2) (fun h => h), r2⟩
  clear B2 r2 HA
  simp only [← hg1]
  clear hg1
  go_wp2_with (go_at_call 43; fail)
  refine (rs_words g0 B O E0 D s0 o0 nw _ _ _ w2 HG.out.2.2.2.1).mono ?_
  rintro e w3 ⟨rfl, rfl⟩
  go_wp2_with fail
  go_loopg [16] nw (fun kq v16 wr => v16 = .int .i64 (kq : Int) ∧ Aside0 (∃ i Mi, i + kq = nw ∧ Tch (fun k => k = b) w wr ∧ Rs wr g0 B O E0 D (s0 + 8 * i) o0 (nw : Int) (t : Int) (tB : Int) kq ∧ Own wr b C L Mi ∧ Ww wr g1 b C L (s1 + 8 * i) o1 Mi ∧ Wrote M q (64 * i) f Mi))
  case atStart => exact ⟨rfl, ⟨0, M, by omega, Tch.of_below HG.out.2.2.1, HG.out.2.2.2.1, own0 _ HG.out.2.2.1, HG.out.2.2.2.2, Wrote.zero _ _ _⟩⟩
  case round =>
    obtain ⟨rfl, HA⟩ := hrel
    rcases Nat.eq_zero_or_pos gk with hk | hk
    · subst hk
      obtain ⟨Mn, HB⟩ : ∃ Mn, Hid (Tch (fun k => k = b) w wr ∧ Rs wr g0 B O E0 D (s0 + 8 * nw) o0 (nw : Int) (t : Int) (tB : Int) 0 ∧ Own wr b C L Mn ∧ Ww wr g1 b C L (s1 + 8 * nw) o1 Mn ∧ Wrote M q (64 * nw) f Mn) := by
        obtain ⟨i, Mi, hi, bw, r0, ow, r1, sm⟩ := HA.out
        obtain rfl : i = nw := by omega
        exact ⟨Mi, Lib.hid ⟨bw, r0, ow, r1, sm⟩⟩
      clear HA
      go_wp2_with (go_at_call 45; fail)
      refine (rs_bytes g0 B O E0 D (s0 + 8 * nw) o0 0 _ _ _ wr HB.out.2.1).mono ?_
      rintro e w3 ⟨rfl, rfl⟩
      go_wp2_with fail
      go_loopg [17] tB (fun kq v17 wr2 => v17 = .int .i64 (kq : Int) ∧ Aside0 (∃ j Mj, j + kq = tB ∧ Tch (fun k => k = b) w wr2 ∧ (0 < kq → Rs wr2 g0 B O E0 D (s0 + 8 * nw + j) o0 (nw : Int) ((t - 8 * j : Nat) : Int) (kq : Int) 0 ∧ Ww wr2 g1 b C L (s1 + 8 * nw + j) o1 Mj) ∧ Own wr2 b C L Mj ∧ Wrote M q (64 * nw + min (8 * j) t) f Mj))
      case atStart => exact ⟨rfl, ⟨0, Mn, by omega, HB.out.1, fun _ => ⟨HB.out.2.1, HB.out.2.2.2.1⟩, HB.out.2.2.1, by rw [show 64 * nw + min (8 * 0) t = 64 * nw by omega]; exact HB.out.2.2.2.2⟩⟩
      case round =>
        clear HB
        obtain ⟨rfl, HA⟩ := hrel
        rcases Nat.eq_zero_or_pos gk with hk | hk
        · subst hk
          go_wp2
          refine bodyPost_ret (results_none rfl _ _ _) rfl ?_
          obtain ⟨j, Mj, hj, bw, -, ow, sm⟩ := HA.out
          obtain ⟨F, -, -, -, htB, -⟩ := HF.out
          rw [show 64 * nw + min (8 * j) t = n by omega] at sm
          exact ⟨rfl, bw, Mj, ow, sm⟩
        · have hk1 : (0 : Int) < (gk : Int) := by omega
          have hk2 : (gk : Int) < 10000000000000 := by
            obtain ⟨j, Mj, hj, -⟩ := HA.out
            obtain ⟨F, -, -, -, htB, -⟩ := HF.out
            omega
          obtain ⟨x, y, j, Mj, HC⟩ : ∃ x y j : Nat, ∃ Mj, Hid (j + gk = tB ∧ Tch (fun k => k = b) w wr ∧ Wrote M q (64 * nw + min (8 * j) t) f Mj ∧ (x < 256 ∧ y = (255 - x)) ∧ (∀ i, i < min 8 (t - 8 * j) → y.testBit i = f (64 * nw + min (8 * j) t + i)) ∧
              Calls Tryd.prog 46 #[.pointer (some ⟨g0, 0, none⟩)] wr (fun e w' => e = .returned (.tuple #[.int .u8 x, .int .i64 (min 8 (t - 8 * j) : Nat)]) ∧ Tch (fun k => k = g0) wr w' ∧ (8 < t - 8 * j → Rs w' g0 B O E0 D (s0 + 8 * nw + (j + 1)) o0 (nw : Int) ((t - 8 * (j + 1) : Nat) : Int) ((gk - 1 : Nat) : Int) 0)) ∧
              ∀ W, Tch (fun k => k = g0) wr W → Calls Tryd.prog 20 #[.pointer (some ⟨g1, 0, none⟩), .int .u8 (y : Int), .int .i64 (min 8 (t - 8 * j) : Nat)] W (fun e w' => e = .returned (.tuple #[]) ∧ Tch (fun k => k = g1 ∨ k = b) W w' ∧ ∃ M', Own w' b C L M' ∧ Upd Mj (q + (64 * nw + min (8 * j) t)) (min 8 (t - 8 * j)) y M' ∧ (min 8 (t - 8 * j) = 8 → Ww w' g1 b C L (s1 + 8 * nw + (j + 1)) o1 M'))) := by
            obtain ⟨j, Mj, hj, bw, hr, ow, sm⟩ := HA.out
            obtain ⟨r0, r1⟩ := hr hk
            obtain ⟨F, b0, b1, hE0, htB, q0, q1, hq, hE, hL, hf⟩ := HF.out
            obtain ⟨hg0, hg01, -, -, -⟩ := HG.out
            obtain ⟨x, hx⟩ : ∃ x, x = pk D (p + 64 * nw + 8 * j) (min 8 (t - 8 * j)) := ⟨_, rfl⟩
            have hx8 : x < 256 := by
              rw [hx]
              exact Nat.lt_of_lt_of_le (pk_lt _ _ _) (show 2 ^ (min 8 (t - 8 * j)) ≤ 2 ^ 8 from Nat.pow_le_pow_right (by omega) (by omega))
            refine ⟨x, _, j, Mj, Lib.hid ⟨hj, bw, sm, ⟨hx8, rfl⟩, fun i hi => ?_, ?_, fun W T => ?_⟩⟩
            · rw [inv_bit8 x i hx8 (by omega), hx, pk_testBit, hf]
              simp only [hi, decide_true, Bool.true_and]
              congr 2
              omega
            · have C := rs_tail g0 B O E0 D (s0 + 8 * nw + j) o0 0 (t - 8 * j) (min 8 (t - 8 * j)) (nw : Int) (gk : Int) wr (dat0 wr bw) (by omega) r0 (by omega) (by omega) (by omega) (by omega) (by omega) (by omega) (by omega) rfl
              rw [show 8 * (s0 + 8 * nw + j) + o0 = p + 64 * nw + 8 * j by omega, show t - 8 * j - 8 = t - 8 * (j + 1) by omega, show (gk : Int) - 1 = ((gk - 1 : Nat) : Int) by omega, Nat.add_assoc (s0 + 8 * nw), ← hx] at C
              exact C
            · have TT : Tch (fun k => k = b) w W := bw.then_ T (fun k hk => .inr (by omega))
              have C := ww_tail g1 b C L Mj (s1 + 8 * nw + j) o1 (255 - x) (min 8 (t - 8 * j)) W (tabs W TT) (ow.tch T (by omega)) (by omega) (r1.tch T (by omega)) (by omega) (by omega) (by omega) (by omega) (by omega) hE (by omega)
              rw [show 8 * (s1 + 8 * nw + j) + o1 = q + (64 * nw + min (8 * j) t) by omega, Nat.add_assoc (s1 + 8 * nw)] at C
              exact C
          clear HA
          go_wp2_with (go_at_call 46; fail)
          refine (HC.out.2.2.2.2.2.1).mono ?_
          rintro e w5 ⟨rfl, T5, r5⟩
          have H5 := Lib.hid (And.intro T5 r5)
          clear T5 r5
          have ex := xor8 x HC.out.2.2.2.1.1
          rw [← HC.out.2.2.2.1.2] at ex
          go_wp2_with (go_at_call 20; fail)
          refine (HC.out.2.2.2.2.2.2 w5 H5.out.1).mono ?_
          rintro e w6 ⟨rfl, T6, M6, O6, U6, r6⟩
          have HC2 : Hid (j + gk = tB ∧ Tch (fun k => k = b) w w6 ∧ (0 < gk - 1 → Rs w6 g0 B O E0 D (s0 + 8 * nw + (j + 1)) o0 (nw : Int) ((t - 8 * (j + 1) : Nat) : Int) ((gk - 1 : Nat) : Int) 0 ∧ Ww w6 g1 b C L (s1 + 8 * nw + (j + 1)) o1 M6) ∧ Own w6 b C L M6 ∧ Wrote M q (64 * nw + min (8 * (j + 1)) t) f M6) := by
            obtain ⟨hj, bw, sm, -, hbit, -, -⟩ := HC.out
            obtain ⟨T5, r5⟩ := H5.out
            obtain ⟨hg0, hg01, -, -, -⟩ := HG.out
            obtain ⟨F, b0, b1, hE0, htB, q0, q1, -⟩ := HF.out
            have bw5 : Tch (fun k => k = b) w w5 := bw.then_ T5 (fun k hk => .inr (by omega))
            refine Lib.hid ⟨hj, bw5.then_ T6 (fun k hk => hk.elim (fun e => .inr (by omega)) .inl), fun h => ⟨(r5 (by omega)).tch T6 (by omega), r6 (by omega)⟩, O6, ?_⟩
            rw [show 64 * nw + min (8 * (j + 1)) t = (64 * nw + min (8 * j) t) + min 8 (t - 8 * j) by omega]
            exact sm.more U6 hbit
          clear HC H5 T6 O6 U6 r6 ex
          go_wp2_with fail
          go_roundg (gk - 1)
          case measure => omega
          case rel =>
            obtain ⟨hj, bw, hr, ow, sm⟩ := HC2.out
            exact ⟨by rw [show ((gk - 1 : Nat) : Int) = (gk : Int) - 1 by omega], ⟨j + 1, M6, by omega, bw, hr, ow, sm⟩⟩
    · have hk1 : (0 : Int) < (gk : Int) := by omega
      have hk2 : (gk : Int) < 10000000000000 := by
        obtain ⟨i, Mi, hi, -⟩ := HA.out
        obtain ⟨F, -⟩ := HF.out
        omega
      obtain ⟨x, y, i, Mi, HC⟩ : ∃ x y i : Nat, ∃ Mi, Hid (i + gk = nw ∧ Tch (fun k => k = b) w wr ∧ Wrote M q (64 * i) f Mi ∧ (x < 2 ^ 64 ∧ y = (2 ^ 64 - 1 - x)) ∧ (∀ k, k < 64 → y.testBit k = f (64 * i + k)) ∧
          Calls Tryd.prog 44 #[.pointer (some ⟨g0, 0, none⟩)] wr (fun e w' => e = .returned (.int .u64 x) ∧ Tch (fun k => k = g0) wr w' ∧ Rs w' g0 B O E0 D (s0 + 8 * (i + 1)) o0 (nw : Int) (t : Int) (tB : Int) (gk - 1)) ∧
          ∀ W, Tch (fun k => k = g0) wr W → Calls Tryd.prog 19 #[.pointer (some ⟨g1, 0, none⟩), .int .u64 (y : Int)] W (fun e w' => e = .returned (.tuple #[]) ∧ Tch (fun k => k = g1 ∨ k = b) W w' ∧ ∃ M', Own w' b C L M' ∧ Upd Mi (q + 64 * i) 64 y M' ∧ Ww w' g1 b C L (s1 + 8 * (i + 1)) o1 M')) := by
        obtain ⟨i, Mi, hi, bw, r0, ow, r1, sm⟩ := HA.out
        obtain ⟨F, b0, b1, hE0, htB, q0, q1, hq, hE, hL, hf⟩ := HF.out
        obtain ⟨hg0, hg01, -, -, -⟩ := HG.out
        obtain ⟨x, hx⟩ : ∃ x, x = pk D (p + 64 * i) 64 := ⟨_, rfl⟩
        have hx64 : x < 2 ^ 64 := by rw [hx]; exact pk_lt _ _ _
        refine ⟨x, _, i, Mi, Lib.hid ⟨hi, bw, sm, ⟨hx64, rfl⟩, fun k hk => ?_, ?_, fun W T => ?_⟩⟩
        · rw [inv_bit64 x k hx64 hk, hx, pk_testBit, hf]
          simp only [hk, decide_true, Bool.true_and, Nat.add_assoc]
        · have C := rs_word g0 B O E0 D (s0 + 8 * i) o0 gk (gk - 1) (nw : Int) (t : Int) (tB : Int) wr (dat0 wr bw) (by omega) r0 hk (by omega) (by omega) (by omega)
          rw [show 8 * (s0 + 8 * i) + o0 = p + 64 * i by omega, show s0 + 8 * i + 8 = s0 + 8 * (i + 1) by omega, ← hx] at C
          exact C
        · have C := ww_word g1 b C L Mi (s1 + 8 * i) o1 (2 ^ 64 - 1 - x) W (ow.tch T (by omega)) (by omega) (r1.tch T (by omega)) (by omega) (by omega) (by omega) (by omega) hE (by omega)
          rw [show 8 * (s1 + 8 * i) + o1 = q + 64 * i by omega, show s1 + 8 * i + 8 = s1 + 8 * (i + 1) by omega] at C
          exact C
      clear HA
      go_wp2_with (go_at_call 44; fail)
      refine (HC.out.2.2.2.2.2.1).mono ?_
      rintro e w5 ⟨rfl, T5, r5⟩
      have H5 := Lib.hid (And.intro T5 r5)
      clear T5 r5
      have ex := xor64 x HC.out.2.2.2.1.1
      rw [← HC.out.2.2.2.1.2] at ex
      go_wp2_with (go_at_call 19; fail)
      refine (HC.out.2.2.2.2.2.2 w5 H5.out.1).mono ?_
      rintro e w6 ⟨rfl, T6, M6, O6, U6, r6⟩
      have HC2 : Hid (i + gk = nw ∧ Tch (fun k => k = b) w w6 ∧ Rs w6 g0 B O E0 D (s0 + 8 * (i + 1)) o0 (nw : Int) (t : Int) (tB : Int) (gk - 1) ∧ Own w6 b C L M6 ∧ Ww w6 g1 b C L (s1 + 8 * (i + 1)) o1 M6 ∧ Wrote M q (64 * (i + 1)) f M6) := by
        obtain ⟨hj, bw, sm, -, hbit, -, -⟩ := HC.out
        obtain ⟨T5, r5⟩ := H5.out
        obtain ⟨hg0, hg01, -, -, -⟩ := HG.out
        obtain ⟨F, b0, b1, hE0, htB, q0, q1, -⟩ := HF.out
        have bw5 : Tch (fun k => k = b) w w5 := bw.then_ T5 (fun k hk => .inr (by omega))
        refine Lib.hid ⟨hj, bw5.then_ T6 (fun k hk => hk.elim (fun e => .inr (by omega)) .inl), r5.tch T6 (by omega), O6, r6, ?_⟩
        rw [show 64 * (i + 1) = 64 * i + 64 by omega]
        exact sm.more U6 hbit
      clear HC H5 T6 O6 U6 r6 ex
      go_wp2_with fail
      go_roundg (gk - 1)
      case measure => omega
      case rel =>
        obtain ⟨hi, bw, r0, ow, r1, sm⟩ := HC2.out
        exact ⟨by rw [show ((gk - 1 : Nat) : Int) = (gk : Int) - 1 by omega], ⟨i + 1, M6, by omega, bw, r0, ow, r1, sm⟩⟩
set_option maxHeartbeats 8000000 in
set_option maxRecDepth 100000 in
theorem tr47d (B O m c b C L p q n : Nat) (D M : Nat → Nat) (w : World) (hT : TabAt w) (hD : Dat w B O m D) (hO : Own w b C L M) (hBb : B ≠ b) (h1b : b ≠ 1) (hc : m ≤ c) (hL : L ≤ C) (hn : 0 < n) (hp : p + n ≤ 8 * m) (hq : q + n ≤ 8 * L) (hm : m < 2 ^ 36) (hE : L < 2 ^ 40) (u0 : (p : Int) % 8 = 0) (u2 : (q : Int) % 8 ≠ 0) :
    Calls Tryd.prog 47 #[.int .i8 1, .slice (some ⟨B, O, none⟩) m c, .int .i64 (p : Int), .int .i64 (n : Int), .slice (some ⟨b, 0, none⟩) L C, .int .i64 (q : Int)] w fun e w' => e = .returned (.tuple #[]) ∧ Tch (fun k => k = b) w w' ∧ ∃ M', Own w' b C L M' ∧ Wrote M q n (fun i => !bitD D (p + i)) M' := by
  obtain ⟨s0, hs0⟩ : ∃ s, s = p / 8 := ⟨_, rfl⟩
  obtain ⟨o0, ho0⟩ : ∃ o, o = p % 8 := ⟨_, rfl⟩
  obtain ⟨s1, hs1⟩ : ∃ s, s = q / 8 := ⟨_, rfl⟩
  obtain ⟨o1, ho1⟩ : ∃ o, o = q % 8 := ⟨_, rfl⟩
  obtain ⟨nw, hnw⟩ : ∃ k, k = n / 64 - 1 := ⟨_, rfl⟩
  obtain ⟨t, ht⟩ : ∃ k, k = n - 64 * nw := ⟨_, rfl⟩
  obtain ⟨E0, hE0⟩ : ∃ k, k = s0 + (o0 + n + 7) / 8 := ⟨_, rfl⟩
  obtain ⟨tB, htB⟩ : ∃ k, k = (t + 7) / 8 := ⟨_, rfl⟩
  obtain ⟨f, hf⟩ : ∃ f : Nat → Bool, f = fun i => !bitD D (p + i) := ⟨_, rfl⟩
  rw [← hf]
  have N0 : Calls Tryd.prog 42 #[.slice (some ⟨B, O, none⟩) m c, .int .i64 (p : Int), .int .i64 (n : Int)] w fun e w' => e = .returned (.pointer (some ⟨w.heap.size, 0, none⟩)) ∧ Below w.heap.size w w' ∧ Rs w' w.heap.size B O E0 D s0 o0 (nw : Int) (t : Int) (tB : Int) nw := by
    rw [hE0, htB]
    exact rs_new B O m D c p n s0 o0 nw t w hD hc hn hs0 ho0 hnw ht hp (by omega)
  have N1 : ∀ W, Below w.heap.size w W → Calls Tryd.prog 18 #[.slice (some ⟨b, 0, none⟩) L C, .int .i64 (q : Int), .int .i64 (n : Int)] W fun e w' => e = .returned (.pointer (some ⟨W.heap.size, 0, none⟩)) ∧ Below W.heap.size W w' ∧ Ww w' W.heap.size b C L s1 o1 M := fun W hb =>
    ww_new b C L M q s1 o1 n W (hO.tch (Tch.of_below (S := fun _ => False) hb) (fun h => h)) hL hq hE hs1 ho1 hn
  have dat0 : ∀ W, Tch (fun k => k = b) w W → Dat W B O E0 D := fun W hb => (hD.tch hb hBb).less (by omega)
  have tabs : ∀ W, Tch (fun k => k = b) w W → TabAt W := fun W hb => hT.tch hb (fun e => h1b e.symm)
  have own0 : ∀ W, Below w.heap.size w W → Own W b C L M := fun W hb => hO.tch (Tch.of_below (S := fun _ => False) hb) (fun h => h)
  have b0 : B < w.heap.size := World.block_lt_of_cell? w ⟨B, O, none⟩ (hD.at_ 0 O (by omega) rfl)
  have b1 : b < w.heap.size := hO.lt
  have q0 : 8 * s0 + o0 = p := by omega
  have q1 : 8 * s1 + o1 = q := by omega
  have F : n = 64 * nw + t ∧ 0 < t ∧ (0 < nw → 64 ≤ t) ∧ t < 128 ∧ o0 < 8 ∧ o1 < 8 ∧ E0 < 2 ^ 40 ∧ nw < 2 ^ 40 ∧ L < 2 ^ 41 := by omega
  have HF := Lib.hid (And.intro F (And.intro b0 (And.intro b1 (And.intro hE0 (And.intro htB (And.intro q0 (And.intro q1 (And.intro hq (And.intro hE (And.intro hL hf))))))))))
  have kn : ¬ (n : Int) = 0 := by omega
  clear F hs0 ho0 hs1 ho1 hnw ht hE0 htB hD hO hT hc hn hp hq hm hE b0 b1 q0 q1 hf
  go_enter Tryd.func47, Tryd.ntmps47
  go_wp2_with (go_at_call 42; fail)
  refine N0.mono ?_
  rintro e w1 ⟨rfl, B1, r1⟩
  clear N0
  obtain ⟨g0, hg0⟩ : ∃ g, g = w.heap.size := ⟨_, rfl⟩
  rw [← hg0] at r1
  have HA := Lib.hid (And.intro hg0 (And.intro B1 r1))
  clear B1 r1
  simp only [← hg0]
  clear hg0
  go_wp2_with (go_at_call 18; fail)
  refine (N1 w1 HA.out.2.1).mono ?_
  rintro e w2 ⟨rfl, B2, r2⟩
  clear N1
  obtain ⟨g1, hg1⟩ : ∃ g, g = w1.heap.size := ⟨_, rfl⟩
  rw [← hg1] at r2
  have HG : Hid (g0 = w.heap.size ∧ g0 < g1 ∧ Below w.heap.size w w2 ∧ Rs w2 g0 B O E0 D s0 o0 (nw : Int) (t : Int) (tB : Int) nw ∧ Ww w2 g1 b C L s1 o1 M) := by
    obtain ⟨e, b1, r1⟩ := HA.out
    obtain ⟨c, cw, x1, x2, x3, x4, x5⟩ := id r1
    refine Lib.hid ⟨e, by rw [hg1]; exact Tch.lt x5, Tch.below b1 (Tch.of_below (S := fun _ => False) B2) b1.size (fun _ h => h.elim), r1.tch (Tch.of_below (S := fun _ => False) B2) (fun h => h), r2⟩
  clear B2 r2 HA
  simp only [← hg1]
  clear hg1
  go_wp2_with (go_at_call 43; fail)
  refine (rs_words g0 B O E0 D s0 o0 nw _ _ _ w2 HG.out.2.2.2.1).mono ?_
  rintro e w3 ⟨rfl, rfl⟩
  go_wp2_with fail
  go_loopg [16] nw (fun kq v16 wr => v16 = .int .i64 (kq : Int) ∧ Aside0 (∃ i Mi, i + kq = nw ∧ Tch (fun k => k = b) w wr ∧ Rs wr g0 B O E0 D (s0 + 8 * i) o0 (nw : Int) (t : Int) (tB : Int) kq ∧ Own wr b C L Mi ∧ Ww wr g1 b C L (s1 + 8 * i) o1 Mi ∧ Wrote M q (64 * i) f Mi))
  case atStart => exact ⟨rfl, ⟨0, M, by omega, Tch.of_below HG.out.2.2.1, HG.out.2.2.2.1, own0 _ HG.out.2.2.1, HG.out.2.2.2.2, Wrote.zero _ _ _⟩⟩
  case round =>
    obtain ⟨rfl, HA⟩ := hrel
    rcases Nat.eq_zero_or_pos gk with hk | hk
    · subst hk
      obtain ⟨Mn, HB⟩ : ∃ Mn, Hid (Tch (fun k => k = b) w wr ∧ Rs wr g0 B O E0 D (s0 + 8 * nw) o0 (nw : Int) (t : Int) (tB : Int) 0 ∧ Own wr b C L Mn ∧ Ww wr g1 b C L (s1 + 8 * nw) o1 Mn ∧ Wrote M q (64 * nw) f Mn) := by
        obtain ⟨i, Mi, hi, bw, r0, ow, r1, sm⟩ := HA.out
        obtain rfl : i = nw := by omega
        exact ⟨Mi, Lib.hid ⟨bw, r0, ow, r1, sm⟩⟩
      clear HA
      go_wp2_with (go_at_call 45; fail)
      refine (rs_bytes g0 B O E0 D (s0 + 8 * nw) o0 0 _ _ _ wr HB.out.2.1).mono ?_
      rintro e w3 ⟨rfl, rfl⟩
      go_wp2_with fail
      go_loopg [17] tB (fun kq v17 wr2 => v17 = .int .i64 (kq : Int) ∧ Aside0 (∃ j Mj, j + kq = tB ∧ Tch (fun k => k = b) w wr2 ∧ (0 < kq → Rs wr2 g0 B O E0 D (s0 + 8 * nw + j) o0 (nw : Int) ((t - 8 * j : Nat) : Int) (kq : Int) 0 ∧ Ww wr2 g1 b C L (s1 + 8 * nw + j) o1 Mj) ∧ Own wr2 b C L Mj ∧ Wrote M q (64 * nw + min (8 * j) t) f Mj))
      case atStart => exact ⟨rfl, ⟨0, Mn, by omega, HB.out.1, fun _ => ⟨HB.out.2.1, HB.out.2.2.2.1⟩, HB.out.2.2.1, by rw [show 64 * nw + min (8 * 0) t = 64 * nw by omega]; exact HB.out.2.2.2.2⟩⟩
      case round =>
        clear HB
        obtain ⟨rfl, HA⟩ := hrel
        rcases Nat.eq_zero_or_pos gk with hk | hk
        · subst hk
          go_wp2
          refine bodyPost_ret (results_none rfl _ _ _) rfl ?_
          obtain ⟨j, Mj, hj, bw, -, ow, sm⟩ := HA.out
          obtain ⟨F, -, -, -, htB, -⟩ := HF.out
          rw [show 64 * nw + min (8 * j) t = n by omega] at sm
          exact ⟨rfl, bw, Mj, ow, sm⟩
        · have hk1 : (0 : Int) < (gk : Int) := by omega
          have hk2 : (gk : Int) < 10000000000000 := by
            obtain ⟨j, Mj, hj, -⟩ := HA.out
            obtain ⟨F, -, -, -, htB, -⟩ := HF.out
            omega
          obtain ⟨x, y, j, Mj, HC⟩ : ∃ x y j : Nat, ∃ Mj, Hid (j + gk = tB ∧ Tch (fun k => k = b) w wr ∧ Wrote M q (64 * nw + min (8 * j) t) f Mj ∧ (x < 256 ∧ y = (255 - x)) ∧ (∀ i, i < min 8 (t - 8 * j) → y.testBit i = f (64 * nw + min (8 * j) t + i)) ∧
              Calls Tryd.prog 46 #[.pointer (some ⟨g0, 0, none⟩)] wr (fun e w' => e = .returned (.tuple #[.int .u8 x, .int .i64 (min 8 (t - 8 * j) : Nat)]) ∧ Tch (fun k => k = g0) wr w' ∧ (8 < t - 8 * j → Rs w' g0 B O E0 D (s0 + 8 * nw + (j + 1)) o0 (nw : Int) ((t - 8 * (j + 1) : Nat) : Int) ((gk - 1 : Nat) : Int) 0)) ∧
              ∀ W, Tch (fun k => k = g0) wr W → Calls Tryd.prog 20 #[.pointer (some ⟨g1, 0, none⟩), .int .u8 (y : Int), .int .i64 (min 8 (t - 8 * j) : Nat)] W (fun e w' => e = .returned (.tuple #[]) ∧ Tch (fun k => k = g1 ∨ k = b) W w' ∧ ∃ M', Own w' b C L M' ∧ Upd Mj (q + (64 * nw + min (8 * j) t)) (min 8 (t - 8 * j)) y M' ∧ (min 8 (t - 8 * j) = 8 → Ww w' g1 b C L (s1 + 8 * nw + (j + 1)) o1 M'))) := by
            obtain ⟨j, Mj, hj, bw, hr, ow, sm⟩ := HA.out
            obtain ⟨r0, r1⟩ := hr hk
            obtain ⟨F, b0, b1, hE0, htB, q0, q1, hq, hE, hL, hf⟩ := HF.out
            obtain ⟨hg0, hg01, -, -, -⟩ := HG.out
            obtain ⟨x, hx⟩ : ∃ x, x = pk D (p + 64 * nw + 8 * j) (min 8 (t - 8 * j)) := ⟨_, rfl⟩
            have hx8 : x < 256 := by
              rw [hx]
              exact Nat.lt_of_lt_of_le (pk_lt _ _ _) (show 2 ^ (min 8 (t - 8 * j)) ≤ 2 ^ 8 from Nat.pow_le_pow_right (by omega) (by omega))
            refine ⟨x, _, j, Mj, Lib.hid ⟨hj, bw, sm, ⟨hx8, rfl⟩, fun i hi => ?_, ?_, fun W T => ?_⟩⟩
            · rw [inv_bit8 x i hx8 (by omega), hx, pk_testBit, hf]
              simp only [hi, decide_true, Bool.true_and]
              congr 2
              omega
            · have C := rs_tail g0 B O E0 D (s0 + 8 * nw + j) o0 0 (t - 8 * j) (min 8 (t - 8 * j)) (nw : Int) (gk : Int) wr (dat0 wr bw) (by omega) r0 (by omega) (by omega) (by omega) (by omega) (by omega) (by omega) (by omega) rfl
              rw [show 8 * (s0 + 8 * nw + j) + o0 = p + 64 * nw + 8 * j by omega, show t - 8 * j - 8 = t - 8 * (j + 1) by omega, show (gk : Int) - 1 = ((gk - 1 : Nat) : Int) by omega, Nat.add_assoc (s0 + 8 * nw), ← hx] at C
              exact C
            · have TT : Tch (fun k => k = b) w W := bw.then_ T (fun k hk => .inr (by omega))
              have C := ww_tail g1 b C L Mj (s1 + 8 * nw + j) o1 (255 - x) (min 8 (t - 8 * j)) W (tabs W TT) (ow.tch T (by omega)) (by omega) (r1.tch T (by omega)) (by omega) (by omega) (by omega) (by omega) (by omega) hE (by omega)
              rw [show 8 * (s1 + 8 * nw + j) + o1 = q + (64 * nw + min (8 * j) t) by omega, Nat.add_assoc (s1 + 8 * nw)] at C
              exact C
          clear HA
          go_wp2_with (go_at_call 46; fail)
          refine (HC.out.2.2.2.2.2.1).mono ?_
          rintro e w5 ⟨rfl, T5, r5⟩
          have H5 := Lib.hid (And.intro T5 r5)
          clear T5 r5
          have ex := xor8 x HC.out.2.2.2.1.1
          rw [← HC.out.2.2.2.1.2] at ex
          go_wp2_with (go_at_call 20; fail)
          refine (HC.out.2.2.2.2.2.2 w5 H5.out.1).mono ?_
          rintro e w6 ⟨rfl, T6, M6, O6, U6, r6⟩
          have HC2 : Hid (j + gk = tB ∧ Tch (fun k => k = b) w w6 ∧ (0 < gk - 1 → Rs w6 g0 B O E0 D (s0 + 8 * nw + (j + 1)) o0 (nw : Int) ((t - 8 * (j + 1) : Nat) : Int) ((gk - 1 : Nat) : Int) 0 ∧ Ww w6 g1 b C L (s1 + 8 * nw + (j + 1)) o1 M6) ∧ Own w6 b C L M6 ∧ Wrote M q (64 * nw + min (8 * (j + 1)) t) f M6) := by
            obtain ⟨hj, bw, sm, -, hbit, -, -⟩ := HC.out
            obtain ⟨T5, r5⟩ := H5.out
            obtain ⟨hg0, hg01, -, -, -⟩ := HG.out
            obtain ⟨F, b0, b1, hE0, htB, q0, q1, -⟩ := HF.out
            have bw5 : Tch (fun k => k = b) w w5 := bw.then_ T5 (fun k hk => .inr (by omega))
            refine Lib.hid ⟨hj, bw5.then_ T6 (fun k hk => hk.elim (fun e => .inr (by omega)) .inl), fun h => ⟨(r5 (by omega)).tch T6 (by omega), r6 (by omega)⟩, O6, ?_⟩
            rw [show 64 * nw + min (8 * (j + 1)) t = (64 * nw + min (8 * j) t) + min 8 (t - 8 * j) by omega]
            exact sm.more U6 hbit
          clear HC H5 T6 O6 U6 r6 ex
          go_wp2_with fail
          go_roundg (gk - 1)
          case measure => omega
          case rel =>
            obtain ⟨hj, bw, hr, ow, sm⟩ := HC2.out
            exact ⟨by rw [show ((gk - 1 : Nat) : Int) = (gk : Int) - 1 by omega], ⟨j + 1, M6, by omega, bw, hr, ow, sm⟩⟩
    · have hk1 : (0 : Int) < (gk : Int) := by omega
      have hk2 : (gk : Int) < 10000000000000 := by
        obtain ⟨i, Mi, hi, -⟩ := HA.out
        obtain ⟨F, -⟩ := HF.out
        omega
      obtain ⟨x, y, i, Mi, HC⟩ : ∃ x y i : Nat, ∃ Mi, Hid (i + gk = nw ∧ Tch (fun k => k = b) w wr ∧ Wrote M q (64 * i) f Mi ∧ (x < 2 ^ 64 ∧ y = (2 ^ 64 - 1 - x)) ∧ (∀ k, k < 64 → y.testBit k = f (64 * i + k)) ∧
          Calls Tryd.prog 44 #[.pointer (some ⟨g0, 0, none⟩)] wr (fun e w' => e = .returned (.int .u64 x) ∧ Tch (fun k => k = g0) wr w' ∧ Rs w' g0 B O E0 D (s0 + 8 * (i + 1)) o0 (nw : Int) (t : Int) (tB : Int) (gk - 1)) ∧
          ∀ W, Tch (fun k => k = g0) wr W → Calls Tryd.prog 19 #[.pointer (some ⟨g1, 0, none⟩), .int .u64 (y : Int)] W (fun e w' => e = .returned (.tuple #[]) ∧ Tch (fun k => k = g1 ∨ k = b) W w' ∧ ∃ M', Own w' b C L M' ∧ Upd Mi (q + 64 * i) 64 y M' ∧ Ww w' g1 b C L (s1 + 8 * (i + 1)) o1 M')) := by
        obtain ⟨i, Mi, hi, bw, r0, ow, r1, sm⟩ := HA.out
        obtain ⟨F, b0, b1, hE0, htB, q0, q1, hq, hE, hL, hf⟩ := HF.out
        obtain ⟨hg0, hg01, -, -, -⟩ := HG.out
        obtain ⟨x, hx⟩ : ∃ x, x = pk D (p + 64 * i) 64 := ⟨_, rfl⟩
        have hx64 : x < 2 ^ 64 := by rw [hx]; exact pk_lt _ _ _
        refine ⟨x, _, i, Mi, Lib.hid ⟨hi, bw, sm, ⟨hx64, rfl⟩, fun k hk => ?_, ?_, fun W T => ?_⟩⟩
        · rw [inv_bit64 x k hx64 hk, hx, pk_testBit, hf]
          simp only [hk, decide_true, Bool.true_and, Nat.add_assoc]
        · have C := rs_word g0 B O E0 D (s0 + 8 * i) o0 gk (gk - 1) (nw : Int) (t : Int) (tB : Int) wr (dat0 wr bw) (by omega) r0 hk (by omega) (by omega) (by omega)
          rw [show 8 * (s0 + 8 * i) + o0 = p + 64 * i by omega, show s0 + 8 * i + 8 = s0 + 8 * (i + 1) by omega, ← hx] at C
          exact C
        · have C := ww_word g1 b C L Mi (s1 + 8 * i) o1 (2 ^ 64 - 1 - x) W (ow.tch T (by omega)) (by omega) (r1.tch T (by omega)) (by omega) (by omega) (by omega) (by omega) hE (by omega)
          rw [show 8 * (s1 + 8 * i) + o1 = q + 64 * i by omega, show s1 + 8 * i + 8 = s1 + 8 * (i + 1) by omega] at C
          exact C
      clear HA
      go_wp2_with (go_at_call 44; fail)
      refine (HC.out.2.2.2.2.2.1).mono ?_
      rintro e w5 ⟨rfl, T5, r5⟩
      have H5 := Lib.hid (And.intro T5 r5)
      clear T5 r5
      have ex := xor64 x HC.out.2.2.2.1.1
      rw [← HC.out.2.2.2.1.2] at ex
      go_wp2_with (go_at_call 19; fail)
      refine (HC.out.2.2.2.2.2.2 w5 H5.out.1).mono ?_
      rintro e w6 ⟨rfl, T6, M6, O6, U6, r6⟩
      have HC2 : Hid (i + gk = nw ∧ Tch (fun k => k = b) w w6 ∧ Rs w6 g0 B O E0 D (s0 + 8 * (i + 1)) o0 (nw : Int) (t : Int) (tB : Int) (gk - 1) ∧ Own w6 b C L M6 ∧ Ww w6 g1 b C L (s1 + 8 * (i + 1)) o1 M6 ∧ Wrote M q (64 * (i + 1)) f M6) := by
        obtain ⟨hj, bw, sm, -, hbit, -, -⟩ := HC.out
        obtain ⟨T5, r5⟩ := H5.out
        obtain ⟨hg0, hg01, -, -, -⟩ := HG.out
        obtain ⟨F, b0, b1, hE0, htB, q0, q1, -⟩ := HF.out
        have bw5 : Tch (fun k => k = b) w w5 := bw.then_ T5 (fun k hk => .inr (by omega))
        refine Lib.hid ⟨hj, bw5.then_ T6 (fun k hk => hk.elim (fun e => .inr (by omega)) .inl), r5.tch T6 (by omega), O6, r6, ?_⟩
        rw [show 64 * (i + 1) = 64 * i + 64 by omega]
        exact sm.more U6 hbit
      clear HC H5 T6 O6 U6 r6 ex
      go_wp2_with fail
      go_roundg (gk - 1)
      case measure => omega
      case rel =>
        obtain ⟨hi, bw, r0, ow, r1, sm⟩ := HC2.out
        exact ⟨by rw [show ((gk - 1 : Nat) : Int) = (gk : Int) - 1 by omega], ⟨i + 1, M6, by omega, bw, r0, ow, r1, sm⟩⟩
end Go.Proofs.YthgbfmcicpmepaaDoor.V
