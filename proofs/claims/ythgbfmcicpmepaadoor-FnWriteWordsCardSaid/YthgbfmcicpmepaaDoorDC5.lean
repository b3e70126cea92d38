/- impl.WriteWords: what it answers where words and bytes fill the bits that are there. -/
import Derived.Test.YthgbfmcicpmepaaDoorBC5
import Derived.Test.YthgbfmcicpmepaaDoorCQ
namespace Go.Proofs.YthgbfmcicpmepaaDoor.V
open Go.RowKit Go.Proofs.YthgbfmcicpmepaaDoor.B Go.Proofs.YthgbfmcicpmepaaDoorW.PrintWords Go.Proofs.YthgbfmcicpmepaaDoorW.PrintLast Go.Proofs.YthgbfmcicpmepaaDoorW.PrintMore
set_option linter.unusedVariables false
set_option linter.unusedSimpArgs false
theorem catch16 (p : Addr) (w : World) :
    CallsD Tryd.prog 16 #[.pointer (some p)] .returning w fun e u' w' => e = .returned (.tuple #[]) ∧ u' = .returning ∧ w = w' := by
  refine callsD_of_wpS Tryd.func16 rfl fun c₀ cs hu => ?_
  apply wpS_seq
  apply wpS_region
  simp [wpOpsS, go_sem, recoverD, hu, Tryd.ntmps16, Exit.thenS]
  refine wpS_cond (t := false) (by simp [Act.eval, Array.replicate]) ?_
  simp only [Bool.false_eq_true, if_false]
  refine wpS_of_wp (wp_skip ?_)
  cases c₀
  simp_all [bodyPostS, results, Tryd.results16]
/-- The bits of words, then of bytes. -/
def wbit (ws bs : List Int) (i : Nat) : Bool := if i < 64 * ws.length then (DL ws (i / 64)).testBit (i % 64) else bitD (DL bs) (i - 64 * ws.length)
theorem DLw_lt {l : List Int} (hb : ∀ x ∈ l, 0 ≤ x ∧ x < 2 ^ 64) (j : Nat) : DL l j < 2 ^ 64 ∧ ((DL l j : Nat) : Int) = rd l (j : Int) := by
  have e : rd l (j : Int) = l.getD j 0 := by first | rfl | simp [rd]
  unfold DL
  rw [e, List.getD_eq_getElem?_getD]
  rcases Nat.lt_or_ge j l.length with h | h
  · rw [List.getElem?_eq_getElem h]
    have := hb _ (List.getElem_mem h)
    simp only [Option.getD_some]
    omega
  · rw [List.getElem?_eq_none h]
    simp
def writeArgs (l0 : List Int) (a1 a2 : Int) (ws bs vs : List Int) : Prop := 0 ≤ a1 ∧ 0 < a2 ∧ a1 + a2 ≤ 8 * (l0.length : Int) ∧ l0.length < 2 ^ 36 ∧ (∀ x ∈ l0, 0 ≤ x ∧ x < 256) ∧ (∀ x ∈ ws, 0 ≤ x ∧ x < 2 ^ 64) ∧ (∀ x ∈ bs, 0 ≤ x ∧ x < 256) ∧ 64 * (ws.length : Int) ≤ a2 ∧ bs.length = (a2.toNat - 64 * ws.length + 7) / 8 ∧ vs.length = bs.length ∧ (∀ j, j < vs.length → rd vs (j : Int) = ((min 8 (a2.toNat - 64 * ws.length - 8 * j) : Nat) : Int)) ∧ (a1.toNat % 8 = 0 ∨ ws.length = 0 ∨ 64 ≤ a2.toNat - 64 * ws.length)
instance (l0 : List Int) (a1 a2 : Int) (ws bs vs : List Int) : Decidable (writeArgs l0 a1 a2 ws bs vs) := by
  unfold writeArgs
  infer_instance
def impl_WriteWords.f (l0 : List Int) (a1 a2 : Int) (ws bs vs : List Int) : Option (List Int) :=
  if writeArgs l0 a1 a2 ws bs vs then some (listOf (bytesB (turned (DL l0) a1.toNat a2.toNat (wbit ws bs))) l0.length) else none
set_option maxHeartbeats 8000000 in
set_option maxRecDepth 100000 in
theorem write9 (A0 A3 A4 A5 : Option Addr) (c0 c3 c4 c5 : Nat) (l0 ws bs vs : List Int) (q n nw t o s : Nat) (w : World) (hT : TabAt w)
    (hC : ∀ W, Below w.heap.size w W → Calls Tryd.prog 17 #[.slice A0 l0.length c0] W fun e W' => ∃ v0, e = .returned v0 ∧ Kd.R (Kd.int .u8) 5 W' W.heap.size (fun _ => True) v0 l0 ∧ Below W.heap.size W W')
    (hr3 : Kd.C (Kd.int .u64) w A3 ws.length ws) (hr4 : Kd.C (Kd.int .u8) w A4 bs.length bs) (hr5 : Kd.C (Kd.int .i64) w A5 vs.length vs)
    (y0 : ∀ x ∈ l0, 0 ≤ x ∧ x < 256) (y3 : ∀ x ∈ ws, 0 ≤ x ∧ x < 2 ^ 64) (y4 : ∀ x ∈ bs, 0 ≤ x ∧ x < 256)
    (hn : 0 < n) (hq : q + n ≤ 8 * l0.length) (hl : l0.length < 2 ^ 36) (hnw : nw = ws.length) (ht : n = 64 * nw + t) (hbl : bs.length = (t + 7) / 8) (hvl : vs.length = bs.length)
    (hv : ∀ j, j < vs.length → rd vs (j : Int) = ((min 8 (t - 8 * j) : Nat) : Int)) (ho : o = q % 8) (hs : s = q / 8) (h64 : o = 0 ∨ nw = 0 ∨ 64 ≤ t) :
    Calls Tryd.prog 9 #[.slice A0 l0.length c0, .int .i64 (q : Int), .int .i64 (n : Int), .slice A3 ws.length c3, .slice A4 bs.length c4, .slice A5 vs.length c5] w fun e w' => ∃ v0_ : Value, e = .returned v0_ ∧ Kd.R (Kd.int .u8) 5 w' w.heap.size (fun _ => True) v0_ (listOf (bytesB (turned (DL l0) q n (wbit ws bs))) l0.length) ∧ Below w.heap.size w w' := by
  have hmf : ∀ (fn : Fn) (first cap : Array Value) (w : World), (Instr.makeFunc fn first cap).run Tryd.prog w = .ok (.func fn first cap) w := fun _ _ _ _ => rfl
  have h1w : 1 < w.heap.size := World.block_lt_of_cell? w ⟨1, 0, none⟩ (hT.cell 0 (by omega))
  obtain ⟨L, hLl⟩ : ∃ L, L = l0.length := ⟨_, rfl⟩
  obtain ⟨f, hf⟩ : ∃ f, f = wbit ws bs := ⟨_, rfl⟩
  have lw : nw < 2 ^ 40 := by omega
  have lb : bs.length < 2 ^ 40 := by omega
  have HF := Lib.hid (And.intro hT (And.intro hr3 (And.intro hr4 (And.intro hr5 (And.intro y0 (And.intro y3 (And.intro y4 (And.intro hn (And.intro hq (And.intro hl (And.intro hnw (And.intro ht (And.intro hbl (And.intro hvl (And.intro hv (And.intro ho (And.intro hs (And.intro h64 (And.intro h1w (And.intro hLl hf))))))))))))))))))))
  rw [← hf, ← hLl]
  rw [← hLl] at hC
  rw [← hnw]
  obtain ⟨bl, hbl'⟩ : ∃ k, k = bs.length := ⟨_, rfl⟩
  rw [← hbl'] at lb ⊢
  rw [hvl, ← hbl']
  have HB0 := Lib.hid hbl'
  clear hT hr3 hr4 hr5 y0 y3 y4 hn hq hl hnw ht hbl hvl hv ho hs h64 h1w hLl hf hbl'
  go_enter_defers Tryd.func9, Tryd.ntmps9
  go_wp2_with (go_at_call 17; fail)
  clear hmf
  refine calls_at ?_
  intro w0 hw0
  have B0 : w0.heap[w.heap.size]? = some (.cells #[.slice none 0 0] 22 (0, 0)) := by rw [hw0]; exact blk_new_at rfl
  have b0 : Below w.heap.size w w0 := by rw [hw0]; exact (Below.refl _ _).alloc (Nat.le_refl _) _
  clear hw0
  refine (hC w0 b0).mono ?_
  rintro e w1 ⟨v0, rfl, R0, b1⟩
  clear hC
  obtain ⟨b, C, hv0, G⟩ : ∃ b C, v0 = .slice (some ⟨b, 0, none⟩) L C ∧ Hid (w0.heap.size ≤ b ∧ w.heap.size < w0.heap.size ∧ L ≤ C ∧ C ≤ maxLen ∧ Own w1 b C L (DL l0) ∧ w1.heap[w.heap.size]? = some (.cells #[.slice none 0 0] 22 (0, 0)) ∧ Below w.heap.size w w1) := by
    obtain ⟨hT, hr3, hr4, hr5, y0, y3, y4, hn, hq, hl, hnw, ht, hbl, hvl, hv, ho, hs, h64, h1w, hLl, hf⟩ := HF.out
    obtain ⟨A, C, rfl⟩ := Kd.R_slice R0
    obtain ⟨b, rfl, hb, hlc, hcm, O3⟩ := own_in R0 y0 (by omega)
    exact ⟨b, C, by rw [hLl], Lib.hid ⟨hb, Tch.lt B0, by omega, hcm, by rw [hLl]; exact O3, blk_below B0 b1, Tch.below b0 (Tch.of_below (S := fun _ => False) b1) b0.size (fun _ h => h.elim)⟩⟩
  subst hv0
  clear R0 B0 b0 b1
  go_wp2_with (go_at_call 18; fail)
  refine (ww_new b C L (DL l0) q s o n w1 G.out.2.2.2.2.1 G.out.2.2.1 ?h1 ?h2 ?h3 ?h4 ?h5).mono ?_
  case h1 => have := HF.out.2.2.2.2.2.2.2.2.1; have := HF.out.2.2.2.2.2.2.2.2.2.2.2.2.2.2.2.2.2.2.2.1; omega
  case h2 => have := HF.out.2.2.2.2.2.2.2.2.2.1; have := HF.out.2.2.2.2.2.2.2.2.2.2.2.2.2.2.2.2.2.2.2.1; omega
  case h3 => exact HF.out.2.2.2.2.2.2.2.2.2.2.2.2.2.2.2.2.1
  case h4 => exact HF.out.2.2.2.2.2.2.2.2.2.2.2.2.2.2.2.1
  case h5 => exact HF.out.2.2.2.2.2.2.2.1
  rintro e w2 ⟨rfl, b2, W2⟩
  obtain ⟨g, hg⟩ : ∃ g, g = w1.heap.size := ⟨_, rfl⟩
  rw [← hg] at W2
  have G2 : Hid (w.heap.size < b ∧ b < g ∧ L ≤ C ∧ C ≤ maxLen ∧ Own w2 b C L (DL l0) ∧ Ww w2 g b C L s o (DL l0) ∧ w2.heap[w.heap.size]? = some (.cells #[.slice none 0 0] 22 (0, 0)) ∧ Below w.heap.size w w2) := by
    obtain ⟨hb, hw0, hLC, hCm, O1, B1, bw⟩ := G.out
    exact Lib.hid ⟨by omega, by rw [hg]; exact O1.lt, hLC, hCm, O1.tch (Tch.of_below (S := fun _ => False) b2) (fun h => h), W2, blk_below B1 b2, Tch.below bw (Tch.of_below (S := fun _ => False) b2) bw.size (fun _ h => h.elim)⟩
  clear G b2 W2
  simp only [← hg]
  clear hg
  go_wp2_with fail
  go_loopg [28] nw (fun kq v28 wr => ∃ i : Nat, v28 = .int .i64 (i : Int) ∧ Aside0 (∃ Mi, i + kq = nw ∧ Tch (fun k => k = g ∨ k = b) w2 wr ∧ Own wr b C L Mi ∧ Ww wr g b C L (s + 8 * i) o Mi ∧ Wrote (DL l0) q (64 * i) f Mi))
  case atStart => exact ⟨0, rfl, ⟨DL l0, by omega, Tch.refl _ _, G2.out.2.2.2.2.1, G2.out.2.2.2.2.2.1, Wrote.zero _ _ _⟩⟩
  case round =>
    obtain ⟨i, rfl, HA⟩ := hrel
    by_cases hi : i < nw
    · have hi1 : (i : Int) < (nw : Int) := by omega
      have hi2 : i < 2 ^ 40 := by omega
      obtain ⟨ad, x, hA3, cx, HC⟩ : ∃ ad x, A3 = some ad ∧ wr.cell? (ad.add i) = some (.int .u64 ((x : Nat) : Int)) ∧ Hid (∃ Mi, i + gk = nw ∧ Tch (fun k => k = g ∨ k = b) w2 wr ∧ Wrote (DL l0) q (64 * i) f Mi ∧ (∀ k, k < 64 → x.testBit k = f (64 * i + k)) ∧
          Calls Tryd.prog 19 #[.pointer (some ⟨g, 0, none⟩), .int .u64 (x : Int)] wr (fun e w' => e = .returned (.tuple #[]) ∧ Tch (fun k => k = g ∨ k = b) wr w' ∧ ∃ M', Own w' b C L M' ∧ Upd Mi (q + 64 * i) 64 x M' ∧ Ww w' g b C L (s + 8 * (i + 1)) o M')) := by
        obtain ⟨hT, hr3, hr4, hr5, y0, y3, y4, hn, hq, hl, hnw, ht, hbl, hvl, hv, ho, hs, h64, h1w, hLl, hf⟩ := HF.out
        obtain ⟨hwb, hbg, hLC, hCm, O2, W2, B2, bw⟩ := G2.out
        obtain ⟨Mi, hi', T, ow, wr', wt⟩ := HA.out
        have B := Tch.below bw T bw.size (fun k hk => by omega)
        obtain ⟨ad, e, hx⟩ := Kd.at_int (Kd.C_below hr3 B) (i : Int) (by omega) (by omega)
        obtain ⟨hx64, hxi⟩ := DLw_lt y3 i
        rw [Int.toNat_natCast, ← hxi] at hx
        refine ⟨ad, DL ws i, e, hx, Lib.hid ⟨Mi, hi', T, wt, fun k hk => ?_, ?_⟩⟩
        · rw [hf]
          unfold wbit
          rw [if_pos (by omega), show (64 * i + k) / 64 = i by omega, show (64 * i + k) % 64 = k by omega]
        · have C' := ww_word g b C L Mi (s + 8 * i) o (DL ws i) wr ow (by omega) wr' hLC (by omega) (by omega) (fun h0 => by omega) (by omega) hx64
          rw [show 8 * (s + 8 * i) + o = q + 64 * i by omega, show s + 8 * i + 8 = s + 8 * (i + 1) by omega] at C'
          exact C'
      subst hA3
      clear HA hi
      go_wp2_with (go_at_call 19; fail)
      obtain ⟨Mi, hC1, hC2, hC3, hC4, hC5⟩ := HC.out
      refine hC5.mono ?_
      rintro e w5 ⟨rfl, T5, M5, O5, U5, W5⟩
      have H5 : Hid (∃ Mi, (i + 1) + (gk - 1) = nw ∧ 0 < gk ∧ Tch (fun k => k = g ∨ k = b) w2 w5 ∧ Own w5 b C L Mi ∧ Ww w5 g b C L (s + 8 * (i + 1)) o Mi ∧ Wrote (DL l0) q (64 * (i + 1)) f Mi) :=
        Lib.hid ⟨M5, by omega, by omega, hC2.trans T5, O5, W5, by rw [show 64 * (i + 1) = 64 * i + 64 by omega]; exact hC3.more U5 hC4⟩
      clear HC hC1 hC2 hC3 hC4 hC5 T5 O5 U5 W5 cx
      go_wp2_with fail
      go_roundg (gk - 1)
      case measure => obtain ⟨Mi, h1, h2, -⟩ := H5.out; omega
      case rel =>
        obtain ⟨Mi, h1, h2, h3, h4, h5, h6⟩ := H5.out
        exact ⟨i + 1, by rw [show ((i + 1 : Nat) : Int) = (i : Int) + 1 by omega], ⟨Mi, h1, h3, h4, h5, h6⟩⟩
    · have hi1 : ¬ (i : Int) < (nw : Int) := by omega
      have HB : Hid (∃ Mn, Tch (fun k => k = g ∨ k = b) w2 wr ∧ Own wr b C L Mn ∧ Ww wr g b C L (s + 8 * nw) o Mn ∧ Wrote (DL l0) q (64 * nw) f Mn) := by
        obtain ⟨Mi, hi', T, ow, wr', wt⟩ := HA.out
        obtain rfl : i = nw := by omega
        exact Lib.hid ⟨Mi, T, ow, wr', wt⟩
      clear HA hi
      go_wp2_with fail
      go_loopg [38] bl (fun kq v38 wr2 => ∃ j : Nat, v38 = .int .i64 (j : Int) ∧ Aside0 (∃ Mj, j + kq = bl ∧ Tch (fun k => k = g ∨ k = b) w2 wr2 ∧ Own wr2 b C L Mj ∧ (j < bl → Ww wr2 g b C L (s + 8 * nw + j) o Mj) ∧ Wrote (DL l0) q (64 * nw + min (8 * j) t) f Mj))
      case atStart =>
        obtain ⟨Mn, h1, h2, h3, h4⟩ := HB.out
        exact ⟨0, rfl, ⟨Mn, by omega, h1, h2, fun _ => h3, by rw [show 64 * nw + min (8 * 0) t = 64 * nw by omega]; exact h4⟩⟩
      case round =>
        clear HB
        obtain ⟨j, rfl, HA⟩ := hrel
        by_cases hj : j < bl
        · have hj1 : (j : Int) < (bl : Int) := by omega
          have hj2 : j < 2 ^ 40 := by omega
          obtain ⟨ad4, ad5, x, v, hA4, hA5, cx, cv, HC⟩ : ∃ ad4 ad5 x v, A4 = some ad4 ∧ A5 = some ad5 ∧ wr.cell? (ad4.add j) = some (.int .u8 ((x : Nat) : Int)) ∧ wr.cell? (ad5.add j) = some (.int .i64 ((v : Nat) : Int)) ∧ Hid (∃ Mj, j + gk = bl ∧ Tch (fun k => k = g ∨ k = b) w2 wr ∧ Wrote (DL l0) q (64 * nw + min (8 * j) t) f Mj ∧ (v = min 8 (t - 8 * j) ∧ (j + 1 < bl → v = 8)) ∧ (∀ k, k < v → x.testBit k = f (64 * nw + min (8 * j) t + k)) ∧
              Calls Tryd.prog 20 #[.pointer (some ⟨g, 0, none⟩), .int .u8 (x : Int), .int .i64 (v : Int)] wr (fun e w' => e = .returned (.tuple #[]) ∧ Tch (fun k => k = g ∨ k = b) wr w' ∧ ∃ M', Own w' b C L M' ∧ Upd Mj (q + (64 * nw + min (8 * j) t)) v x M' ∧ (v = 8 → Ww w' g b C L (s + 8 * nw + (j + 1)) o M'))) := by
            have hbe := HB0.out
            obtain ⟨hT, hr3, hr4, hr5, y0, y3, y4, hn, hq, hl, hnw, ht, hbl, hvl, hv, ho, hs, h64, h1w, hLl, hf⟩ := HF.out
            obtain ⟨hwb, hbg, hLC, hCm, O2, W2, B2, bw⟩ := G2.out
            obtain ⟨Mj, hj', T, ow, wr', wt⟩ := HA.out
            have B := Tch.below bw T bw.size (fun k hk => by omega)
            obtain ⟨ad4, e4, hx4⟩ := Kd.at_int (Kd.C_below hr4 B) (j : Int) (by omega) (by omega)
            obtain ⟨ad5, e5, hx5⟩ := Kd.at_int (Kd.C_below hr5 B) (j : Int) (by omega) (by omega)
            rw [Int.toNat_natCast, ← DL_int y4] at hx4
            rw [Int.toNat_natCast, hv j (by omega)] at hx5
            have hx8 := DL_lt y4 j
            refine ⟨ad4, ad5, DL bs j, min 8 (t - 8 * j), e4, e5, hx4, hx5, Lib.hid ⟨Mj, hj', T, wt, ⟨rfl, fun h => by omega⟩, fun k hk => ?_, ?_⟩⟩
            · rw [hf]
              unfold wbit bitD
              rw [if_neg (by omega), show (64 * nw + min (8 * j) t + k - 64 * ws.length) / 8 = j by omega, show (64 * nw + min (8 * j) t + k - 64 * ws.length) % 8 = k by omega]
            · have C' := ww_tail g b C L Mj (s + 8 * nw + j) o (DL bs j) (min 8 (t - 8 * j)) wr (hT.tch (S := fun k => w.heap.size ≤ k) ⟨B.os, B.tape, B.output, B.size, fun k hk _ => B.block k hk⟩ (by omega)) ow (by omega) (wr' hj) hLC (by omega) (by omega) (by omega) (by omega) (by omega) hx8
              rw [show 8 * (s + 8 * nw + j) + o = q + (64 * nw + min (8 * j) t) by omega, Nat.add_assoc (s + 8 * nw)] at C'
              exact C'
          subst hA4
          subst hA5
          clear HA hj
          go_wp2_with (go_at_call 20; fail)
          obtain ⟨Mj, hC1, hC2, hC3, hC4, hC5, hC6⟩ := HC.out
          refine hC6.mono ?_
          rintro e w5 ⟨rfl, T5, M5, O5, U5, W5⟩
          have H5 : Hid (∃ Mj, (j + 1) + (gk - 1) = bl ∧ 0 < gk ∧ Tch (fun k => k = g ∨ k = b) w2 w5 ∧ Own w5 b C L Mj ∧ (j + 1 < bl → Ww w5 g b C L (s + 8 * nw + (j + 1)) o Mj) ∧ Wrote (DL l0) q (64 * nw + min (8 * (j + 1)) t) f Mj) :=
            Lib.hid ⟨M5, by omega, by omega, hC2.trans T5, O5, fun h => W5 (hC4.2 h), by
              rw [show 64 * nw + min (8 * (j + 1)) t = (64 * nw + min (8 * j) t) + v by have := hC4.1; omega]
              exact hC3.more U5 hC5⟩
          clear HC hC1 hC2 hC3 hC4 hC5 hC6 T5 O5 U5 W5 cx cv
          go_wp2_with fail
          go_roundg (gk - 1)
          case measure => obtain ⟨Mj, h1, h2, -⟩ := H5.out; omega
          case rel =>
            obtain ⟨Mj, h1, h2, h3, h4, h5, h6⟩ := H5.out
            exact ⟨j + 1, by rw [show ((j + 1 : Nat) : Int) = (j : Int) + 1 by omega], ⟨Mj, h1, h3, h4, h5, h6⟩⟩
        · have hj1 : ¬ (j : Int) < (bl : Int) := by omega
          have HE : Hid (wr.heap[w.heap.size]? = some (.cells #[.slice none 0 0] 22 (0, 0)) ∧ Below w.heap.size w wr ∧ w.heap.size < b ∧ L ≤ C ∧ C ≤ maxLen ∧ ∃ M', Own wr b C L M' ∧ Wrote (DL l0) q n f M') := by
            have hbe := HB0.out
            obtain ⟨hT, hr3, hr4, hr5, y0, y3, y4, hn, hq, hl, hnw, ht, hbl, hvl, hv, ho, hs, h64, h1w, hLl, hf⟩ := HF.out
            obtain ⟨hwb, hbg, hLC, hCm, O2, W2, B2, bw⟩ := G2.out
            obtain ⟨Mj, hj', T, ow, wr', wt⟩ := HA.out
            refine Lib.hid ⟨T.blk B2 (by omega), Tch.below bw T bw.size (fun k hk => by omega), hwb, hLC, hCm, Mj, ow, ?_⟩
            rw [show n = 64 * nw + min (8 * j) t by omega]
            exact wt
          clear HA hj
          have c1 : wr.cell? ⟨w.heap.size, 0, none⟩ = some (.slice none 0 0) := (blk_cell HE.out.1 0).trans rfl
          have f1 := blk_frozen HE.out.1 0
          go_wp2
          refine leaves_cons (f := 16) (args := #[.pointer (some ⟨w.heap.size, 0, none⟩)]) (by simp) (by simp [go_sem]) ?_
          refine (catch16 _ _).mono ?_
          rintro e u' w'' ⟨rfl, rfl, rfl⟩
          obtain ⟨B2, bw, hwb, hLC, hCm, M', ow, wt⟩ := HE.out
          have B3 : (wr.setCell ⟨w.heap.size, 0, none⟩ (.slice (some ⟨b, 0, none⟩) L C)).heap[w.heap.size]? = some (.cells #[.slice (some ⟨b, 0, none⟩) L C] 22 (0, 0)) := blk_put_at B2 rfl
          have cN := (blk_cell B3 0).trans (show _ = some (Value.slice (some ⟨b, 0, none⟩) L C) from rfl)
          have k := own_back (base := w.heap.size) (ow.other (i := 0) (u := .slice (some ⟨b, 0, none⟩) L C) (show b ≠ w.heap.size by omega)) (by omega) hLC hCm
          have e : (List.range L).map (fun j => (M' j : Int)) = listOf (bytesB (turned (DL l0) q n f)) L := List.map_congr_left (fun j _ => by rw [bytesB_of ow.byte wt j]; rfl)
          rw [e] at k
          have bF := bw.setCell (Nat.le_refl _) (.slice (some ⟨b, 0, none⟩) L C) (p := ⟨w.heap.size, 0, none⟩)
          simp [Leaves, settle, results, Tryd.results9, go_sem, cN]
          exact ⟨k, bF⟩
theorem impl_WriteWords.calls (A0 : Option Addr) (c0 : Nat) (l0 : List Int) (a1 a2 : Int) (A3 : Option Addr) (c3 : Nat) (l3 : List Int) (A4 : Option Addr) (c4 : Nat) (l4 : List Int) (A5 : Option Addr) (c5 : Nat) (l5 : List Int) (r : List Int) (w : World) (hT : TabAt w) (hr0 : Kd.C (Kd.int .u8) w A0 l0.length l0) (hc0 : l0.length ≤ c0) (hr3 : Kd.C (Kd.int .u64) w A3 l3.length l3) (hc3 : l3.length ≤ c3) (hr4 : Kd.C (Kd.int .u8) w A4 l4.length l4) (hc4 : l4.length ≤ c4) (hr5 : Kd.C (Kd.int .i64) w A5 l5.length l5) (hc5 : l5.length ≤ c5) (h : impl_WriteWords.f l0 a1 a2 l3 l4 l5 = some r) :
    Calls Tryd.prog 9 #[.slice A0 l0.length c0, .int .i64 a1, .int .i64 a2, .slice A3 l3.length c3, .slice A4 l4.length c4, .slice A5 l5.length c5] w fun e w' => ∃ v0_ : Value, e = .returned v0_ ∧ Kd.R (Kd.int .u8) 5 w' w.heap.size (fun _ => True) v0_ r ∧ Below w.heap.size w w' := by
  unfold impl_WriteWords.f at h
  split at h
  · next hh =>
    obtain ⟨h1, h2, e0, g0, y0, y3, y4, hw, hb, hvl, hv, h64⟩ := hh
    obtain ⟨q, rfl⟩ := Int.eq_ofNat_of_zero_le h1
    obtain ⟨n, rfl⟩ := Int.eq_ofNat_of_zero_le (show 0 ≤ a2 by omega)
    injection h with h
    simp only [Int.toNat_natCast] at h hb hv h64
    rw [← h]
    exact write9 A0 A3 A4 A5 c0 c3 c4 c5 l0 l3 l4 l5 q n l3.length (n - 64 * l3.length) (q % 8) (q / 8) w hT (fun W hb => impl_copied.calls A0 c0 l0 l0 W (Kd.C_below hr0 hb) hc0 (copied_f l0 g0)) hr3 hr4 hr5 y0 y3 y4 (by omega) (by omega) g0 rfl (by omega) hb hvl hv rfl rfl (by omega)
  · cases h
end Go.Proofs.YthgbfmcicpmepaaDoor.V
