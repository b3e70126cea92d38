/- The last byte of a reader of words. -/
import Derived.Test.YthgbfmcicpmepaaDoorBT4
namespace Go.Proofs.YthgbfmcicpmepaaDoor.V
open Go.RowKit Go.Proofs.YthgbfmcicpmepaaDoor.B Go.Proofs.YthgbfmcicpmepaaDoorW.PrintWords Go.Proofs.YthgbfmcicpmepaaDoorW.PrintLast Go.Proofs.YthgbfmcicpmepaaDoorW.PrintMore
set_option linter.unusedVariables false
set_option linter.unusedSimpArgs false
/-- A reader of bits at its i-th bit: v bits from the bit o of byte s on. -/
def Brd (w : World) (g B P m c : Nat) (D : Nat → Nat) (s o v i : Nat) : Prop := ∃ cur : Nat, cur < 256 ∧ (i < v → cur = D (s + (o + i) / 8)) ∧ w.heap[g]? = some (.cells #[.slice (some ⟨B, P, none⟩) m c, .int .i64 (i : Int), .int .i64 (v : Int), .int .u8 (cur : Int), .int .i64 (((o + i) / 8 : Nat) : Int), .int .i64 (((o + i) % 8 : Nat) : Int)] 82 (0, 0))
theorem Brd.tch {S : Nat → Prop} {w w' : World} {g B P m c : Nat} {D : Nat → Nat} {s o v i : Nat} (h : Brd w g B P m c D s o v i) (k : Tch S w w') (hn : ¬ S g) : Brd w' g B P m c D s o v i := by
  obtain ⟨cur, h1, h2, h3⟩ := h
  exact ⟨cur, h1, h2, k.blk h3 hn⟩
theorem brd_set (g B P m c : Nat) (D : Nat → Nat) (s o v i : Nat) (w : World) (h : Brd w g B P m c D s o v i) (hi : i < v) :
    Calls Tryd.prog 49 #[.pointer (some ⟨g, 0, none⟩)] w fun e w' => e = .returned (.bool (bitD D (8 * s + o + i))) ∧ Below w.heap.size w w' := by
  obtain ⟨cur, h1, h2, h3⟩ := h
  refine (set49 g _ _ _ _ cur ((o + i) % 8) w h3 (by omega) h1).mono ?_
  rintro e w' ⟨rfl, hb⟩
  refine ⟨?_, hb⟩
  rw [h2 hi]
  unfold bitD
  rw [show (8 * s + o + i) / 8 = s + (o + i) / 8 by omega, show (8 * s + o + i) % 8 = (o + i) % 8 by omega]
theorem brd_next (g B O E m c : Nat) (D : Nat → Nat) (s o v i : Nat) (w : World) (h : Brd w g B (O + s) m c D s o v i) (hD : Dat w B O E D) (hg : B ≠ g) (hi : i < v) (hv : v < 2 ^ 30) (ho : o < 8) (hm : (o + v + 7) / 8 ≤ m) (hE : s + (o + v + 7) / 8 ≤ E) :
    Calls Tryd.prog 50 #[.pointer (some ⟨g, 0, none⟩)] w fun e w' => e = .returned (.tuple #[]) ∧ Tch (fun k => k = g) w w' ∧ Brd w' g B (O + s) m c D s o v (i + 1) := by
  obtain ⟨cur, h1, h2, h3⟩ := h
  by_cases h7 : (o + i) % 8 < 7
  · refine (nextA g _ ((o + i) % 8) i v cur ((o + i) / 8) w h3 (by omega) (by omega) (by omega) h7).mono ?_
    rintro e w' ⟨rfl, T, B⟩
    refine ⟨rfl, T, cur, h1, fun _ => ?_, ?_⟩
    · rw [h2 hi]; congr 2; omega
    · rw [B, show ((i + 1 : Nat) : Int) = (i : Int) + 1 by omega, show (((o + (i + 1)) / 8 : Nat) : Int) = (((o + i) / 8 : Nat) : Int) by omega, show (((o + (i + 1)) % 8 : Nat) : Int) = (((o + i) % 8 : Nat) : Int) + 1 by omega]
  · have e7 : (((o + i) % 8 : Nat) : Int) = 7 := by omega
    rw [e7] at h3
    by_cases hl : v ≤ i + 1
    · refine (nextB g _ i v cur ((o + i) / 8) w h3 (by omega) (by omega) (by omega) hl).mono ?_
      rintro e w' ⟨rfl, T, B⟩
      refine ⟨rfl, T, cur, h1, fun _ => by omega, ?_⟩
      rw [B, show ((i + 1 : Nat) : Int) = (i : Int) + 1 by omega, show (((o + (i + 1)) / 8 : Nat) : Int) = (((o + i) / 8 : Nat) : Int) + 1 by omega, show (((o + (i + 1)) % 8 : Nat) : Int) = 0 by omega]
    · refine (nextC g B (O + s) m c i v cur ((o + i) / 8) w h3 (by omega) (by omega) (by omega) (by omega) (D (s + ((o + i) / 8 + 1))) (hD.at_ (s + ((o + i) / 8 + 1)) _ (by omega) (by omega)) hg (by omega)).mono ?_
      rintro e w' ⟨rfl, T, B⟩
      refine ⟨rfl, T, D (s + ((o + i) / 8 + 1)), hD.byte _, fun _ => ?_, ?_⟩
      · congr 2; omega
      · rw [B, show ((i + 1 : Nat) : Int) = (i : Int) + 1 by omega, show (((o + (i + 1)) / 8 : Nat) : Int) = (((o + i) / 8 : Nat) : Int) + 1 by omega, show (((o + (i + 1)) % 8 : Nat) : Int) = 0 by omega]
/-- A byte that is filled from its highest bit on. -/
theorem fill_step (D : Nat → Nat) (p i : Nat) (hi : i < 8) : (pk D p i * 2 ^ (8 - i)) / 2 = pk D p i * 2 ^ (7 - i) ∧ pk D p (i + 1) * 2 ^ (8 - (i + 1)) = pk D p i * 2 ^ (7 - i) + 2 ^ 7 * (bitD D (p + i)).toNat ∧ pk D p i * 2 ^ (7 - i) < 2 ^ 7 := by
  have l := pk_lt D p i
  refine ⟨?_, ?_, ?_⟩
  · rw [show 8 - i = (7 - i) + 1 by omega, Nat.pow_succ, ← Nat.mul_assoc]
    omega
  · rw [show 8 - (i + 1) = 7 - i by omega, pk, Nat.add_mul]
    congr 1
    rw [Nat.mul_right_comm, ← Nat.pow_add, show i + (7 - i) = 7 by omega]
  · calc pk D p i * 2 ^ (7 - i) < 2 ^ i * 2 ^ (7 - i) := Nat.mul_lt_mul_of_pos_right l (Nat.two_pow_pos _)
      _ = 2 ^ 7 := by rw [← Nat.pow_add, show i + (7 - i) = 7 by omega]
theorem fill_or (D : Nat → Nat) (p i : Nat) (hi : i < 8) (hb : bitD D (p + i) = true) : bits .or .u8 ((pk D p i * 2 ^ (7 - i) : Nat) : Int) 128 = ((pk D p (i + 1) * 2 ^ (8 - (i + 1)) : Nat) : Int) := by
  have h := fill_step D p i hi
  rw [hb] at h
  have k := or_u8 7 (pk D p i * 2 ^ (7 - i)) 1 h.2.2 (by omega)
  rw [h.2.1]
  exact k
theorem Dat.shift {w : World} {B O L : Nat} {D : Nat → Nat} (h : Dat w B O L D) (s : Nat) (hs : s ≤ L) : Dat w B (O + s) (L - s) (fun j => D (s + j)) :=
  ⟨fun j hj => h.at_ (s + j) (O + s + j) (by omega) (by omega), fun j => h.byte _⟩
set_option maxHeartbeats 2000000 in
theorem last46 (g B O E : Nat) (D : Nat → Nat) (s c o cw v : Nat) (nw tB : Int) (w : World) (hD : Dat w B O E D) (hg : B ≠ g) (h : Rdr w g B O E s c o nw (v : Int) tB cw) (hs : s + (o + v + 7) / 8 ≤ E) (ho : o < 8) (hE : E < 2 ^ 40) (h0 : 0 < v) (h8 : v ≤ 8) :
    Calls Tryd.prog 46 #[.pointer (some ⟨g, 0, none⟩)] w fun e w' => e = .returned (.tuple #[.int .u8 (pk D (8 * s + o) v : Nat), .int .i64 v]) ∧ Tch (fun k => k = g) w w' := by
  unfold Rdr at h
  have h0' : w.cell? ⟨g, 0, none⟩ = some (.slice (some ⟨B, O + s, none⟩) (E - s) c) := (blk_cell h 0).trans rfl
  have h1 : w.cell? ⟨g, 1, none⟩ = some (.int .i64 (o : Int)) := (blk_cell h 1).trans rfl
  have h3 : w.cell? ⟨g, 3, none⟩ = some (.int .i64 (v : Int)) := (blk_cell h 3).trans rfl
  have f3 := blk_frozen h 3
  have hgs := Tch.lt h
  have k5 : (v : Int) ≤ 8 := by omega
  have k6 : (0 : Int) < v := by omega
  have l1 : 0 < E - s := by omega
  have H := Lib.hid h
  clear h
  go_enter Tryd.func46, Tryd.ntmps46
  go_wp2_with (first | (go_at_call 33; (with_reducible refine (as33 _ _ _).mono ?_); rintro e w1 ⟨rfl, rfl⟩))
  refine wp_at ?_
  intro w2 hw2
  have B2 := blk_put H.out 3 (.int .i64 0) rfl
  rw [← hw2] at B2
  have T2 : Tch (fun k => k = g) w w2.drew := by rw [hw2]; exact tdrew (tset (Tch.refl _ _))
  have g0 : w2.drew.cell? ⟨g, 0, none⟩ = some (.slice (some ⟨B, O + s, none⟩) (E - s) c) := (blk_cell (blk_drew_ B2) 0).trans rfl
  have g1 : w2.drew.cell? ⟨g, 1, none⟩ = some (.int .i64 (o : Int)) := (blk_cell (blk_drew_ B2) 1).trans rfl
  clear hw2 H h0' h1 h3 f3
  refine start_ (n := 11) (S := fun w' => w'.cell? ⟨g, 0, none⟩ = some (.slice (some ⟨B, O + s, none⟩) (E - s) c) ∧ w'.cell? ⟨g, 1, none⟩ = some (.int .i64 (o : Int))) (ds := []) #[false, false, false, false, false, false, false, false, false, false, false] (by kernel_rfl) rfl rfl ⟨g0, g1⟩ (fun hHeld => ?_)
  refine pure_ (i := 0) (N := some 26) (v := ?_) (a' := ?_) #[true, false, false, false, false, false, false, false, false, false, false] rfl rfl (by kernel_rfl) (fun _ _ _ h => h) (Or.inl ⟨by rfl, ?_⟩) ?_ ?_
  rotate_left
  · intro w'
    go_simp
    with_reducible rfl
  rotate_left
  · simp only [Act.put, s1_, s2_, s3_, i64_w, i32_w]
    rfl
  refine pure_ (i := 1) (N := some 27) (v := ?_) (a' := ?_) #[true, true, false, false, false, false, false, false, false, false, false] rfl rfl (by kernel_rfl) (fun _ _ _ h => h) (Or.inl ⟨by rfl, ?_⟩) ?_ ?_
  rotate_left
  · intro w'
    go_simp
    with_reducible rfl
  rotate_left
  · simp only [Act.put, s1_, s2_, s3_, i64_w, i32_w]
    rfl
  refine pure_ (i := 2) (N := some 28) (v := ?_) (a' := ?_) #[true, true, true, false, false, false, false, false, false, false, false] rfl rfl (by kernel_rfl) (fun _ _ _ h => h) (Or.inl ⟨by rfl, ?_⟩) ?_ ?_
  rotate_left
  · intro w'
    go_simp
    with_reducible rfl
  rotate_left
  · simp only [Act.put, s1_, s2_, s3_, i64_w, i32_w]
    rfl
  refine pure_ (i := 4) (N := some 30) (v := ?_) (a' := ?_) #[true, true, true, false, true, false, false, false, false, false, false] rfl rfl (by kernel_rfl) (fun _ _ _ h => h) (Or.inl ⟨by rfl, ?_⟩) ?_ ?_
  rotate_left
  · intro w'
    go_simp
    with_reducible rfl
  rotate_left
  · simp only [Act.put, s1_, s2_, s3_, i64_w, i32_w]
    rfl
  refine pure_ (i := 5) (N := some 31) (v := ?_) (a' := ?_) #[true, true, true, false, true, true, false, false, false, false, false] rfl rfl (by kernel_rfl) (fun _ _ _ h => h) (Or.inl ⟨by rfl, ?_⟩) ?_ ?_
  rotate_left
  · intro w'
    go_simp
    with_reducible rfl
  rotate_left
  · simp only [Act.put, s1_, s2_, s3_, i64_w, i32_w]
    rfl
  refine pure_ (i := 6) (N := some 32) (v := ?_) (a' := ?_) #[true, true, true, false, true, true, true, false, false, false, false] rfl rfl (by kernel_rfl) (fun _ _ _ h => h) (Or.inl ⟨by rfl, ?_⟩) ?_ ?_
  rotate_left
  · intro w'
    go_simp
    with_reducible rfl
  rotate_left
  · simp only [Act.put, s1_, s2_, s3_, i64_w, i32_w]
    rfl
  refine pure_ (i := 8) (N := some 34) (v := ?_) (a' := ?_) #[true, true, true, false, true, true, true, false, true, false, false] rfl rfl (by kernel_rfl) (fun _ _ _ h => h) (Or.inl ⟨by rfl, ?_⟩) ?_ ?_
  rotate_left
  · intro w'
    go_simp
    with_reducible rfl
  rotate_left
  · simp only [Act.put, s1_, s2_, s3_, i64_w, i32_w]
    rfl
  refine take_ (i := 3) (N := some 29) (v := ?_) (a' := ?_) #[true, true, true, true, true, true, true, false, true, false, false] rfl rfl (by kernel_rfl) (fun _ _ _ h => h) (Or.inl ⟨by rfl, ?_⟩) hHeld ?_ ?_
  rotate_left
  · intro w' s0
    have d := s0.1
    clear s0
    go_simp
    with_reducible rfl
  rotate_left
  · simp only [Act.put, s1_, s2_, s3_, i64_w, i32_w]
    rfl
  refine take_ (i := 7) (N := some 33) (v := ?_) (a' := ?_) #[true, true, true, true, true, true, true, true, true, false, false] rfl rfl (by kernel_rfl) (fun _ _ _ h => h) (Or.inl ⟨by rfl, ?_⟩) hHeld ?_ ?_
  rotate_left
  · intro w' s0
    have d := s0.2
    clear s0
    go_simp
    with_reducible rfl
  rotate_left
  · simp only [Act.put, s1_, s2_, s3_, i64_w, i32_w]
    rfl
  refine one_ (i := 9) (N := some 35) #[true, true, true, true, true, true, true, true, true, true, false] rfl rfl (by kernel_rfl) (by decide) (fun K hK => ?_)
  refine goes_ Tryd.func48 (by kernel_rfl) rfl #[(.slice (some ⟨B, O + s, none⟩) (E - s) c), (.int .i64 (o : Int)), (.int .i64 (v : Int))] (by rfl) rfl rfl (by (try simp only [List.map_toArray, List.map_cons, List.map_nil]); rfl) ?_
  have D2 : Dat w2.drew B (O + s) (E - s) (fun j => D (s + j)) := (hD.tch T2 hg).shift s (by omega)
  refine (rd48 B (O + s) (E - s) (fun j => D (s + j)) (O + s) c (E - s) o v w2.drew D2 rfl ho h0 l1 l1).mono ?_
  rintro e w3 ⟨rfl, N3, b3⟩
  refine ⟨_, rfl, ?_⟩
  have hsz : w2.drew.heap.size = w2.heap.size := rfl
  have q0 : w3.cell? ⟨g, 0, none⟩ = some (.slice (some ⟨B, O + s, none⟩) (E - s) c) := (Tch.of_below (S := fun _ => False) b3).cell g0 (fun h => h)
  have q1 : w3.cell? ⟨g, 1, none⟩ = some (.int .i64 (o : Int)) := (Tch.of_below (S := fun _ => False) b3).cell g1 (fun h => h)
  have T3 : Tch (fun k => k = g) w w3 := T2.trans (Tch.of_below b3)
  have hr : Brd w3 w2.drew.heap.size B (O + s) (E - s) c D s o v 0 := ⟨D (s + 0), hD.byte _, fun _ => by rw [show (o + 0) / 8 = 0 by omega], by rw [show (o + 0) / 8 = 0 by omega, show (o + 0) % 8 = o by omega]; exact N3⟩
  have hn : w.heap.size ≤ w2.drew.heap.size := T2.size
  obtain ⟨g2, hg2⟩ : ∃ g2, g2 = w2.drew.heap.size := ⟨_, rfl⟩
  rw [← hg2] at hr hn ⊢
  clear g0 g1 B2 T2 D2 N3 b3 hsz hg2
  refine hK.out _ _ ⟨q0, q1⟩ (fun hHeld => ?_)
  clear hK K hHeld q0 q1
  refine norm_ (a' := ?_) ?_ ?_
  rotate_left
  · show Act.put _ (some 35) _ = _
    simp only [Act.put, s1_, s2_, s3_]
    rfl
  refine pure_ (i := 10) (N := some 4) (v := ?_) (a' := ?_) #[true, true, true, true, true, true, true, true, true, true, true] rfl rfl (by kernel_rfl) (fun _ _ _ h => h) (Or.inl ⟨by rfl, ?_⟩) ?_ ?_
  rotate_left
  · intro w'
    go_simp
    with_reducible rfl
  rotate_left
  · simp only [Act.put, s1_, s2_, s3_, i64_w, i32_w]
    rfl
  refine done_ (by kernel_rfl) ?_
  clear hHeld
  have HR := Aside0.mk (And.intro T3 hr)
  clear T3 hr
  have hg2 : g2 ≠ g := by omega
  have hb2 : B ≠ g2 := by
    have := World.block_lt_of_cell? w ⟨B, O + s, none⟩ (hD.at_ s (O + s) (by omega) rfl)
    simp only at this
    omega
  have HG := Lib.hid (And.intro hg2 (And.intro hb2 (And.intro hg (And.intro hn (And.intro h8 hs)))))
  clear hg2 hb2 hg hn h8 hs l1 hgs
  go_wp2_with fail
  go_loopg [2, 5] v (fun kq v2 v5 wr => ∃ i x : Nat, v2 = .int .u8 (x : Int) ∧ v5 = .int .i64 (i : Int) ∧ Aside0 (x = pk D (8 * s + o) i * 2 ^ (8 - i) ∧ i + kq = v ∧ Tch (fun k => k = g) w wr ∧ Brd wr g2 B (O + s) (E - s) c D s o v i))
  case atStart => exact ⟨0, 0, rfl, rfl, ⟨⟨by simp [pk], by omega, HR.out.1, HR.out.2⟩⟩⟩
  case round =>
    clear HR
    obtain ⟨i, x, rfl, rfl, HA⟩ := hrel
    by_cases hi : (i : Int) < (v : Int)
    · obtain ⟨hx, hk, T, hr⟩ := HA.out
      obtain ⟨hg2, hb2, hg, hn, h8, hs⟩ := HG.out
      have hi2 : i < v := by omega
      have fs := fill_step D (8 * s + o) i (by omega)
      rw [← hx] at fs
      have hQ := brd_set g2 B (O + s) (E - s) c D s o v i wr hr hi2
      have hi3 : (i : Int) < 2 ^ 40 := by omega
      obtain ⟨y, hy⟩ : ∃ y : Nat, y = x / 2 := ⟨_, rfl⟩
      rw [← hy] at fs
      have hy2 : (x : Int) / 2 = (y : Int) := by omega
      cases hb : bitD D (8 * s + o + i)
      · rw [hb] at hQ fs
        have HF := Lib.hid (And.intro hk (And.intro T (And.intro hr (And.intro fs (And.intro hi2 (And.intro hg2 (And.intro hg (And.intro hn (And.intro h8 hs)))))))))
        clear hk T hr fs hi2 hg2 hg hn h8 hs hx hy
        go_wp2_with (first | (go_at_call 49; (refine hQ.mono ?_); rintro e w5 ⟨rfl, hb5⟩) | (go_at_call 50; fail))
        clear hQ
        obtain ⟨hk, T, hr, fs, hi2, hg2, hg, hn, h8, hs⟩ := HF.out
        have T5 := T.trans (Tch.of_below hb5)
        refine (brd_next g2 B O E (E - s) c D s o v i w5 (hr.tch (Tch.of_below (S := fun _ => False) hb5) (fun h => h)) (hD.tch T5 hg) hb2 hi2 (by omega) ho (by omega) hs).mono ?_
        rintro e w6 ⟨rfl, T6, hr6⟩
        clear HF hr hb5
        have HF := Lib.hid (And.intro hk (And.intro (T5.then_ T6 (fun k hk => .inr (by omega))) (And.intro hr6 fs)))
        clear hk T T5 T6 hr6 fs hg2 hg hn h8 hs hb2
        go_wp2_with fail
        go_roundg (gk - 1)
        case measure => have := HF.out.1; omega
        case rel =>
          obtain ⟨hk, T, hr, fs⟩ := HF.out
          exact ⟨i + 1, y, rfl, rfl, ⟨⟨by rw [fs.2.1, fs.1]; simp, by omega, T, hr⟩⟩⟩
      · rw [hb] at hQ fs
        have HF := Lib.hid (And.intro hk (And.intro T (And.intro hr (And.intro fs (And.intro hi2 (And.intro hg2 (And.intro hg (And.intro hn (And.intro h8 hs)))))))))
        clear hk T hr fs hi2 hg2 hg hn h8 hs hx hy
        go_wp2_with (first | (go_at_call 49; (refine hQ.mono ?_); rintro e w5 ⟨rfl, hb5⟩) | (go_at_call 50; fail))
        clear hQ
        obtain ⟨hk, T, hr, fs, hi2, hg2, hg, hn, h8, hs⟩ := HF.out
        have T5 := T.trans (Tch.of_below hb5)
        refine (brd_next g2 B O E (E - s) c D s o v i w5 (hr.tch (Tch.of_below (S := fun _ => False) hb5) (fun h => h)) (hD.tch T5 hg) hb2 hi2 (by omega) ho (by omega) hs).mono ?_
        rintro e w6 ⟨rfl, T6, hr6⟩
        clear HF hr hb5
        have HF := Lib.hid (And.intro hk (And.intro (T5.then_ T6 (fun k hk => .inr (by omega))) (And.intro hr6 fs)))
        clear hk T T5 T6 hr6 fs hg2 hg hn h8 hs hb2
        go_wp2_with fail
        go_roundg (gk - 1)
        case measure => have := HF.out.1; omega
        case rel =>
          obtain ⟨hk, T, hr, fs⟩ := HF.out
          exact ⟨i + 1, y + 2 ^ 7 * 1, congrArg (Value.int .u8) (or_u8 7 y 1 (by omega) (by omega)), rfl, ⟨⟨by rw [fs.2.1, fs.1]; rfl, by omega, T, hr⟩⟩⟩
    · have hk2 : (8 : Int) - (v : Int) = ((8 - v : Nat) : Int) := by have := HG.out.2.2.2.2.1; omega
      have hk3 : ¬ (8 : Int) - (v : Int) < 0 := by have := HG.out.2.2.2.2.1; omega
      go_wp2
      go_ret2
      obtain ⟨hx, hk, T, hr⟩ := HA.out
      have hiv : i = v := by omega
      subst hiv
      refine ⟨?_, T⟩
      have e : x / 2 ^ (8 - i) = pk D (8 * s + o) i := by rw [hx]; exact Nat.mul_div_cancel _ (Nat.two_pow_pos _)
      have e2 : (x : Int) / 2 ^ (8 - i) = ((pk D (8 * s + o) i : Nat) : Int) := by rw [← e, Int.natCast_ediv, Int.natCast_pow]; rfl
      exact congrArg (fun z => Ending.returned (Value.tuple #[.int .u8 z, .int .i64 (i : Int)])) e2
end Go.Proofs.YthgbfmcicpmepaaDoor.V
