/- What impl.FlatNumberAt answers, of as many bytes as the number has. -/
import Derived.Test.YtbepnloclnjkfaaN2
namespace Go.Proofs.Ytbepnloclnjkfaa.V
open Go.RowKit Go.Proofs.YtbepnloclnjkfaaW.PrintWords Go.Proofs.YtbepnloclnjkfaaW.PrintLast Go.Proofs.YtbepnloclnjkfaaW.PrintMore
set_option linter.unusedVariables false
set_option linter.unusedSimpArgs false
theorem ffrom32 (n : Int) (w : World) : (callFunc 43 #[.int .u32 n]).run Try.prog w = .ok (.value (.float .f32 n.toNat)) w := by
  rw [run_callFunc_extern Try.func43 (by kernel_rfl) (by kernel_rfl) (by kernel_rfl) (e := Extern.MathFloatBits.float32frombits) (by kernel_rfl)]
  rfl
theorem ffrom64 (n : Int) (w : World) : (callFunc 44 #[.int .u64 n]).run Try.prog w = .ok (.value (.float .f64 n.toNat)) w := by
  rw [run_callFunc_extern Try.func44 (by kernel_rfl) (by kernel_rfl) (by kernel_rfl) (e := Extern.MathFloatBits.float64frombits) (by kernel_rfl)]
  rfl
theorem getF32 (S1 : Value) (v : Int) (w : World) (hG : ∀ W, w = W → Calls Try.prog 31 #[S1] W fun e W' => e = .returned (.int .u32 v) ∧ W = W') : Calls Try.prog 20 #[S1] w fun e w' => e = .returned (.float .f32 v.toNat) ∧ w = w' := by
  have hG' := hG w rfl
  clear hG
  have hf := ffrom32 v
  go_enter Try.func20, Try.ntmps20
  go_wp2_with (first | simp only [hf] | (go_at_call 31; (with_reducible refine hG'.mono ?_); rintro e w1 ⟨rfl, rfl⟩))
  go_ret
  exact ⟨rfl, rfl⟩
theorem putF32 (S1 : Value) (F : Nat) (w w1 : World) (hP : ∀ W, w = W → Calls Try.prog 32 #[S1, .int .u32 (F : Int)] W fun e W' => e = .returned (.tuple #[]) ∧ W' = w1) : Calls Try.prog 21 #[S1, .float .f32 F] w fun e w' => e = .returned (.tuple #[]) ∧ w' = w1 := by
  have hP' := hP w rfl
  clear hP
  have hf := fbits32 F
  go_enter Try.func21, Try.ntmps21
  go_wp2_with (first | simp only [hf] | (go_at_call 32; (with_reducible refine hP'.mono ?_); rintro e w2 ⟨rfl, rfl⟩))
  go_end0
  exact ⟨rfl, rfl⟩
theorem getF64 (S1 : Value) (v : Int) (w : World) (hG : ∀ W, w = W → Calls Try.prog 33 #[S1] W fun e W' => e = .returned (.int .u64 v) ∧ W = W') : Calls Try.prog 23 #[S1] w fun e w' => e = .returned (.float .f64 v.toNat) ∧ w = w' := by
  have hG' := hG w rfl
  clear hG
  have hf := ffrom64 v
  go_enter Try.func23, Try.ntmps23
  go_wp2_with (first | simp only [hf] | (go_at_call 33; (with_reducible refine hG'.mono ?_); rintro e w1 ⟨rfl, rfl⟩))
  go_ret
  exact ⟨rfl, rfl⟩
theorem putF64 (S1 : Value) (F : Nat) (w w1 : World) (hP : ∀ W, w = W → Calls Try.prog 34 #[S1, .int .u64 (F : Int)] W fun e W' => e = .returned (.tuple #[]) ∧ W' = w1) : Calls Try.prog 24 #[S1, .float .f64 F] w fun e w' => e = .returned (.tuple #[]) ∧ w' = w1 := by
  have hP' := hP w rfl
  clear hP
  have hf := fbits64 F
  go_enter Try.func24, Try.ntmps24
  go_wp2_with (first | simp only [hf] | (go_at_call 34; (with_reducible refine hP'.mono ?_); rintro e w2 ⟨rfl, rfl⟩))
  go_end0
  exact ⟨rfl, rfl⟩
/-- Bytes as a number, the lowest first. -/
def bval : List Int → Int
  | [] => 0
  | x :: r => x + 256 * bval r
/-- Of as many bytes as the number has: the number, its bytes; nothing is said of others. -/
def impl_FlatNumberAt.f (l0 : List Int) (a1 : Int) (a2 a3 : Bool) : Option (Int × List Int × Bool) :=
  if (a1 = 1 ∨ a1 = 2 ∨ a1 = 4 ∨ a1 = 8) ∧ (l0.length : Int) = a1 ∧ (a3 = true → 4 ≤ a1 ∧ a2 = false) ∧ (∀ x ∈ l0, 0 ≤ x ∧ x < 256) then some (bval l0, l0, true) else none
theorem cellI {w : World} {A : Option Addr} {l : List Int} (h : Kd.C (Kd.int .u8) w A l.length l) (hl : 0 < l.length) : ∃ ad, A = some ad ∧ ∀ i : Nat, i < l.length → w.cell? (ad.add i) = some (.int .u8 (rd l (i : Int))) := by
  obtain ⟨ad, e, hx⟩ := Kd.at_int h 0 (by omega) (by omega)
  refine ⟨ad, e, fun i hi => ?_⟩
  obtain ⟨ad', e', hx'⟩ := Kd.at_int h (i : Int) (by omega) (by omega)
  rw [e] at e'
  injection e' with e'
  rw [e']
  exact hx'
theorem at_u8 (ad : Addr) (c : Nat) (x0 : Int) (w : World) (h0 : w.cell? ad = some (.int .u8 x0)) (b0 : 0 ≤ x0) (c0 : x0 < 256) :
    Calls Try.prog 8 #[.slice (some ad) 1 c, .int .i64 1, .bool false, .bool false] w fun e w' => ∃ v, e = .returned (.tuple #[.int .u64 x0, v, .bool true]) ∧ NumPost w w' v [x0] := by
  have hw : IntKind.u8.wrap x0 = x0 := by simp [IntKind.wrap, IntKind.bits, IntKind.signed]; omega
  refine num_u8 _ x0 x0 w b0 c0 (fun W hb => ?_) (fun g W BD => ?_)
  · have h := get_u8 ad c x0 W (keep hb h0) b0 c0
    rw [hw] at h
    exact h
  · exact put_u8 g 1 x0 W ((blk_cell BD 0).trans rfl) (blk_frozen BD 0)
theorem atS_i8 (ad : Addr) (c : Nat) (x0 : Int) (w : World) (h0 : w.cell? ad = some (.int .u8 x0)) (b0 : 0 ≤ x0) (c0 : x0 < 256) :
    Calls Try.prog 8 #[.slice (some ad) 1 c, .int .i64 1, .bool true, .bool false] w fun e w' => ∃ v, e = .returned (.tuple #[.int .u64 x0, v, .bool true]) ∧ NumPost w w' v [x0] := by
  obtain ⟨v, hv⟩ : ∃ v, v = IntKind.i8.wrap x0 := ⟨_, rfl⟩
  have hvs : v = x0 ∨ v = x0 - 256 := by
    rw [hv]
    simp only [IntKind.wrap, IntKind.bits, IntKind.signed]
    simp
    split <;> omega
  refine snum_1 _ x0 x0 w (fun g W hb BD => ?_)
  refine signed_i8 _ v x0 x0 g W BD (by omega) (fun W' e => ?_) (fun g' W' BD => ?_)
  · have h := get_i8 ad c x0 W (keep hb h0) b0 c0
    rw [← hv] at h
    exact e ▸ h
  · exact put_i8 g' 1 v x0 W' (by omega) ((blk_cell BD 0).trans rfl) (blk_frozen BD 0)
set_option maxHeartbeats 1000000 in
theorem at_u16 (ad : Addr) (c : Nat) (x0 x1 : Int) (w : World) (h0 : w.cell? ad = some (.int .u8 x0)) (b0 : 0 ≤ x0) (c0 : x0 < 256) (h1 : w.cell? ⟨ad.block, ad.off + 1, none⟩ = some (.int .u8 x1)) (b1 : 0 ≤ x1) (c1 : x1 < 256) :
    Calls Try.prog 8 #[.slice (some ad) 2 c, .int .i64 2, .bool false, .bool false] w fun e w' => ∃ v, e = .returned (.tuple #[.int .u64 (x0 + x1 * 256), v, .bool true]) ∧ NumPost w w' v [x0, x1] := by
  obtain ⟨V, hV⟩ : ∃ V, V = x0 + x1 * 256 := ⟨_, rfl⟩
  rw [← hV]
  have hw : IntKind.u16.wrap V = V := by simp [IntKind.wrap, IntKind.bits, IntKind.signed]; omega
  refine num_u16 _ V x0 x1 w (by omega) (by omega) (fun W hb => ?_) (fun g W BD => ?_)
  · have h := get_u16 ad c x0 x1 W (keep hb h0) b0 c0 (keep hb h1) b1 c1
    rw [← hV, hw] at h
    exact h
  · exact put_u16 g 2 V x0 x1 W (by omega) (by omega) ((blk_cell BD 0).trans rfl) (blk_frozen BD 0) ((blk_cell BD 1).trans rfl) (blk_frozen BD 1)
set_option maxHeartbeats 1000000 in
theorem atS_i16 (ad : Addr) (c : Nat) (x0 x1 : Int) (w : World) (h0 : w.cell? ad = some (.int .u8 x0)) (b0 : 0 ≤ x0) (c0 : x0 < 256) (h1 : w.cell? ⟨ad.block, ad.off + 1, none⟩ = some (.int .u8 x1)) (b1 : 0 ≤ x1) (c1 : x1 < 256) :
    Calls Try.prog 8 #[.slice (some ad) 2 c, .int .i64 2, .bool true, .bool false] w fun e w' => ∃ v, e = .returned (.tuple #[.int .u64 (x0 + x1 * 256), v, .bool true]) ∧ NumPost w w' v [x0, x1] := by
  obtain ⟨V, hV⟩ : ∃ V, V = x0 + x1 * 256 := ⟨_, rfl⟩
  rw [← hV]
  obtain ⟨v, hv⟩ : ∃ v, v = IntKind.i16.wrap V := ⟨_, rfl⟩
  have hvs : v = V ∨ v = V - 65536 := by
    rw [hv]
    simp only [IntKind.wrap, IntKind.bits, IntKind.signed]
    simp
    split <;> omega
  refine snum_2 _ V x0 x1 w (fun g W hb BD => ?_)
  refine signed_i16 _ v V x0 x1 g W BD ?_ (fun W' e => ?_) (fun g' W' BD => ?_)
  · first | omega | (simp only [IntKind.wrap, IntKind.bits, IntKind.signed]; simp; omega)
  · have h := get_i16 ad c x0 x1 W (keep hb h0) b0 c0 (keep hb h1) b1 c1
    rw [← hV, ← hv] at h
    exact e ▸ h
  · exact put_i16 g' 2 v x0 x1 W' (by omega) (by omega) ((blk_cell BD 0).trans rfl) (blk_frozen BD 0) ((blk_cell BD 1).trans rfl) (blk_frozen BD 1)
set_option maxHeartbeats 1000000 in
theorem at_u32 (ad : Addr) (c : Nat) (x0 x1 x2 x3 : Int) (w : World) (h0 : w.cell? ad = some (.int .u8 x0)) (b0 : 0 ≤ x0) (c0 : x0 < 256) (h1 : w.cell? ⟨ad.block, ad.off + 1, none⟩ = some (.int .u8 x1)) (b1 : 0 ≤ x1) (c1 : x1 < 256) (h2 : w.cell? ⟨ad.block, ad.off + 2, none⟩ = some (.int .u8 x2)) (b2 : 0 ≤ x2) (c2 : x2 < 256) (h3 : w.cell? ⟨ad.block, ad.off + 3, none⟩ = some (.int .u8 x3)) (b3 : 0 ≤ x3) (c3 : x3 < 256) :
    Calls Try.prog 8 #[.slice (some ad) 4 c, .int .i64 4, .bool false, .bool false] w fun e w' => ∃ v, e = .returned (.tuple #[.int .u64 (x0 + x1 * 256 + x2 * 65536 + x3 * 16777216), v, .bool true]) ∧ NumPost w w' v [x0, x1, x2, x3] := by
  obtain ⟨V, hV⟩ : ∃ V, V = x0 + x1 * 256 + x2 * 65536 + x3 * 16777216 := ⟨_, rfl⟩
  rw [← hV]
  have hw : IntKind.u32.wrap V = V := by simp [IntKind.wrap, IntKind.bits, IntKind.signed]; omega
  refine num_u32 _ V x0 x1 x2 x3 w (by omega) (by omega) (fun W hb => ?_) (fun g W BD => ?_)
  · have h := get_u32 ad c x0 x1 x2 x3 W (keep hb h0) b0 c0 (keep hb h1) b1 c1 (keep hb h2) b2 c2 (keep hb h3) b3 c3
    rw [← hV, hw] at h
    exact h
  · exact put_u32 g 4 V x0 x1 x2 x3 W (by omega) (by omega) (by omega) (by omega) ((blk_cell BD 0).trans rfl) (blk_frozen BD 0) ((blk_cell BD 1).trans rfl) (blk_frozen BD 1) ((blk_cell BD 2).trans rfl) (blk_frozen BD 2) ((blk_cell BD 3).trans rfl) (blk_frozen BD 3)
set_option maxHeartbeats 1000000 in
theorem atF_u32 (ad : Addr) (c : Nat) (x0 x1 x2 x3 : Int) (w : World) (h0 : w.cell? ad = some (.int .u8 x0)) (b0 : 0 ≤ x0) (c0 : x0 < 256) (h1 : w.cell? ⟨ad.block, ad.off + 1, none⟩ = some (.int .u8 x1)) (b1 : 0 ≤ x1) (c1 : x1 < 256) (h2 : w.cell? ⟨ad.block, ad.off + 2, none⟩ = some (.int .u8 x2)) (b2 : 0 ≤ x2) (c2 : x2 < 256) (h3 : w.cell? ⟨ad.block, ad.off + 3, none⟩ = some (.int .u8 x3)) (b3 : 0 ≤ x3) (c3 : x3 < 256) :
    Calls Try.prog 8 #[.slice (some ad) 4 c, .int .i64 4, .bool false, .bool true] w fun e w' => ∃ v, e = .returned (.tuple #[.int .u64 (x0 + x1 * 256 + x2 * 65536 + x3 * 16777216), v, .bool true]) ∧ NumPost w w' v [x0, x1, x2, x3] := by
  obtain ⟨V, hV⟩ : ∃ V, V = x0 + x1 * 256 + x2 * 65536 + x3 * 16777216 := ⟨_, rfl⟩
  rw [← hV]
  have hw : IntKind.u32.wrap V = V := by simp [IntKind.wrap, IntKind.bits, IntKind.signed]; omega
  refine real_u32 _ V x0 x1 x2 x3 V.toNat w (by omega) (by omega) (fun W hb => ?_) (fun g W BD => ?_)
  · have h := get_u32 ad c x0 x1 x2 x3 W (keep hb h0) b0 c0 (keep hb h1) b1 c1 (keep hb h2) b2 c2 (keep hb h3) b3 c3
    rw [← hV, hw] at h
    exact getF32 _ V W (fun W' e => e ▸ h)
  · refine putF32 _ _ W _ (fun W' e => ?_)
    subst e
    exact put_u32 g 4 (V.toNat : Int) x0 x1 x2 x3 W (by omega) (by omega) (by omega) (by omega) ((blk_cell BD 0).trans rfl) (blk_frozen BD 0) ((blk_cell BD 1).trans rfl) (blk_frozen BD 1) ((blk_cell BD 2).trans rfl) (blk_frozen BD 2) ((blk_cell BD 3).trans rfl) (blk_frozen BD 3)
set_option maxHeartbeats 1000000 in
theorem atS_i32 (ad : Addr) (c : Nat) (x0 x1 x2 x3 : Int) (w : World) (h0 : w.cell? ad = some (.int .u8 x0)) (b0 : 0 ≤ x0) (c0 : x0 < 256) (h1 : w.cell? ⟨ad.block, ad.off + 1, none⟩ = some (.int .u8 x1)) (b1 : 0 ≤ x1) (c1 : x1 < 256) (h2 : w.cell? ⟨ad.block, ad.off + 2, none⟩ = some (.int .u8 x2)) (b2 : 0 ≤ x2) (c2 : x2 < 256) (h3 : w.cell? ⟨ad.block, ad.off + 3, none⟩ = some (.int .u8 x3)) (b3 : 0 ≤ x3) (c3 : x3 < 256) :
    Calls Try.prog 8 #[.slice (some ad) 4 c, .int .i64 4, .bool true, .bool false] w fun e w' => ∃ v, e = .returned (.tuple #[.int .u64 (x0 + x1 * 256 + x2 * 65536 + x3 * 16777216), v, .bool true]) ∧ NumPost w w' v [x0, x1, x2, x3] := by
  obtain ⟨V, hV⟩ : ∃ V, V = x0 + x1 * 256 + x2 * 65536 + x3 * 16777216 := ⟨_, rfl⟩
  rw [← hV]
  obtain ⟨v, hv⟩ : ∃ v, v = IntKind.i32.wrap V := ⟨_, rfl⟩
  have hvs : v = V ∨ v = V - 4294967296 := by
    rw [hv]
    simp only [IntKind.wrap, IntKind.bits, IntKind.signed]
    simp
    split <;> omega
  refine snum_4 _ V x0 x1 x2 x3 w (fun g W hb BD => ?_)
  refine signed_i32 _ v V x0 x1 x2 x3 g W BD ?_ (fun W' e => ?_) (fun g' W' BD => ?_)
  · first | omega | (simp only [IntKind.wrap, IntKind.bits, IntKind.signed]; simp; omega)
  · have h := get_i32 ad c x0 x1 x2 x3 W (keep hb h0) b0 c0 (keep hb h1) b1 c1 (keep hb h2) b2 c2 (keep hb h3) b3 c3
    rw [← hV, ← hv] at h
    exact e ▸ h
  · exact put_i32 g' 4 v x0 x1 x2 x3 W' (by omega) (by omega) (by omega) (by omega) ((blk_cell BD 0).trans rfl) (blk_frozen BD 0) ((blk_cell BD 1).trans rfl) (blk_frozen BD 1) ((blk_cell BD 2).trans rfl) (blk_frozen BD 2) ((blk_cell BD 3).trans rfl) (blk_frozen BD 3)
set_option maxHeartbeats 1000000 in
theorem at_u64 (ad : Addr) (c : Nat) (x0 x1 x2 x3 x4 x5 x6 x7 : Int) (w : World) (h0 : w.cell? ad = some (.int .u8 x0)) (b0 : 0 ≤ x0) (c0 : x0 < 256) (h1 : w.cell? ⟨ad.block, ad.off + 1, none⟩ = some (.int .u8 x1)) (b1 : 0 ≤ x1) (c1 : x1 < 256) (h2 : w.cell? ⟨ad.block, ad.off + 2, none⟩ = some (.int .u8 x2)) (b2 : 0 ≤ x2) (c2 : x2 < 256) (h3 : w.cell? ⟨ad.block, ad.off + 3, none⟩ = some (.int .u8 x3)) (b3 : 0 ≤ x3) (c3 : x3 < 256) (h4 : w.cell? ⟨ad.block, ad.off + 4, none⟩ = some (.int .u8 x4)) (b4 : 0 ≤ x4) (c4 : x4 < 256) (h5 : w.cell? ⟨ad.block, ad.off + 5, none⟩ = some (.int .u8 x5)) (b5 : 0 ≤ x5) (c5 : x5 < 256) (h6 : w.cell? ⟨ad.block, ad.off + 6, none⟩ = some (.int .u8 x6)) (b6 : 0 ≤ x6) (c6 : x6 < 256) (h7 : w.cell? ⟨ad.block, ad.off + 7, none⟩ = some (.int .u8 x7)) (b7 : 0 ≤ x7) (c7 : x7 < 256) :
    Calls Try.prog 8 #[.slice (some ad) 8 c, .int .i64 8, .bool false, .bool false] w fun e w' => ∃ v, e = .returned (.tuple #[.int .u64 (x0 + x1 * 256 + x2 * 65536 + x3 * 16777216 + x4 * 4294967296 + x5 * 1099511627776 + x6 * 281474976710656 + x7 * 72057594037927936), v, .bool true]) ∧ NumPost w w' v [x0, x1, x2, x3, x4, x5, x6, x7] := by
  obtain ⟨V, hV⟩ : ∃ V, V = x0 + x1 * 256 + x2 * 65536 + x3 * 16777216 + x4 * 4294967296 + x5 * 1099511627776 + x6 * 281474976710656 + x7 * 72057594037927936 := ⟨_, rfl⟩
  rw [← hV]
  have hw : IntKind.u64.wrap V = V := by simp [IntKind.wrap, IntKind.bits, IntKind.signed]; omega
  refine num_u64 _ V x0 x1 x2 x3 x4 x5 x6 x7 w (by omega) (by omega) (fun W hb => ?_) (fun g W BD => ?_)
  · have h := get_u64 ad c x0 x1 x2 x3 x4 x5 x6 x7 W (keep hb h0) b0 c0 (keep hb h1) b1 c1 (keep hb h2) b2 c2 (keep hb h3) b3 c3 (keep hb h4) b4 c4 (keep hb h5) b5 c5 (keep hb h6) b6 c6 (keep hb h7) b7 c7
    rw [← hV, hw] at h
    exact h
  · exact put_u64 g 8 V x0 x1 x2 x3 x4 x5 x6 x7 W (by omega) (by omega) (by omega) (by omega) (by omega) (by omega) (by omega) (by omega) ((blk_cell BD 0).trans rfl) (blk_frozen BD 0) ((blk_cell BD 1).trans rfl) (blk_frozen BD 1) ((blk_cell BD 2).trans rfl) (blk_frozen BD 2) ((blk_cell BD 3).trans rfl) (blk_frozen BD 3) ((blk_cell BD 4).trans rfl) (blk_frozen BD 4) ((blk_cell BD 5).trans rfl) (blk_frozen BD 5) ((blk_cell BD 6).trans rfl) (blk_frozen BD 6) ((blk_cell BD 7).trans rfl) (blk_frozen BD 7)
set_option maxHeartbeats 1000000 in
theorem atF_u64 (ad : Addr) (c : Nat) (x0 x1 x2 x3 x4 x5 x6 x7 : Int) (w : World) (h0 : w.cell? ad = some (.int .u8 x0)) (b0 : 0 ≤ x0) (c0 : x0 < 256) (h1 : w.cell? ⟨ad.block, ad.off + 1, none⟩ = some (.int .u8 x1)) (b1 : 0 ≤ x1) (c1 : x1 < 256) (h2 : w.cell? ⟨ad.block, ad.off + 2, none⟩ = some (.int .u8 x2)) (b2 : 0 ≤ x2) (c2 : x2 < 256) (h3 : w.cell? ⟨ad.block, ad.off + 3, none⟩ = some (.int .u8 x3)) (b3 : 0 ≤ x3) (c3 : x3 < 256) (h4 : w.cell? ⟨ad.block, ad.off + 4, none⟩ = some (.int .u8 x4)) (b4 : 0 ≤ x4) (c4 : x4 < 256) (h5 : w.cell? ⟨ad.block, ad.off + 5, none⟩ = some (.int .u8 x5)) (b5 : 0 ≤ x5) (c5 : x5 < 256) (h6 : w.cell? ⟨ad.block, ad.off + 6, none⟩ = some (.int .u8 x6)) (b6 : 0 ≤ x6) (c6 : x6 < 256) (h7 : w.cell? ⟨ad.block, ad.off + 7, none⟩ = some (.int .u8 x7)) (b7 : 0 ≤ x7) (c7 : x7 < 256) :
    Calls Try.prog 8 #[.slice (some ad) 8 c, .int .i64 8, .bool false, .bool true] w fun e w' => ∃ v, e = .returned (.tuple #[.int .u64 (x0 + x1 * 256 + x2 * 65536 + x3 * 16777216 + x4 * 4294967296 + x5 * 1099511627776 + x6 * 281474976710656 + x7 * 72057594037927936), v, .bool true]) ∧ NumPost w w' v [x0, x1, x2, x3, x4, x5, x6, x7] := by
  obtain ⟨V, hV⟩ : ∃ V, V = x0 + x1 * 256 + x2 * 65536 + x3 * 16777216 + x4 * 4294967296 + x5 * 1099511627776 + x6 * 281474976710656 + x7 * 72057594037927936 := ⟨_, rfl⟩
  rw [← hV]
  have hw : IntKind.u64.wrap V = V := by simp [IntKind.wrap, IntKind.bits, IntKind.signed]; omega
  refine real_u64 _ V x0 x1 x2 x3 x4 x5 x6 x7 V.toNat w (by omega) (by omega) (fun W hb => ?_) (fun g W BD => ?_)
  · have h := get_u64 ad c x0 x1 x2 x3 x4 x5 x6 x7 W (keep hb h0) b0 c0 (keep hb h1) b1 c1 (keep hb h2) b2 c2 (keep hb h3) b3 c3 (keep hb h4) b4 c4 (keep hb h5) b5 c5 (keep hb h6) b6 c6 (keep hb h7) b7 c7
    rw [← hV, hw] at h
    exact getF64 _ V W (fun W' e => e ▸ h)
  · refine putF64 _ _ W _ (fun W' e => ?_)
    subst e
    exact put_u64 g 8 (V.toNat : Int) x0 x1 x2 x3 x4 x5 x6 x7 W (by omega) (by omega) (by omega) (by omega) (by omega) (by omega) (by omega) (by omega) ((blk_cell BD 0).trans rfl) (blk_frozen BD 0) ((blk_cell BD 1).trans rfl) (blk_frozen BD 1) ((blk_cell BD 2).trans rfl) (blk_frozen BD 2) ((blk_cell BD 3).trans rfl) (blk_frozen BD 3) ((blk_cell BD 4).trans rfl) (blk_frozen BD 4) ((blk_cell BD 5).trans rfl) (blk_frozen BD 5) ((blk_cell BD 6).trans rfl) (blk_frozen BD 6) ((blk_cell BD 7).trans rfl) (blk_frozen BD 7)
set_option maxHeartbeats 1000000 in
theorem atS_i64 (ad : Addr) (c : Nat) (x0 x1 x2 x3 x4 x5 x6 x7 : Int) (w : World) (h0 : w.cell? ad = some (.int .u8 x0)) (b0 : 0 ≤ x0) (c0 : x0 < 256) (h1 : w.cell? ⟨ad.block, ad.off + 1, none⟩ = some (.int .u8 x1)) (b1 : 0 ≤ x1) (c1 : x1 < 256) (h2 : w.cell? ⟨ad.block, ad.off + 2, none⟩ = some (.int .u8 x2)) (b2 : 0 ≤ x2) (c2 : x2 < 256) (h3 : w.cell? ⟨ad.block, ad.off + 3, none⟩ = some (.int .u8 x3)) (b3 : 0 ≤ x3) (c3 : x3 < 256) (h4 : w.cell? ⟨ad.block, ad.off + 4, none⟩ = some (.int .u8 x4)) (b4 : 0 ≤ x4) (c4 : x4 < 256) (h5 : w.cell? ⟨ad.block, ad.off + 5, none⟩ = some (.int .u8 x5)) (b5 : 0 ≤ x5) (c5 : x5 < 256) (h6 : w.cell? ⟨ad.block, ad.off + 6, none⟩ = some (.int .u8 x6)) (b6 : 0 ≤ x6) (c6 : x6 < 256) (h7 : w.cell? ⟨ad.block, ad.off + 7, none⟩ = some (.int .u8 x7)) (b7 : 0 ≤ x7) (c7 : x7 < 256) :
    Calls Try.prog 8 #[.slice (some ad) 8 c, .int .i64 8, .bool true, .bool false] w fun e w' => ∃ v, e = .returned (.tuple #[.int .u64 (x0 + x1 * 256 + x2 * 65536 + x3 * 16777216 + x4 * 4294967296 + x5 * 1099511627776 + x6 * 281474976710656 + x7 * 72057594037927936), v, .bool true]) ∧ NumPost w w' v [x0, x1, x2, x3, x4, x5, x6, x7] := by
  obtain ⟨V, hV⟩ : ∃ V, V = x0 + x1 * 256 + x2 * 65536 + x3 * 16777216 + x4 * 4294967296 + x5 * 1099511627776 + x6 * 281474976710656 + x7 * 72057594037927936 := ⟨_, rfl⟩
  rw [← hV]
  obtain ⟨v, hv⟩ : ∃ v, v = IntKind.i64.wrap V := ⟨_, rfl⟩
  have hvs : v = V ∨ v = V - 18446744073709551616 := by
    rw [hv]
    simp only [IntKind.wrap, IntKind.bits, IntKind.signed]
    simp
    split <;> omega
  refine snum_8 _ V x0 x1 x2 x3 x4 x5 x6 x7 w (fun g W hb BD => ?_)
  refine signed_i64 _ v V x0 x1 x2 x3 x4 x5 x6 x7 g W BD ?_ (fun W' e => ?_) (fun g' W' BD => ?_)
  · first | omega | (simp only [IntKind.wrap, IntKind.bits, IntKind.signed]; simp; omega)
  · have h := get_i64 ad c x0 x1 x2 x3 x4 x5 x6 x7 W (keep hb h0) b0 c0 (keep hb h1) b1 c1 (keep hb h2) b2 c2 (keep hb h3) b3 c3 (keep hb h4) b4 c4 (keep hb h5) b5 c5 (keep hb h6) b6 c6 (keep hb h7) b7 c7
    rw [← hV, ← hv] at h
    exact e ▸ h
  · exact put_i64 g' 8 v x0 x1 x2 x3 x4 x5 x6 x7 W' (by omega) (by omega) (by omega) (by omega) (by omega) (by omega) (by omega) (by omega) ((blk_cell BD 0).trans rfl) (blk_frozen BD 0) ((blk_cell BD 1).trans rfl) (blk_frozen BD 1) ((blk_cell BD 2).trans rfl) (blk_frozen BD 2) ((blk_cell BD 3).trans rfl) (blk_frozen BD 3) ((blk_cell BD 4).trans rfl) (blk_frozen BD 4) ((blk_cell BD 5).trans rfl) (blk_frozen BD 5) ((blk_cell BD 6).trans rfl) (blk_frozen BD 6) ((blk_cell BD 7).trans rfl) (blk_frozen BD 7)
theorem impl_FlatNumberAt.calls (A0 : Option Addr) (c0 : Nat) (l0 : List Int) (a1 : Int) (a2 a3 : Bool) (r1 : Int) (r2 : List Int) (r3 : Bool) (w : World)
    (hr0 : Kd.C (Kd.int .u8) w A0 l0.length l0) (hc0 : l0.length ≤ c0) (h : impl_FlatNumberAt.f l0 a1 a2 a3 = some (r1, r2, r3)) :
    Calls Try.prog 8 #[.slice A0 l0.length c0, .int .i64 a1, .bool a2, .bool a3] w fun e w' => ∃ v1_, e = .returned (.tuple #[.int .u64 r1, v1_, .bool r3]) ∧ Kd.V (Kd.int .u8) 5 w' w.heap.size (fun k_ => w.heap.size ≤ k_) v1_ r2 ∧ Below w.heap.size w w' := by
  unfold impl_FlatNumberAt.f at h
  split at h
  · next c =>
    obtain ⟨hw, hl, hre, hby⟩ := c
    simp only [Option.some.injEq, Prod.mk.injEq] at h
    obtain ⟨rfl, rfl, rfl⟩ := h
    obtain ⟨ad, rfl, hc⟩ := cellI hr0 (by omega)
    obtain rfl | rfl | rfl | rfl := hw
    · obtain ⟨x0, rfl⟩ : ∃ x0, l0 = [x0] := by
        match l0, hl with
        | [y0], _ => exact ⟨y0, rfl⟩
      have h0 : w.cell? ad = some (.int .u8 x0) := hc 0 (by simp)
      have b0 := hby x0 (by simp)
      have ev : bval [x0] = x0 := by simp only [bval]; omega
      rw [ev]
      clear hc hby hl hr0 hc0 ev
      cases a3 with
      | true => exact absurd (hre rfl).1 (by decide)
      | false =>
        cases a2 with
        | false => exact at_u8 ad c0 x0 w h0 b0.1 b0.2
        | true => exact atS_i8 ad c0 x0 w h0 b0.1 b0.2
    · obtain ⟨x0, x1, rfl⟩ : ∃ x0 x1, l0 = [x0, x1] := by
        match l0, hl with
        | [y0, y1], _ => exact ⟨y0, y1, rfl⟩
      have h0 : w.cell? ad = some (.int .u8 x0) := hc 0 (by simp)
      have b0 := hby x0 (by simp)
      have h1 : w.cell? ⟨ad.block, ad.off + 1, none⟩ = some (.int .u8 x1) := hc 1 (by simp)
      have b1 := hby x1 (by simp)
      have ev : bval [x0, x1] = x0 + x1 * 256 := by simp only [bval]; omega
      rw [ev]
      clear hc hby hl hr0 hc0 ev
      cases a3 with
      | true => exact absurd (hre rfl).1 (by decide)
      | false =>
        cases a2 with
        | false => exact at_u16 ad c0 x0 x1 w h0 b0.1 b0.2 h1 b1.1 b1.2
        | true => exact atS_i16 ad c0 x0 x1 w h0 b0.1 b0.2 h1 b1.1 b1.2
    · obtain ⟨x0, x1, x2, x3, rfl⟩ : ∃ x0 x1 x2 x3, l0 = [x0, x1, x2, x3] := by
        match l0, hl with
        | [y0, y1, y2, y3], _ => exact ⟨y0, y1, y2, y3, rfl⟩
      have h0 : w.cell? ad = some (.int .u8 x0) := hc 0 (by simp)
      have b0 := hby x0 (by simp)
      have h1 : w.cell? ⟨ad.block, ad.off + 1, none⟩ = some (.int .u8 x1) := hc 1 (by simp)
      have b1 := hby x1 (by simp)
      have h2 : w.cell? ⟨ad.block, ad.off + 2, none⟩ = some (.int .u8 x2) := hc 2 (by simp)
      have b2 := hby x2 (by simp)
      have h3 : w.cell? ⟨ad.block, ad.off + 3, none⟩ = some (.int .u8 x3) := hc 3 (by simp)
      have b3 := hby x3 (by simp)
      have ev : bval [x0, x1, x2, x3] = x0 + x1 * 256 + x2 * 65536 + x3 * 16777216 := by simp only [bval]; omega
      rw [ev]
      clear hc hby hl hr0 hc0 ev
      cases a3 with
      | true =>
        obtain rfl := (hre rfl).2
        exact atF_u32 ad c0 x0 x1 x2 x3 w h0 b0.1 b0.2 h1 b1.1 b1.2 h2 b2.1 b2.2 h3 b3.1 b3.2
      | false =>
        cases a2 with
        | false => exact at_u32 ad c0 x0 x1 x2 x3 w h0 b0.1 b0.2 h1 b1.1 b1.2 h2 b2.1 b2.2 h3 b3.1 b3.2
        | true => exact atS_i32 ad c0 x0 x1 x2 x3 w h0 b0.1 b0.2 h1 b1.1 b1.2 h2 b2.1 b2.2 h3 b3.1 b3.2
    · obtain ⟨x0, x1, x2, x3, x4, x5, x6, x7, rfl⟩ : ∃ x0 x1 x2 x3 x4 x5 x6 x7, l0 = [x0, x1, x2, x3, x4, x5, x6, x7] := by
        match l0, hl with
        | [y0, y1, y2, y3, y4, y5, y6, y7], _ => exact ⟨y0, y1, y2, y3, y4, y5, y6, y7, rfl⟩
      have h0 : w.cell? ad = some (.int .u8 x0) := hc 0 (by simp)
      have b0 := hby x0 (by simp)
      have h1 : w.cell? ⟨ad.block, ad.off + 1, none⟩ = some (.int .u8 x1) := hc 1 (by simp)
      have b1 := hby x1 (by simp)
      have h2 : w.cell? ⟨ad.block, ad.off + 2, none⟩ = some (.int .u8 x2) := hc 2 (by simp)
      have b2 := hby x2 (by simp)
      have h3 : w.cell? ⟨ad.block, ad.off + 3, none⟩ = some (.int .u8 x3) := hc 3 (by simp)
      have b3 := hby x3 (by simp)
      have h4 : w.cell? ⟨ad.block, ad.off + 4, none⟩ = some (.int .u8 x4) := hc 4 (by simp)
      have b4 := hby x4 (by simp)
      have h5 : w.cell? ⟨ad.block, ad.off + 5, none⟩ = some (.int .u8 x5) := hc 5 (by simp)
      have b5 := hby x5 (by simp)
      have h6 : w.cell? ⟨ad.block, ad.off + 6, none⟩ = some (.int .u8 x6) := hc 6 (by simp)
      have b6 := hby x6 (by simp)
      have h7 : w.cell? ⟨ad.block, ad.off + 7, none⟩ = some (.int .u8 x7) := hc 7 (by simp)
      have b7 := hby x7 (by simp)
      have ev : bval [x0, x1, x2, x3, x4, x5, x6, x7] = x0 + x1 * 256 + x2 * 65536 + x3 * 16777216 + x4 * 4294967296 + x5 * 1099511627776 + x6 * 281474976710656 + x7 * 72057594037927936 := by simp only [bval]; omega
      rw [ev]
      clear hc hby hl hr0 hc0 ev
      cases a3 with
      | true =>
        obtain rfl := (hre rfl).2
        exact atF_u64 ad c0 x0 x1 x2 x3 x4 x5 x6 x7 w h0 b0.1 b0.2 h1 b1.1 b1.2 h2 b2.1 b2.2 h3 b3.1 b3.2 h4 b4.1 b4.2 h5 b5.1 b5.2 h6 b6.1 b6.2 h7 b7.1 b7.2
      | false =>
        cases a2 with
        | false => exact at_u64 ad c0 x0 x1 x2 x3 x4 x5 x6 x7 w h0 b0.1 b0.2 h1 b1.1 b1.2 h2 b2.1 b2.2 h3 b3.1 b3.2 h4 b4.1 b4.2 h5 b5.1 b5.2 h6 b6.1 b6.2 h7 b7.1 b7.2
        | true => exact atS_i64 ad c0 x0 x1 x2 x3 x4 x5 x6 x7 w h0 b0.1 b0.2 h1 b1.1 b1.2 h2 b2.1 b2.2 h3 b3.1 b3.2 h4 b4.1 b4.2 h5 b5.1 b5.2 h6 b6.1 b6.2 h7 b7.1 b7.2
  · cases h
end Go.Proofs.Ytbepnloclnjkfaa.V
