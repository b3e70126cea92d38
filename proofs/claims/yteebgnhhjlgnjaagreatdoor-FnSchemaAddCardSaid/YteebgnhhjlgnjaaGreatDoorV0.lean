/- . -/
import Derived.Test.YteebgnhhjlgnjaaGreatDoorK1
import Derived.Test.YteebgnhhjlgnjaaGreatDoorProg
import Derived.Below
import Derived.Deep.Draws
import Derived.Deep.AppendLies
import Derived.Maps.AppendAt
import Derived.OwnWalk
import Derived.Laws.BytesArg
import Derived.Laws.MakeOwn
import Derived.Laws.OwnMore
import Derived.Deep.OwnRows
import Derived.Tactics
import Derived.Lib.ConvBytes
import Derived.Laws.Slices
import Derived.WalkKit
import Derived.KernelRfl
import Derived.RowKit3
import Derived.Deep.LoopGhost
import Derived.Deep.QuietTactic
import Derived.BigQuiet
import Derived.WideLaws
import Derived.Deep.DeepCutAuto
import Derived.Deep.CutBlock
import Derived.Deep.RegionHeld3
import Derived.Laws.Rows
import Derived.Lib.AppendStr
import Derived.ArgAppend
import Derived.Laws.IdiomCopy
import Derived.OrdersHeld
import Derived.Laws.BitsLemmas
import Derived.RowKit
namespace Go.Proofs.YteebgnhhjlgnjaaGreatDoor.V
open Go.RowKit Go.Proofs.YteebgnhhjlgnjaaGreatDoorW.PrintWords Go.Proofs.YteebgnhhjlgnjaaGreatDoorW.PrintLast Go.Proofs.YteebgnhhjlgnjaaGreatDoorW.PrintMore
attribute [local go_sem] max2_int min2_int max_two min_two max_three min_three max_four min_four
set_option maxHeartbeats 40000000
set_option maxRecDepth 100000
set_option linter.unusedVariables false
set_option linter.unusedSimpArgs false
def errW : Option Int → Value
 | none => .nilIface
 | some c => .iface 0 (.int .i64 c)
theorem errW_none : errW none = .nilIface := rfl
theorem errW_some (c : Int) : errW (some c) = .iface 0 (.int .i64 c) := rfl
theorem info3 : (Tryz.prog.info? 3).map (fun i => (i.zero, i.size, i.bytes)) = some (some (.int .i64 0), 1, 8) := by kernel_rfl
structure S73 where
 f0 : ByteArray
 f1 : ByteArray
def z73 : S73 := ⟨(⟨#[]⟩ : ByteArray), (⟨#[]⟩ : ByteArray)⟩
def k73 : Kd S73 := Kd.iso (Kd.pair Kd.string Kd.string) (fun x : S73 => (x.f0, x.f1))
theorem k73_open {w : World} {x : S73} {cs : List Value} (h : k73.K w x cs) : cs = [.string x.f0, .string x.f1] := by
 obtain ⟨_, _, rfl, rfl, rfl⟩ := h
 exact rfl
theorem k73_mk (w : World) (x : S73)  : k73.K w x [.string x.f0, .string x.f1] := ⟨[.string x.f0], [.string x.f1], rfl, rfl, rfl⟩
def rd_T73 (xs : List S73) (i : Int) : S73 := xs.getD i.toNat z73
theorem at_T73 {w : World} {A : Option Addr} {n : Nat} {xs : List S73} (h : Kd.C k73 w A n xs) (i : Int) (h0 : 0 ≤ i) (h1 : i < n) : ∃ ad , A = some ad ∧ w.cell? (ad.add (i.toNat * 2)) = some (.string (rd_T73 xs i).f0) ∧ w.cell? ⟨(ad.add (i.toNat * 2)).block, (ad.add (i.toNat * 2)).off + 1, none⟩ = some (.string (rd_T73 xs i).f1) := by
 obtain ⟨ad, c, e, _, hK, hc0⟩ := Kd.C_get h z73 i h0 h1
 have hc : ∀ j u, c[j]? = some u → w.cell? (ad.add (i.toNat * 2 + j)) = some u := hc0
 obtain rfl := k73_open hK
 exact ⟨ad, e, hc 0 _ rfl, by rw [← add_field _ _ 1 (by omega)]; exact hc 1 _ rfl⟩
mutual
structure S28 where
 f0 : Int
 f1 : Int
 f2 : Bool
 f3 : Int
 f4 : Int
 f5 : Int
 f6 : ByteArray
 f7 : Bool
 f8 : (List Int)
 f9 : (List S30)
structure S30 where
 f0 : ByteArray
 f1 : Bool
 f2 : S28
 f3 : (List S73)
end
def z28 : S28 := ⟨(0 : Int), (0 : Int), false, (0 : Int), (0 : Int), (0 : Int), (⟨#[]⟩ : ByteArray), false, ([] : List Int), ([] : List S30)⟩
def z30 : S30 := ⟨(⟨#[]⟩ : ByteArray), false, z28, ([] : List S73)⟩
def F30 (d : Kd S30) : Kd S30 := Kd.iso (Kd.pair Kd.string (Kd.pair Kd.bool (Kd.pair (Kd.iso (Kd.pair (Kd.int .i64) (Kd.pair (Kd.int .i64) (Kd.pair Kd.bool (Kd.pair (Kd.int .i64) (Kd.pair (Kd.int .i64) (Kd.pair (Kd.int .i64) (Kd.pair Kd.string (Kd.pair Kd.bool (Kd.pair (Kd.slice 3 (Kd.int .i64)) (Kd.slice 30 d)))))))))) (fun x : S28 => (x.f0, x.f1, x.f2, x.f3, x.f4, x.f5, x.f6, x.f7, x.f8, x.f9))) (Kd.slice 73 k73)))) (fun x : S30 => (x.f0, x.f1, x.f2, x.f3))
theorem mono30 : Kd.Mono F30 := Kd.mono_iso _ (Kd.mono_pair (Kd.mono_const _) (Kd.mono_pair (Kd.mono_const _) (Kd.mono_pair (Kd.mono_iso _ (Kd.mono_pair (Kd.mono_const _) (Kd.mono_pair (Kd.mono_const _) (Kd.mono_pair (Kd.mono_const _) (Kd.mono_pair (Kd.mono_const _) (Kd.mono_pair (Kd.mono_const _) (Kd.mono_pair (Kd.mono_const _) (Kd.mono_pair (Kd.mono_const _) (Kd.mono_pair (Kd.mono_const _) (Kd.mono_pair (Kd.mono_const _) (Kd.mono_slice 30 Kd.mono_id))))))))))) (Kd.mono_const _))))
theorem sub30 : Kd.Sub F30 [3, 30, 73] := Kd.sub_iso _ (Kd.sub_pair (Kd.sub_const _ (by decide)) (Kd.sub_pair (Kd.sub_const _ (by decide)) (Kd.sub_pair (Kd.sub_iso _ (Kd.sub_pair (Kd.sub_const _ (by decide)) (Kd.sub_pair (Kd.sub_const _ (by decide)) (Kd.sub_pair (Kd.sub_const _ (by decide)) (Kd.sub_pair (Kd.sub_const _ (by decide)) (Kd.sub_pair (Kd.sub_const _ (by decide)) (Kd.sub_pair (Kd.sub_const _ (by decide)) (Kd.sub_pair (Kd.sub_const _ (by decide)) (Kd.sub_pair (Kd.sub_const _ (by decide)) (Kd.sub_pair (Kd.sub_const _ (by decide)) (Kd.sub_slice 30 (by decide) Kd.sub_id))))))))))) (Kd.sub_const _ (by decide)))))
theorem sz30 : ∀ n, (Kd.upto F30 13 [3, 30, 73] n).sz = 13 := Kd.upto_sz (fun _ => rfl)
def k30 : Kd S30 := Kd.fix F30 13 [3, 30, 73] sz30 (Kd.upto_E sub30)
def k28 : Kd S28 := Kd.iso (Kd.pair (Kd.int .i64) (Kd.pair (Kd.int .i64) (Kd.pair Kd.bool (Kd.pair (Kd.int .i64) (Kd.pair (Kd.int .i64) (Kd.pair (Kd.int .i64) (Kd.pair Kd.string (Kd.pair Kd.bool (Kd.pair (Kd.slice 3 (Kd.int .i64)) (Kd.slice 30 k30)))))))))) (fun x : S28 => (x.f0, x.f1, x.f2, x.f3, x.f4, x.f5, x.f6, x.f7, x.f8, x.f9))
theorem k30_open {w : World} {x : S30} {cs : List Value} (h : k30.K w x cs) : ∃ A10 c10 A11 c11 A12 c12, cs = [.string x.f0, .bool x.f1, .int .i64 x.f2.f0, .int .i64 x.f2.f1, .bool x.f2.f2, .int .i64 x.f2.f3, .int .i64 x.f2.f4, .int .i64 x.f2.f5, .string x.f2.f6, .bool x.f2.f7, .slice A10 x.f2.f8.length c10, .slice A11 x.f2.f9.length c11, .slice A12 x.f3.length c12] ∧ x.f2.f8.length ≤ c10 ∧ (Kd.int .i64).C w A10 x.f2.f8.length x.f2.f8 ∧ x.f2.f9.length ≤ c11 ∧ k30.C w A11 x.f2.f9.length x.f2.f9 ∧ x.f3.length ≤ c12 ∧ k73.C w A12 x.f3.length x.f3 := by
 obtain ⟨n, h⟩ := h
 cases n with
 | zero => exact h.elim
 | succ n =>
  obtain ⟨_, _, rfl, rfl, ⟨_, _, rfl, rfl, ⟨_, _, rfl, ⟨_, _, rfl, rfl, ⟨_, _, rfl, rfl, ⟨_, _, rfl, rfl, ⟨_, _, rfl, rfl, ⟨_, _, rfl, rfl, ⟨_, _, rfl, rfl, ⟨_, _, rfl, rfl, ⟨_, _, rfl, rfl, ⟨_, _, rfl, ⟨A10, c10, rfl, l10, g10⟩, ⟨A11, c11, rfl, l11, g11⟩⟩⟩⟩⟩⟩⟩⟩⟩⟩, ⟨A12, c12, rfl, l12, g12⟩⟩⟩⟩ := h
  exact ⟨A10, c10, A11, c11, A12, c12, rfl, l10, g10, l11, Kd.fix_C g11, l12, g12⟩
theorem k30_mk (w : World) (x : S30) {A10 : Option Addr} {c10 : Nat} (l10 : x.f2.f8.length ≤ c10) (g10 : (Kd.int .i64).C w A10 x.f2.f8.length x.f2.f8) {A11 : Option Addr} {c11 : Nat} (l11 : x.f2.f9.length ≤ c11) (g11 : k30.C w A11 x.f2.f9.length x.f2.f9) {A12 : Option Addr} {c12 : Nat} (l12 : x.f3.length ≤ c12) (g12 : k73.C w A12 x.f3.length x.f3) : k30.K w x [.string x.f0, .bool x.f1, .int .i64 x.f2.f0, .int .i64 x.f2.f1, .bool x.f2.f2, .int .i64 x.f2.f3, .int .i64 x.f2.f4, .int .i64 x.f2.f5, .string x.f2.f6, .bool x.f2.f7, .slice A10 x.f2.f8.length c10, .slice A11 x.f2.f9.length c11, .slice A12 x.f3.length c12] := by
 obtain ⟨n11, q11⟩ := Kd.fix_C_back mono30 g11
 have r11 := Kd.upto_C_le mono30 sz30 (show n11 ≤ n11 by omega) q11
 exact ⟨n11 + 1, ⟨[.string x.f0], [.bool x.f1, .int .i64 x.f2.f0, .int .i64 x.f2.f1, .bool x.f2.f2, .int .i64 x.f2.f3, .int .i64 x.f2.f4, .int .i64 x.f2.f5, .string x.f2.f6, .bool x.f2.f7, .slice A10 x.f2.f8.length c10, .slice A11 x.f2.f9.length c11, .slice A12 x.f3.length c12], rfl, rfl, ⟨[.bool x.f1], [.int .i64 x.f2.f0, .int .i64 x.f2.f1, .bool x.f2.f2, .int .i64 x.f2.f3, .int .i64 x.f2.f4, .int .i64 x.f2.f5, .string x.f2.f6, .bool x.f2.f7, .slice A10 x.f2.f8.length c10, .slice A11 x.f2.f9.length c11, .slice A12 x.f3.length c12], rfl, rfl, ⟨[.int .i64 x.f2.f0, .int .i64 x.f2.f1, .bool x.f2.f2, .int .i64 x.f2.f3, .int .i64 x.f2.f4, .int .i64 x.f2.f5, .string x.f2.f6, .bool x.f2.f7, .slice A10 x.f2.f8.length c10, .slice A11 x.f2.f9.length c11], [.slice A12 x.f3.length c12], rfl, ⟨[.int .i64 x.f2.f0], [.int .i64 x.f2.f1, .bool x.f2.f2, .int .i64 x.f2.f3, .int .i64 x.f2.f4, .int .i64 x.f2.f5, .string x.f2.f6, .bool x.f2.f7, .slice A10 x.f2.f8.length c10, .slice A11 x.f2.f9.length c11], rfl, rfl, ⟨[.int .i64 x.f2.f1], [.bool x.f2.f2, .int .i64 x.f2.f3, .int .i64 x.f2.f4, .int .i64 x.f2.f5, .string x.f2.f6, .bool x.f2.f7, .slice A10 x.f2.f8.length c10, .slice A11 x.f2.f9.length c11], rfl, rfl, ⟨[.bool x.f2.f2], [.int .i64 x.f2.f3, .int .i64 x.f2.f4, .int .i64 x.f2.f5, .string x.f2.f6, .bool x.f2.f7, .slice A10 x.f2.f8.length c10, .slice A11 x.f2.f9.length c11], rfl, rfl, ⟨[.int .i64 x.f2.f3], [.int .i64 x.f2.f4, .int .i64 x.f2.f5, .string x.f2.f6, .bool x.f2.f7, .slice A10 x.f2.f8.length c10, .slice A11 x.f2.f9.length c11], rfl, rfl, ⟨[.int .i64 x.f2.f4], [.int .i64 x.f2.f5, .string x.f2.f6, .bool x.f2.f7, .slice A10 x.f2.f8.length c10, .slice A11 x.f2.f9.length c11], rfl, rfl, ⟨[.int .i64 x.f2.f5], [.string x.f2.f6, .bool x.f2.f7, .slice A10 x.f2.f8.length c10, .slice A11 x.f2.f9.length c11], rfl, rfl, ⟨[.string x.f2.f6], [.bool x.f2.f7, .slice A10 x.f2.f8.length c10, .slice A11 x.f2.f9.length c11], rfl, rfl, ⟨[.bool x.f2.f7], [.slice A10 x.f2.f8.length c10, .slice A11 x.f2.f9.length c11], rfl, rfl, ⟨[.slice A10 x.f2.f8.length c10], [.slice A11 x.f2.f9.length c11], rfl, ⟨A10, c10, rfl, l10, g10⟩, ⟨A11, c11, rfl, l11, r11⟩⟩⟩⟩⟩⟩⟩⟩⟩⟩, ⟨A12, c12, rfl, l12, g12⟩⟩⟩⟩⟩
def rd_T30 (xs : List S30) (i : Int) : S30 := xs.getD i.toNat z30
theorem at_T30 {w : World} {A : Option Addr} {n : Nat} {xs : List S30} (h : Kd.C k30 w A n xs) (i : Int) (h0 : 0 ≤ i) (h1 : i < n) : ∃ ad A10 c10 A11 c11 A12 c12, A = some ad ∧ w.cell? (ad.add (i.toNat * 13)) = some (.string (rd_T30 xs i).f0) ∧ w.cell? ⟨(ad.add (i.toNat * 13)).block, (ad.add (i.toNat * 13)).off + 1, none⟩ = some (.bool (rd_T30 xs i).f1) ∧ w.cell? ⟨(ad.add (i.toNat * 13)).block, (ad.add (i.toNat * 13)).off + 2, none⟩ = some (.int .i64 (rd_T30 xs i).f2.f0) ∧ w.cell? ⟨(ad.add (i.toNat * 13)).block, (ad.add (i.toNat * 13)).off + 3, none⟩ = some (.int .i64 (rd_T30 xs i).f2.f1) ∧ w.cell? ⟨(ad.add (i.toNat * 13)).block, (ad.add (i.toNat * 13)).off + 4, none⟩ = some (.bool (rd_T30 xs i).f2.f2) ∧ w.cell? ⟨(ad.add (i.toNat * 13)).block, (ad.add (i.toNat * 13)).off + 5, none⟩ = some (.int .i64 (rd_T30 xs i).f2.f3) ∧ w.cell? ⟨(ad.add (i.toNat * 13)).block, (ad.add (i.toNat * 13)).off + 6, none⟩ = some (.int .i64 (rd_T30 xs i).f2.f4) ∧ w.cell? ⟨(ad.add (i.toNat * 13)).block, (ad.add (i.toNat * 13)).off + 7, none⟩ = some (.int .i64 (rd_T30 xs i).f2.f5) ∧ w.cell? ⟨(ad.add (i.toNat * 13)).block, (ad.add (i.toNat * 13)).off + 8, none⟩ = some (.string (rd_T30 xs i).f2.f6) ∧ w.cell? ⟨(ad.add (i.toNat * 13)).block, (ad.add (i.toNat * 13)).off + 9, none⟩ = some (.bool (rd_T30 xs i).f2.f7) ∧ w.cell? ⟨(ad.add (i.toNat * 13)).block, (ad.add (i.toNat * 13)).off + 10, none⟩ = some (.slice A10 (rd_T30 xs i).f2.f8.length c10) ∧ w.cell? ⟨(ad.add (i.toNat * 13)).block, (ad.add (i.toNat * 13)).off + 11, none⟩ = some (.slice A11 (rd_T30 xs i).f2.f9.length c11) ∧ w.cell? ⟨(ad.add (i.toNat * 13)).block, (ad.add (i.toNat * 13)).off + 12, none⟩ = some (.slice A12 (rd_T30 xs i).f3.length c12) ∧ (rd_T30 xs i).f2.f8.length ≤ c10 ∧ (Kd.int .i64).C w A10 (rd_T30 xs i).f2.f8.length (rd_T30 xs i).f2.f8 ∧ (rd_T30 xs i).f2.f9.length ≤ c11 ∧ k30.C w A11 (rd_T30 xs i).f2.f9.length (rd_T30 xs i).f2.f9 ∧ (rd_T30 xs i).f3.length ≤ c12 ∧ k73.C w A12 (rd_T30 xs i).f3.length (rd_T30 xs i).f3 := by
 obtain ⟨ad, c, e, _, hK, hc0⟩ := Kd.C_get h z30 i h0 h1
 have hc : ∀ j u, c[j]? = some u → w.cell? (ad.add (i.toNat * 13 + j)) = some u := hc0
 obtain ⟨A10, c10, A11, c11, A12, c12, rfl, l10, g10, l11, g11, l12, g12⟩ := k30_open hK
 exact ⟨ad, A10, c10, A11, c11, A12, c12, e, hc 0 _ rfl, by rw [← add_field _ _ 1 (by omega)]; exact hc 1 _ rfl, by rw [← add_field _ _ 2 (by omega)]; exact hc 2 _ rfl, by rw [← add_field _ _ 3 (by omega)]; exact hc 3 _ rfl, by rw [← add_field _ _ 4 (by omega)]; exact hc 4 _ rfl, by rw [← add_field _ _ 5 (by omega)]; exact hc 5 _ rfl, by rw [← add_field _ _ 6 (by omega)]; exact hc 6 _ rfl, by rw [← add_field _ _ 7 (by omega)]; exact hc 7 _ rfl, by rw [← add_field _ _ 8 (by omega)]; exact hc 8 _ rfl, by rw [← add_field _ _ 9 (by omega)]; exact hc 9 _ rfl, by rw [← add_field _ _ 10 (by omega)]; exact hc 10 _ rfl, by rw [← add_field _ _ 11 (by omega)]; exact hc 11 _ rfl, by rw [← add_field _ _ 12 (by omega)]; exact hc 12 _ rfl, l10, g10, l11, g11, l12, g12⟩
theorem k28_open {w : World} {x : S28} {cs : List Value} (h : k28.K w x cs) : ∃ A8 c8 A9 c9, cs = [.int .i64 x.f0, .int .i64 x.f1, .bool x.f2, .int .i64 x.f3, .int .i64 x.f4, .int .i64 x.f5, .string x.f6, .bool x.f7, .slice A8 x.f8.length c8, .slice A9 x.f9.length c9] ∧ x.f8.length ≤ c8 ∧ (Kd.int .i64).C w A8 x.f8.length x.f8 ∧ x.f9.length ≤ c9 ∧ k30.C w A9 x.f9.length x.f9 := by
 obtain ⟨_, _, rfl, rfl, ⟨_, _, rfl, rfl, ⟨_, _, rfl, rfl, ⟨_, _, rfl, rfl, ⟨_, _, rfl, rfl, ⟨_, _, rfl, rfl, ⟨_, _, rfl, rfl, ⟨_, _, rfl, rfl, ⟨_, _, rfl, ⟨A8, c8, rfl, l8, g8⟩, ⟨A9, c9, rfl, l9, g9⟩⟩⟩⟩⟩⟩⟩⟩⟩⟩ := h
 exact ⟨A8, c8, A9, c9, rfl, l8, g8, l9, g9⟩
theorem k28_mk (w : World) (x : S28) {A8 : Option Addr} {c8 : Nat} (l8 : x.f8.length ≤ c8) (g8 : (Kd.int .i64).C w A8 x.f8.length x.f8) {A9 : Option Addr} {c9 : Nat} (l9 : x.f9.length ≤ c9) (g9 : k30.C w A9 x.f9.length x.f9) : k28.K w x [.int .i64 x.f0, .int .i64 x.f1, .bool x.f2, .int .i64 x.f3, .int .i64 x.f4, .int .i64 x.f5, .string x.f6, .bool x.f7, .slice A8 x.f8.length c8, .slice A9 x.f9.length c9] := ⟨[.int .i64 x.f0], [.int .i64 x.f1, .bool x.f2, .int .i64 x.f3, .int .i64 x.f4, .int .i64 x.f5, .string x.f6, .bool x.f7, .slice A8 x.f8.length c8, .slice A9 x.f9.length c9], rfl, rfl, ⟨[.int .i64 x.f1], [.bool x.f2, .int .i64 x.f3, .int .i64 x.f4, .int .i64 x.f5, .string x.f6, .bool x.f7, .slice A8 x.f8.length c8, .slice A9 x.f9.length c9], rfl, rfl, ⟨[.bool x.f2], [.int .i64 x.f3, .int .i64 x.f4, .int .i64 x.f5, .string x.f6, .bool x.f7, .slice A8 x.f8.length c8, .slice A9 x.f9.length c9], rfl, rfl, ⟨[.int .i64 x.f3], [.int .i64 x.f4, .int .i64 x.f5, .string x.f6, .bool x.f7, .slice A8 x.f8.length c8, .slice A9 x.f9.length c9], rfl, rfl, ⟨[.int .i64 x.f4], [.int .i64 x.f5, .string x.f6, .bool x.f7, .slice A8 x.f8.length c8, .slice A9 x.f9.length c9], rfl, rfl, ⟨[.int .i64 x.f5], [.string x.f6, .bool x.f7, .slice A8 x.f8.length c8, .slice A9 x.f9.length c9], rfl, rfl, ⟨[.string x.f6], [.bool x.f7, .slice A8 x.f8.length c8, .slice A9 x.f9.length c9], rfl, rfl, ⟨[.bool x.f7], [.slice A8 x.f8.length c8, .slice A9 x.f9.length c9], rfl, rfl, ⟨[.slice A8 x.f8.length c8], [.slice A9 x.f9.length c9], rfl, ⟨A8, c8, rfl, l8, g8⟩, ⟨A9, c9, rfl, l9, g9⟩⟩⟩⟩⟩⟩⟩⟩⟩⟩
abbrev s1_ := @List.setIfInBounds_toArray
abbrev s2_ := @List.set_cons_zero
abbrev s3_ := @List.set_cons_succ
abbrev b1_ := @below_alloc
abbrev b2_ := @pw_below_drewN
abbrev b3_ := @below_drew1
abbrev b4_ := @below_set
abbrev k1_ := @blk_drewN
abbrev k2_ := @blk_drew
abbrev k3_ := @blk_alloc
abbrev a0_ := @Aside0.mk
abbrev o1_ := @Option.some.inj
abbrev d1_ := @of_decide_eq_true
abbrev d2_ := @decide_eq_true
abbrev d3_ := @decide_eq_false
abbrev e1_ := @errW_none
abbrev e2_ := @errW_some
theorem cb2 {w : World} {g : Nat} {t : TypeId} {a0 a1 : Value} (h : w.heap[g]? = some (.cells #[a0, a1] t (0, 0))) : w.cell? ⟨g, 0, none⟩ = some a0 ∧ w.cell? ⟨g, 1, none⟩ = some a1 :=
 ⟨(blk_cell h 0).trans rfl, (blk_cell h 1).trans rfl⟩
theorem cb5 {w : World} {g : Nat} {t : TypeId} {a0 a1 a2 a3 a4 : Value} (h : w.heap[g]? = some (.cells #[a0, a1, a2, a3, a4] t (0, 0))) : w.cell? ⟨g, 0, none⟩ = some a0 ∧ w.cell? ⟨g, 1, none⟩ = some a1 ∧ w.cell? ⟨g, 2, none⟩ = some a2 ∧ w.cell? ⟨g, 3, none⟩ = some a3 ∧ w.cell? ⟨g, 4, none⟩ = some a4 :=
 ⟨(blk_cell h 0).trans rfl, (blk_cell h 1).trans rfl, (blk_cell h 2).trans rfl, (blk_cell h 3).trans rfl, (blk_cell h 4).trans rfl⟩
theorem cb10 {w : World} {g : Nat} {t : TypeId} {a0 a1 a2 a3 a4 a5 a6 a7 a8 a9 : Value} (h : w.heap[g]? = some (.cells #[a0, a1, a2, a3, a4, a5, a6, a7, a8, a9] t (0, 0))) : w.cell? ⟨g, 0, none⟩ = some a0 ∧ w.cell? ⟨g, 1, none⟩ = some a1 ∧ w.cell? ⟨g, 2, none⟩ = some a2 ∧ w.cell? ⟨g, 3, none⟩ = some a3 ∧ w.cell? ⟨g, 4, none⟩ = some a4 ∧ w.cell? ⟨g, 5, none⟩ = some a5 ∧ w.cell? ⟨g, 6, none⟩ = some a6 ∧ w.cell? ⟨g, 7, none⟩ = some a7 ∧ w.cell? ⟨g, 8, none⟩ = some a8 ∧ w.cell? ⟨g, 9, none⟩ = some a9 :=
 ⟨(blk_cell h 0).trans rfl, (blk_cell h 1).trans rfl, (blk_cell h 2).trans rfl, (blk_cell h 3).trans rfl, (blk_cell h 4).trans rfl, (blk_cell h 5).trans rfl, (blk_cell h 6).trans rfl, (blk_cell h 7).trans rfl, (blk_cell h 8).trans rfl, (blk_cell h 9).trans rfl⟩
theorem cb13 {w : World} {g : Nat} {t : TypeId} {a0 a1 a2 a3 a4 a5 a6 a7 a8 a9 a10 a11 a12 : Value} (h : w.heap[g]? = some (.cells #[a0, a1, a2, a3, a4, a5, a6, a7, a8, a9, a10, a11, a12] t (0, 0))) : w.cell? ⟨g, 0, none⟩ = some a0 ∧ w.cell? ⟨g, 1, none⟩ = some a1 ∧ w.cell? ⟨g, 2, none⟩ = some a2 ∧ w.cell? ⟨g, 3, none⟩ = some a3 ∧ w.cell? ⟨g, 4, none⟩ = some a4 ∧ w.cell? ⟨g, 5, none⟩ = some a5 ∧ w.cell? ⟨g, 6, none⟩ = some a6 ∧ w.cell? ⟨g, 7, none⟩ = some a7 ∧ w.cell? ⟨g, 8, none⟩ = some a8 ∧ w.cell? ⟨g, 9, none⟩ = some a9 ∧ w.cell? ⟨g, 10, none⟩ = some a10 ∧ w.cell? ⟨g, 11, none⟩ = some a11 ∧ w.cell? ⟨g, 12, none⟩ = some a12 :=
 ⟨(blk_cell h 0).trans rfl, (blk_cell h 1).trans rfl, (blk_cell h 2).trans rfl, (blk_cell h 3).trans rfl, (blk_cell h 4).trans rfl, (blk_cell h 5).trans rfl, (blk_cell h 6).trans rfl, (blk_cell h 7).trans rfl, (blk_cell h 8).trans rfl, (blk_cell h 9).trans rfl, (blk_cell h 10).trans rfl, (blk_cell h 11).trans rfl, (blk_cell h 12).trans rfl⟩
theorem fb5 {w : World} {g : Nat} {cs : Array Value} {t : TypeId} (h : w.heap[g]? = some (.cells cs t (0, 0))) : w.frozen? ⟨g, 0, none⟩ = false ∧ w.frozen? ⟨g, 1, none⟩ = false ∧ w.frozen? ⟨g, 2, none⟩ = false ∧ w.frozen? ⟨g, 3, none⟩ = false ∧ w.frozen? ⟨g, 4, none⟩ = false :=
 ⟨blk_frozen h 0, blk_frozen h 1, blk_frozen h 2, blk_frozen h 3, blk_frozen h 4⟩
theorem fb10 {w : World} {g : Nat} {cs : Array Value} {t : TypeId} (h : w.heap[g]? = some (.cells cs t (0, 0))) : w.frozen? ⟨g, 0, none⟩ = false ∧ w.frozen? ⟨g, 1, none⟩ = false ∧ w.frozen? ⟨g, 2, none⟩ = false ∧ w.frozen? ⟨g, 3, none⟩ = false ∧ w.frozen? ⟨g, 4, none⟩ = false ∧ w.frozen? ⟨g, 5, none⟩ = false ∧ w.frozen? ⟨g, 6, none⟩ = false ∧ w.frozen? ⟨g, 7, none⟩ = false ∧ w.frozen? ⟨g, 8, none⟩ = false ∧ w.frozen? ⟨g, 9, none⟩ = false :=
 ⟨blk_frozen h 0, blk_frozen h 1, blk_frozen h 2, blk_frozen h 3, blk_frozen h 4, blk_frozen h 5, blk_frozen h 6, blk_frozen h 7, blk_frozen h 8, blk_frozen h 9⟩
theorem fld13 {w : World} {ad : Addr} {m : Nat} {cs : List Value} {a0 a1 a2 a3 a4 a5 a6 a7 a8 a9 a10 a11 a12 : Value} (h : ∀ j v, cs[j]? = some v → w.cell? (ad.add (m + j)) = some v) (hcs : cs = [a0, a1, a2, a3, a4, a5, a6, a7, a8, a9, a10, a11, a12]) : w.cell? (ad.add m) = some a0 ∧ w.cell? ⟨(ad.add m).block, (ad.add m).off + 1, none⟩ = some a1 ∧ w.cell? ⟨(ad.add m).block, (ad.add m).off + 2, none⟩ = some a2 ∧ w.cell? ⟨(ad.add m).block, (ad.add m).off + 3, none⟩ = some a3 ∧ w.cell? ⟨(ad.add m).block, (ad.add m).off + 4, none⟩ = some a4 ∧ w.cell? ⟨(ad.add m).block, (ad.add m).off + 5, none⟩ = some a5 ∧ w.cell? ⟨(ad.add m).block, (ad.add m).off + 6, none⟩ = some a6 ∧ w.cell? ⟨(ad.add m).block, (ad.add m).off + 7, none⟩ = some a7 ∧ w.cell? ⟨(ad.add m).block, (ad.add m).off + 8, none⟩ = some a8 ∧ w.cell? ⟨(ad.add m).block, (ad.add m).off + 9, none⟩ = some a9 ∧ w.cell? ⟨(ad.add m).block, (ad.add m).off + 10, none⟩ = some a10 ∧ w.cell? ⟨(ad.add m).block, (ad.add m).off + 11, none⟩ = some a11 ∧ w.cell? ⟨(ad.add m).block, (ad.add m).off + 12, none⟩ = some a12 := by
 subst hcs
 exact ⟨h 0 _ rfl, by rw [← add_field _ _ 1 (by omega)]; exact h 1 _ rfl, by rw [← add_field _ _ 2 (by omega)]; exact h 2 _ rfl, by rw [← add_field _ _ 3 (by omega)]; exact h 3 _ rfl, by rw [← add_field _ _ 4 (by omega)]; exact h 4 _ rfl, by rw [← add_field _ _ 5 (by omega)]; exact h 5 _ rfl, by rw [← add_field _ _ 6 (by omega)]; exact h 6 _ rfl, by rw [← add_field _ _ 7 (by omega)]; exact h 7 _ rfl, by rw [← add_field _ _ 8 (by omega)]; exact h 8 _ rfl, by rw [← add_field _ _ 9 (by omega)]; exact h 9 _ rfl, by rw [← add_field _ _ 10 (by omega)]; exact h 10 _ rfl, by rw [← add_field _ _ 11 (by omega)]; exact h 11 _ rfl, by rw [← add_field _ _ 12 (by omega)]; exact h 12 _ rfl⟩
theorem bl {n : Nat} {w w' : World} (h : Below n w w' := by repeat (first | exact Below.refl _ _ | apply b1_ | apply b2_ | apply b3_)) : Below n w w' := h
end Go.Proofs.YteebgnhhjlgnjaaGreatDoor.V
