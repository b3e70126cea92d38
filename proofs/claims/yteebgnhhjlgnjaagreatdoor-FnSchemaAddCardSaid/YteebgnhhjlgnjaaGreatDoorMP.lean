/- A map from names to places, of which only matters that it may be read and written. -/
import Derived.Test.YteebgnhhjlgnjaaGreatDoorD0
import Derived.Maps.GroupsBeside
import Derived.StringKeys
namespace Go.Proofs.YteebgnhhjlgnjaaGreatDoor.V
open Go.RowKit Go.Proofs.YteebgnhhjlgnjaaGreatDoorW.PrintWords Go.Proofs.YteebgnhhjlgnjaaGreatDoorW.PrintLast Go.Proofs.YteebgnhhjlgnjaaGreatDoorW.PrintMore
set_option maxHeartbeats 40000000
set_option maxRecDepth 100000
set_option linter.unusedVariables false
set_option linter.unusedSimpArgs false
open Go.Maps Go.WideElems Go.MapKept
def Grp (w : World) (base m n : Nat) : Prop := ∃ D : DataW Unit, w.ownsGroups Tryz.prog 9 base 3 .i64 m n D
def Back (w : World) (base m n : Nat) (s : ByteArray) (v : Value) : Prop := ∀ (w1 : World) (v' : Value) (zs' : List Int), w.grownBy w1 v.ownBlock → w1.ownsInts base 3 .i64 v' zs' → zs'.length ≤ n + 1 →
 (v'.ownBlock = v.ownBlock ∨ ∃ g, v'.ownBlock = some g ∧ w.heap.size ≤ g) → ∃ w2, (Instr.mapUpdate 82 (.map (some m)) (.string s) v').run Tryz.prog w1 = .ok () w2 ∧ Grp w2 base m (n + 1) ∧ w1.grownBy w2 (some m)
theorem law9 : Keyed Tryz.prog 9 := string_keyed Tryz.underlying9
theorem zero26 (w : World) : (zeroValue 26).run Tryz.prog w = .ok (.slice none 0 0) w := by kernel_rfl
theorem Grp.made (w : World) : Grp (w.alloc (.map #[] 0)) (w.heap.size + 1) w.heap.size 0 := ⟨_, World.ownsGroups_made w Tryz.prog 9 3 .i64⟩
theorem Grp.lt {w : World} {base m n : Nat} (h : Grp w base m n) : m < w.heap.size ∧ m < base := by
 obtain ⟨D, es, clock, hb, _, _, _, hbb, _⟩ := h
 exact ⟨(Array.getElem?_eq_some_iff.1 hb).1, hbb⟩
theorem Grp.map {w : World} {base m n : Nat} (h : Grp w base m n) : ∃ es clock, w.heap[m]? = some (.map es clock) := by
 obtain ⟨D, es, clock, hb, _⟩ := h
 exact ⟨es, clock, hb⟩
theorem Grp.kept {w w' : World} {base m n : Nat} (h : Grp w base m n) {row : Option Nat} (hg : w.grownBy w' row) (ht : ∀ g, row = some g → ∃ cs t, w.heap[g]? = some (.cells cs t (0, 0)) ∧ t ≠ 3) : Grp w' base m n := by
 obtain ⟨D, h⟩ := h
 refine ⟨D, h.kept hg ?_ ?_⟩
 ·rintro e
  obtain ⟨cs, t, hc, _⟩ := ht m e.symm
  obtain ⟨es, clock, hb, _⟩ := h
  rw [hb] at hc
  cases hc
 ·intro es clock hb x hx
  obtain ⟨es', clock', hb', F, _⟩ := h
  rw [hb] at hb'
  cases hb'
  obtain ⟨y, hy⟩ := F.reads x hx
  obtain ⟨z, hz, _⟩ := rd_val hy
  obtain ⟨zs, ho, _⟩ := rowElem_inv hz
  cases hv : x.val.ownBlock with
  | none => exact .inl rfl
  | some g =>
   refine .inr fun e => ?_
   obtain ⟨cs, t, hc, hne⟩ := ht g e.symm
   obtain ⟨cells, hc'⟩ := own_typed ho.1 g hv
   rw [hc] at hc'
   cases hc'
   exact hne rfl
theorem Grp.below {w w' : World} {base m n : Nat} (h : Grp w base m n) (hb : Below w.heap.size w w') : Grp w' base m n := h.kept (row := none) (grown_of_below hb none) (fun g e => by cases e)
theorem Grp.look {w : World} {base m n : Nat} (h : Grp w base m n) (hn : n < maxLen) (s : ByteArray) (hs : s.size ≤ maxLen) : ∃ v ok zs, (Instr.lookup 82 (.map (some m)) (.string s) true).run Tryz.prog w = .ok (.tuple #[v, .bool ok]) w ∧ (Instr.lookup 82 (.map (some m)) (.string s) false).run Tryz.prog w = .ok v w ∧ w.ownsInts base 3 .i64 v zs ∧ zs.length ≤ n ∧ Back w base m n s v := by
 obtain ⟨D, h⟩ := h
 have hkey : keyOf Tryz.prog 9 (.string s) = some (.string s.data.toList) := Go.WideMaps.keyOf_string_mk Tryz.underlying9 hs
 obtain ⟨v, zs, hrun, _, ho, hl, hback⟩ := h.at law9 Tryz.underlying82 (zero26 w) hn hkey
 have hok : ∃ ok, (Instr.lookup 82 (.map (some m)) (.string s) true).run Tryz.prog w = .ok (.tuple #[v, .bool ok]) w := by
  obtain ⟨es, clock, hb, F, _⟩ := h
  rcases law9.find w hkey es.toList F.keys with ⟨h1, h2⟩ | ⟨j, e0, h1, h2, h3⟩
  ·have e : (Instr.lookup 82 (.map (some m)) (.string s) false).run Tryz.prog w = .ok (.slice none 0 0) w := by
    simp [Instr.lookup, run_underlying Tryz.underlying82, MapKept.run_getObj_map hb, law9.check w _ hkey, h1, zero26, Result.andThen]
   rw [hrun] at e
   obtain rfl : v = .slice none 0 0 := by simpa using e
   exact ⟨false, by simp [Instr.lookup, run_underlying Tryz.underlying82, MapKept.run_getObj_map hb, law9.check w _ hkey, h1, zero26, Result.andThen]⟩
  ·have e : (Instr.lookup 82 (.map (some m)) (.string s) false).run Tryz.prog w = .ok e0.val w := by
    simp [Instr.lookup, run_underlying Tryz.underlying82, MapKept.run_getObj_map hb, law9.check w _ hkey, h1, Result.andThen]
   rw [hrun] at e
   obtain rfl : v = e0.val := by simpa using e
   exact ⟨true, by simp [Instr.lookup, run_underlying Tryz.underlying82, MapKept.run_getObj_map hb, law9.check w _ hkey, h1, Result.andThen]⟩
 obtain ⟨ok, hok⟩ := hok
 refine ⟨v, ok, zs, hok, hrun, ho, hl, fun w1 v' zs' hg ho' hl' hat => ?_⟩
 obtain ⟨w2, h1, h2, h3⟩ := hback w1 v' zs' hg ho' hl' hat
 exact ⟨w2, h1, ⟨_, h2⟩, h3⟩
end Go.Proofs.YteebgnhhjlgnjaaGreatDoor.V
