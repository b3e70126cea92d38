/- spec.WellFormed: utf8.ValidString by its contract. -/
import Derived.Test.YteebgnhhjlgnjaaGreatDoorG0
import Derived.Shelf.Unicode.ValidAny
import Derived.Test.YteebgnhhjlgnjaaGreatDoorCF
import Derived.Test.YteebgnhhjlgnjaaGreatDoorRG
import Derived.Test.YteebgnhhjlgnjaaGreatDoorMA
namespace Go.Proofs.YteebgnhhjlgnjaaGreatDoor.V
open Go.RowKit Go.Shelf Go.Lib Go.Proofs.YteebgnhhjlgnjaaGreatDoorW.PrintWords Go.Proofs.YteebgnhhjlgnjaaGreatDoorW.PrintLast Go.Proofs.YteebgnhhjlgnjaaGreatDoorW.PrintMore
set_option maxHeartbeats 40000000
set_option maxRecDepth 100000
set_option linter.unusedVariables false
set_option linter.unusedSimpArgs false
def Tryz_laysValid_ren : Go.Shelf.Ren := ⟨fun | 196 => 38 | 259 => 75 | n => n, fun | 9 => 9 | 4 => 4 | 3 => 3 | 5 => 5 | 12 => 12 | 119 => 184 | 0 => 0 | 46 => 188 | 139 => 187 | 138 => 186 | 53 => 251 | n => n, fun | 3 => 0 | 4 => 1 | n => n⟩
theorem Tryz_laysValid : Lays.n196 Tryz.prog Tryz_laysValid_ren := {
 mixed := by kernel_rfl
 f196 := Tryz.func38.trans (congrArg some (by kernel_rfl))
 f259 := Tryz.func75.trans (congrArg some (by kernel_rfl))
 t0 := Tryz.underlying0
 a0 := Tryz.isAgg0
 z0 := Tryz.sizeOf0
 v0 := Tryz.zeroValue0
 t3 := Tryz.underlying3
 a3 := Tryz.isAgg3
 z3 := Tryz.sizeOf3
 v3 := Tryz.zeroValue3
 t4 := Tryz.underlying4
 a4 := Tryz.isAgg4
 z4 := Tryz.sizeOf4
 v4 := Tryz.zeroValue4
 t5 := Tryz.underlying5
 a5 := Tryz.isAgg5
 z5 := Tryz.sizeOf5
 v5 := Tryz.zeroValue5
 t9 := Tryz.underlying9
 a9 := Tryz.isAgg9
 z9 := Tryz.sizeOf9
 v9 := Tryz.zeroValue9
 t12 := Tryz.underlying12
 a12 := Tryz.isAgg12
 z12 := Tryz.sizeOf12
 v12 := Tryz.zeroValue12
 t46 := Tryz.underlying188
 a46 := Tryz.isAgg188
 z46 := Tryz.sizeOf188
 v46 := Tryz.zeroValue188
 t53 := Tryz.underlying251
 a53 := Tryz.isAgg251
 z53 := Tryz.sizeOf251
 v53 := Tryz.zeroValue251
 t119 := Tryz.underlying184
 a119 := Tryz.isAgg184
 z119 := Tryz.sizeOf184
 t138 := Tryz.underlying186
 a138 := Tryz.isAgg186
 z138 := Tryz.sizeOf186
 v138 := Tryz.zeroValue186
 t139 := Tryz.underlying187
 a139 := Tryz.isAgg187
 z139 := Tryz.sizeOf187
 v139 := Tryz.zeroValue187
 g3 := by kernel_rfl
 g4 := by kernel_rfl }
def Tabs (w : World) : Prop := Lib.Utf8Tabs (Tryz_laysValid_ren.g 3) (Tryz_laysValid_ren.g 4) w
theorem Tabs.below {B : Nat} {w w' : World} (h : Tabs w) (hb : Below w.heap.size w w') : Tabs w' := Utf8Tabs_below h hb
theorem valid38 (s : ByteArray) (w : World) (hs : s.size ≤ 9223372036854775807) (hT : Tabs w) :
 Calls Tryz.prog 38 #[.string s] w fun e w' => e = .returned (.bool (Lib.validD s.data.toList)) ∧ Below w.heap.size w w' := Any.utf8_ValidString Tryz_laysValid s w hs hT
theorem well21 (s : ByteArray) (w : World) (hs : s.size ≤ 9223372036854775807) (hT : Tabs w) :
 Calls Tryz.prog 21 #[.string s] w fun e w' => e = .returned (.bool (Lib.validD s.data.toList)) ∧ Below w.heap.size w w' := by
 have HT := Aside0.mk hT
 clear hT
 go_enter Tryz.func21, Tryz.ntmps21
 go_wp2_with (go_at_call 38; refine (valid38 s _ hs HT.out).mono ?_; rintro e w' ⟨rfl, hb⟩)
 go_ret
 exact ⟨rfl, hb⟩
open Go.MapKept
structure NRow where
 key : Int
 g : Nat
 names : List ByteArray
def NRow.val (p : NRow) : Value := .slice (some ⟨p.g, 0, none⟩) p.names.length p.names.length
def NRow.at (w : World) (p : NRow) : Prop := w.heap[p.g]? = some (.cells (p.names.map Value.string).toArray 9 (0, 0))
def MapIs (w : World) (b : Nat) (l : List NRow) : Prop := (∃ es clock, w.heap[b]? = some (.map es clock) ∧ es.toList.map (fun e => (e.key, e.val)) = l.map (fun p => (Value.int .i64 p.key, p.val))) ∧ ∀ p ∈ l, p.at w
theorem MapIs.made (w : World) : MapIs (w.alloc (.map #[] 0)) w.heap.size [] := ⟨⟨#[], 0, blk_new _ _, rfl⟩, fun p hp => (by cases hp)⟩
theorem MapIs.kept {w w' : World} {b : Nat} {l : List NRow} (h : MapIs w b l) {row : Option Nat} (hg : w.grownBy w' row) (h1 : ∀ g, row = some g → ∀ es clock, w.heap[g]? ≠ some (.map es clock)) (h2 : ∀ g, row = some g → ∀ cs, w.heap[g]? ≠ some (.cells cs 9 (0, 0))) : MapIs w' b l := by
 obtain ⟨⟨es, clock, hb, he⟩, hp⟩ := h
 exact ⟨⟨es, clock, (hg.block b (blk_lt hb) (fun e => h1 b e.symm _ _ hb)).trans hb, he⟩, fun p hp' => (hg.block p.g (blk_lt (hp p hp')) (fun e => h2 p.g e.symm _ (hp p hp'))).trans (hp p hp')⟩
theorem MapIs.below {w w' : World} {b : Nat} {l : List NRow} (h : MapIs w b l) (hb : Below w.heap.size w w') : MapIs w' b l := h.kept (row := none) (grown_of_below hb none) (fun g e => by cases e) (fun g e => by cases e)
def found (l : List NRow) (k : Int) : Option NRow := l.find? (fun p => p.key == k)
theorem find_is (k : Int) : ∀ (es : List MapEntry) (l : List NRow) (i : Nat), es.map (fun e => (e.key, e.val)) = l.map (fun p => (Value.int .i64 p.key, p.val)) →
 (found l k = none → Instr.findNow (.int .i64) (.int .i64 k) es i = some none) ∧ (∀ p, found l k = some p → ∃ j, Instr.findNow (.int .i64) (.int .i64 k) es i = some (some (j, p.val)))
 | [], [], i, _ => ⟨fun _ => rfl, fun p hp => (by cases hp)⟩
 | [], q :: l, i, h => by cases h
 | e :: es, [], i, h => by cases h
 | e :: es, q :: l, i, h => by
  simp only [List.map_cons, List.cons.injEq, Prod.mk.injEq] at h
  obtain ⟨⟨hk, hv⟩, hr⟩ := h
  have ih := find_is k es l (i + 1) hr
  have hs : Instr.sameNow (.int .i64) (.int .i64 k) e.key = some (k == q.key) := by rw [hk]; simp [Instr.sameNow]
  by_cases hq : q.key = k
  ·have h1 : (k == q.key) = true := by simp [hq]
   rw [h1] at hs
   have hf : found (q :: l) k = some q := by simp [found, hq]
   refine ⟨fun hn => (by rw [hf] at hn; cases hn), fun p hp => ⟨i, ?_⟩⟩
   rw [hf] at hp
   cases hp
   simp only [Instr.findNow, hs, hv]
  ·have h1 : (k == q.key) = false := by simp; exact fun e => hq e.symm
   rw [h1] at hs
   have hf : found (q :: l) k = found l k := by simp [found, hq]
   rw [hf]
   simp only [Instr.findNow, hs]
   exact ih
theorem MapIs.put {w : World} {b : Nat} {l : List NRow} (h : MapIs w b l) (p : NRow) (hn : found l p.key = none) (hp : p.at w) :
 ∃ w', (Instr.mapUpdate 100 (.map (some b)) (.int .i64 p.key) p.val).run Tryz.prog w = .ok () w' ∧ MapIs w' b (l ++ [p]) ∧ w.grownBy w' (some b) ∧ w'.heap.size = w.heap.size := by
 obtain ⟨⟨es, clock, hb, he⟩, hps⟩ := h
 have hf := (find_is p.key es.toList l 0 he).1 hn
 have hu : Tryz.prog.underlying 100 = some (.map 3 57) := Tryz.underlying100
 have h3 : Tryz.prog.underlying 3 = some (.int .i64) := Tryz.underlying3
 have hrun : (Instr.mapUpdate 100 (.map (some b)) (.int .i64 p.key) p.val).run Tryz.prog w = .ok () { w with heap := w.heap.setIfInBounds b (.map (es.push { key := .int .i64 p.key, val := p.val, born := clock }) (clock + 1)) } := by
  simp [Instr.mapUpdate, run_underlying hu, MapKept.run_getObj_map hb, MapKept.run_checkKey h3 (k := .int .i64 p.key) (by simp [MapKept.IsKey]), MapKept.run_findKey h3 hf, MapKept.run_setObj_map _ hb, Result.andThen]
 have hs := MapKept.heap_set (o' := .map (es.push { key := .int .i64 p.key, val := p.val, born := clock }) (clock + 1)) hb
 refine ⟨_, hrun, ⟨⟨_, _, hs.1, by simp [he]⟩, fun q hq => ?_⟩, ⟨rfl, rfl, rfl, by simp, fun k hk hne => hs.2 k (fun e => hne (by rw [e]))⟩, by simp⟩
 rcases List.mem_append.1 hq with hq | hq
 ·exact (hs.2 q.g (fun e => by have := hps q hq; unfold NRow.at at this; rw [e, hb] at this; cases this)).trans (hps q hq)
 ·rw [List.mem_singleton.1 hq]
  exact (hs.2 p.g (fun e => by unfold NRow.at at hp; rw [e, hb] at hp; cases hp)).trans hp
theorem MapIs.look {w : World} {b : Nat} {l : List NRow} (h : MapIs w b l) (k : Int) :
 (Instr.lookup 100 (.map (some b)) (.int .i64 k) false).run Tryz.prog w = .ok (match found l k with | some p => p.val | none => .slice none 0 0) w := by
 obtain ⟨⟨es, clock, hb, he⟩, hps⟩ := h
 have hf := find_is k es.toList l 0 he
 have hu : Tryz.prog.underlying 100 = some (.map 3 57) := Tryz.underlying100
 have h3 : Tryz.prog.underlying 3 = some (.int .i64) := Tryz.underlying3
 have hz : (zeroValue 57).run Tryz.prog w = .ok (.slice none 0 0) w := by kernel_rfl
 cases hq : found l k with
 | none => simp [Instr.lookup, run_underlying hu, MapKept.run_getObj_map hb, MapKept.run_checkKey h3 (k := .int .i64 k) (by simp [MapKept.IsKey]), MapKept.run_findKey h3 (hf.1 hq), hz, Result.andThen]
 | some p =>
  obtain ⟨j, hj⟩ := hf.2 p hq
  simp [Instr.lookup, run_underlying hu, MapKept.run_getObj_map hb, MapKept.run_checkKey h3 (k := .int .i64 k) (by simp [MapKept.IsKey]), MapKept.run_findKey h3 hj, Result.andThen]
section
variable {P : Program} {ops : Array Oper} {rest : List Oper} {o : Oper} {a : Act} {w : World} {Q : Exit → Act → World → Prop}
theorem wl_insert (hg : o.guard = none) (m x v : Operand) (t : TypeId) (hop : o.op = Op.insert t m x v) (M K V : Value) (hm : a.eval m = M) (hx : a.eval x = K) (hv : a.eval v = V) (w' : World) (hrun : (Instr.mapUpdate t M K V).run P w = .ok () w')
 (h : wpList P ops Q rest (a.put o.dst undef) w') : wpList P ops Q (o :: rest) a w := by
 refine wpList_plain hg fun K' hK' => ?_
 unfold Oper.wp
 simp [execOp, hop, hm, hx, hv, hrun, Result.andThen]
 exact hK' _ _ h
theorem wl_lookup (hg : o.guard = none) (m x : Operand) (t : TypeId) (hop : o.op = Op.lookup t m x false) (M K V : Value) (hm : a.eval m = M) (hx : a.eval x = K) (w' : World) (hrun : (Instr.lookup t M K false).run P w = .ok V w')
 (h : wpList P ops Q rest (a.put o.dst V) w') : wpList P ops Q (o :: rest) a w := by
 refine wpList_plain hg fun K' hK' => ?_
 unfold Oper.wp
 simp [execOp, hop, hm, hx, hrun, Result.andThen]
 exact hK' _ _ h
theorem wl_makeMap (hg : o.guard = none) (t : TypeId) (hop : o.op = Op.makeMap t none)
 (h : wpList P ops Q rest (a.put o.dst (.map (some w.heap.size))) (w.alloc (.map #[] 0))) : wpList P ops Q (o :: rest) a w := by
 refine wpList_plain hg fun K' hK' => ?_
 unfold Oper.wp
 simp [execOp, hop, Instr.makeMap, Result.andThen]
 exact hK' _ _ h
end
def wantN (k : Int) : List ByteArray := if k = 12 ∨ k = 21 ∨ k = 25 ∨ k = 26 ∨ k = 16 then [nmItem] else if k = 17 then [nmEntries] else if k = 22 then [nmRunEnds, nmValues] else if k = 27 then [emp, emp] else []
def fixedN (k : Int) (i : Nat) : Bool := decide (k = 17) || (decide (k = 22) && decide (i = 0)) || decide (k = 27)
def FieldU (k : Int) (i : Nat) (f : S30) : Prop := f.f3 = [] ∧ f.f0.size ≤ 50 ∧ (wantN k ≠ [] → (wantN k)[i]? = some f.f0) ∧ f.f1 = !fixedN k i
def EntB (t : S28) : Prop := (fld t 0).f0 = nmKey ∧ (fld t 1).f0 = nmValue ∧ (fld t 0).f1 = false ∧ (fld t 1).f1 = true ∧ (fld t 0).f3 = [] ∧ (fld t 1).f3 = []
inductive UsualP : S28 → Prop
 | mk (T : S28) (h1 : ∀ (i : Nat) (hi : i < T.f9.length), FieldU T.f0 i T.f9[i]) (h2 : T.f0 ≠ 17 → ∀ (i : Nat) (hi : i < T.f9.length), UsualP T.f9[i].f2)
  (h3 : T.f0 = 17 → ∀ (i : Nat) (hi : i < T.f9.length), EntB T.f9[i].f2) (h4 : T.f0 = 17 → ∀ (i : Nat) (hi : i < T.f9.length) (j : Nat) (hj : j < T.f9[i].f2.f9.length), UsualP (T.f9[i].f2.f9[j]).f2) : UsualP T
def EntU (t : S28) : Prop := EntB t ∧ ∀ (j : Nat) (hj : j < t.f9.length), UsualP (t.f9[j]).f2
def ChildU (k : Int) (t : S28) : Prop := (k ≠ 17 → UsualP t) ∧ (k = 17 → EntU t)
inductive SzT : S28 → Prop
 | mk (T : S28) (h : ∀ f ∈ T.f9, f.f0.size ≤ 9223372036854775807) (h2 : ∀ f ∈ T.f9, SzT f.f2) : SzT T
theorem SzT.name {T : S28} (h : SzT T) (f : S30) (hf : f ∈ T.f9) : f.f0.size ≤ 9223372036854775807 := by
 cases h with
 | mk _ h h2 => exact h f hf
theorem SzT.sub {T : S28} (h : SzT T) (f : S30) (hf : f ∈ T.f9) : SzT f.f2 := by
 cases h with
 | mk _ h h2 => exact h2 f hf
theorem Tabs.step {w w' : World} (h : Tabs w) (hb : Below w.heap.size w w') : Tabs w' := Tabs.below (B := 0) h hb
theorem RightP.two {n : Nat} {T : S28} (h : RightP (n + 1) T) (hk : T.f0 = 17) (i : Nat) (hi : i < T.f9.length) : (T.f9[i]).f2.f9.length = 2 := by
 have h1 := h.1.2.2.2.2.1
 rw [hk] at h1
 have h2 : T.f9.length ≤ 1 := h1
 have e : i = 0 := by omega
 subst e
 have h3 := (h.2.1.map hk).2
 rwa [show fld T 0 = T.f9[0] from by unfold fld; rw [List.getD_eq_getElem?_getD, List.getElem?_eq_getElem hi]; rfl] at h3
theorem RightP.want {n : Nat} {T : S28} (h : RightP n T) (hk : wantN T.f0 ≠ []) : T.f9.length ≤ (wantN T.f0).length ∧ (wantN T.f0).length ≤ 2 := by
 cases n with
 | zero => exact h.elim
 | succ n =>
  have h1 := h.1.2.2.2.2.1
  generalize T.f0 = k at h1 hk ⊢
  have key : ∀ k' : Int, k = k' → hiP k' = (wantN k').length → (wantN k').length ≤ 2 → T.f9.length ≤ (wantN k).length ∧ (wantN k).length ≤ 2 := fun k' e h2 h3 => by
   subst e
   rw [h2] at h1
   exact ⟨h1, h3⟩
  by_cases h1 : k = 12; · exact key _ h1 rfl (by decide)
  by_cases h2 : k = 21; · exact key _ h2 rfl (by decide)
  by_cases h3 : k = 25; · exact key _ h3 rfl (by decide)
  by_cases h4 : k = 26; · exact key _ h4 rfl (by decide)
  by_cases h5 : k = 16; · exact key _ h5 rfl (by decide)
  by_cases h6 : k = 17; · exact key _ h6 rfl (by decide)
  by_cases h7 : k = 22; · exact key _ h7 rfl (by decide)
  by_cases h8 : k = 27; · exact key _ h8 rfl (by decide)
  exact absurd (by simp [wantN, h1, h2, h3, h4, h5, h6, h7, h8]) hk
def UC (n : Nat) : Prop := ∀ (T : S28) (w : World) (A8 A9 : Option Addr) (c8 c9 : Nat), Tabs w → RightP n T → SzT T → Kd.C k30 w A9 T.f9.length T.f9 →
 Calls Tryz.prog 32 #[.agg #[.int .i64 T.f0, .int .i64 T.f1, .bool T.f2, .int .i64 T.f3, .int .i64 T.f4, .int .i64 T.f5, .string T.f6, .bool T.f7, .slice A8 T.f8.length c8, .slice A9 T.f9.length c9]] w fun e w' => (∃ b, e = .returned (.bool b) ∧ (b = true → UsualP T)) ∧ Below w.heap.size w w'
def EC (n : Nat) : Prop := ∀ (T : S28) (w : World) (A8 A9 : Option Addr) (c8 c9 : Nat), Tabs w → RightP n T → SzT T → T.f9.length = 2 → Kd.C k30 w A9 T.f9.length T.f9 →
 Calls Tryz.prog 61 #[.agg #[.int .i64 T.f0, .int .i64 T.f1, .bool T.f2, .int .i64 T.f3, .int .i64 T.f4, .int .i64 T.f5, .string T.f6, .bool T.f7, .slice A8 T.f8.length c8, .slice A9 T.f9.length c9]] w fun e w' => (∃ b, e = .returned (.bool b) ∧ (b = true → EntU T)) ∧ Below w.heap.size w w'
end Go.Proofs.YteebgnhhjlgnjaaGreatDoor.V
