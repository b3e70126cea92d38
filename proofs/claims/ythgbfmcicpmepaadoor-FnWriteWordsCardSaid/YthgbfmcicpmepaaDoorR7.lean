/- FnWriteWords: called with any row of bytes, any place in it and any bits, it returns true, and the arguments and the table of masks read as before. Its conditions: the arguments are of their types; the listed variable reads as the program's own text lays it (the card ties that to the text). -/
import Derived.Test.YthgbfmcicpmepaaDoorTie
import Derived.Test.YthgbfmcicpmepaaDoorCards
import Derived.Test.YthgbfmcicpmepaaDoorDQ
import Derived.Test.YthgbfmcicpmepaaDoorKS
import Derived.WalkKit
import Derived.ProofKit
import Derived.OpenShut
import Derived.ShutString
import Derived.ChangeOld
import Derived.ChangeVars
import Derived.WalkSmall
import Derived.Below
import Derived.SizedLaws
import Derived.LaidMore
import Derived.Stop.Joined
import Derived.SevenTiedAt
import Derived.Deep.Grids
namespace Go.Proofs.YthgbfmcicpmepaaDoor.fnWriteWords
open Go.ChangeShapes Go.WideShapes Go.ChangeAt Go.RowKit
open Go.ChangeMaps (open_string shut_string)
set_option linter.unusedVariables false
theorem own : ownKnob Tryd.prog.godebug = none := by kernel_rfl
theorem laidOut : laidOutB Tryd.prog = true := by kernel_rfl
theorem gTab : Tryd.prog.globalNamed "given.example/pub-fletching/pub/arrow/arrow/bitutil.BitMask" = some 1 := by kernel_rfl
theorem tTab : (Tryd.prog.globals[1]?).map (·.type) = some 73 := by kernel_rfl
theorem c5 : Tryd.prog.cellsOf 5 = 1 := by kernel_rfl
theorem c73 : Tryd.prog.cellsOf 73 = 8 := by kernel_rfl
/-- The masks. -/
def tabCells : Array Value := #[.int .u8 1, .int .u8 2, .int .u8 4, .int .u8 8, .int .u8 16, .int .u8 32, .int .u8 64, .int .u8 128]
section
variable {H : Type} {enc : TypeId × Value → H} {W : World} {base : Nat} {sp : Nat → Bool} {held : Bool}
theorem byte_cell {m : Nat} {l : List Value} {x : DataW H × List MemPlace} {o : Int} (h : DataW.trod enc Tryd.prog W base sp held m 5 l = some x) (hx : x.1 = .lit (.int .u8 o)) : l = [.int .u8 o] := by
  obtain ⟨a, e0, rfl, _⟩ := DataW.trod_int Tryd.underlying5 h
  simp only [DataW.lit.injEq, Lit.int.injEq, true_and] at hx
  rw [e0, hx]
theorem cut_eight (l : List Value) (h : l.length = 8) : l = (l.drop (0 * 1)).take 1 ++ ((l.drop (1 * 1)).take 1 ++ ((l.drop (2 * 1)).take 1 ++ ((l.drop (3 * 1)).take 1 ++ ((l.drop (4 * 1)).take 1 ++ ((l.drop (5 * 1)).take 1 ++ ((l.drop (6 * 1)).take 1 ++ (l.drop (7 * 1)).take 1)))))) := by
  match l, h with
  | [a, b, c, d, e, f, g, i], _ => rfl
/-- The table's datum, at whatever tokens. -/
abbrev tableD (H : Type) : DataW H := Rows.laid_given_example_pub_fletching_pub_arrow_arrow_bitutil_BitMask
theorem table_cells {m : Nat} {l : List Value} {p : List MemPlace} (h : DataW.trod enc Tryd.prog W base sp held m 73 l = some (tableD H, p)) : l = tabCells.toList := by
  obtain ⟨xs, n, _, hx, hl, hn, hel⟩ := DataW.trod_array Tryd.underlying73 h
  rw [c5] at hel
  rw [c73] at hl
  match xs, hn with
  | [x0, x1, x2, x3, x4, x5, x6, x7], _ =>
    simp only [tableD, Rows.laid_given_example_pub_fletching_pub_arrow_arrow_bitutil_BitMask, List.map_cons, List.map_nil, Prod.mk.injEq, DataW.agg.injEq, List.cons.injEq, and_true] at hx
    obtain ⟨⟨r0, r1, r2, r3, r4, r5, r6, r7⟩, _⟩ := hx
    have h0 := byte_cell (x := x0) (hel 0 (by decide)) r0.symm
    have h1 := byte_cell (x := x1) (hel 1 (by decide)) r1.symm
    have h2 := byte_cell (x := x2) (hel 2 (by decide)) r2.symm
    have h3 := byte_cell (x := x3) (hel 3 (by decide)) r3.symm
    have h4 := byte_cell (x := x4) (hel 4 (by decide)) r4.symm
    have h5 := byte_cell (x := x5) (hel 5 (by decide)) r5.symm
    have h6 := byte_cell (x := x6) (hel 6 (by decide)) r6.symm
    have h7 := byte_cell (x := x7) (hel 7 (by decide)) r7.symm
    have := cut_eight l (by omega)
    rw [h0, h1, h2, h3, h4, h5, h6, h7] at this
    exact this
end
theorem table_reads {H : Type} (enc : TypeId × Value → H) (W : World) (sp : Nat → Bool) : DataW.trod enc Tryd.prog W 0 sp true 4 73 tabCells.toList = some (tableD H, []) := by kernel_rfl
theorem cells_of_laid {W : World} (h : laidMetH Tryd.prog Rows.fnWriteWordsRow.laid W) : W.var? Tryd.prog "given.example/pub-fletching/pub/arrow/arrow/bitutil.BitMask" = some tabCells := by
  rw [MakeChecks.laidMetH_plain _ _ _ (by kernel_rfl)] at h
  obtain ⟨ps, ⟨g, t, cs, fuel, p, q, hg, ht, hv, hd, _, _⟩, _⟩ := h
  obtain rfl := Option.some.inj (gTab.symm.trans hg)
  obtain rfl := Option.some.inj (tTab.symm.trans ht)
  have := table_cells hd
  obtain ⟨l⟩ := cs
  rw [hv]
  have e : l = tabCells.toList := this
  rw [e]
theorem tab_of_var {W : World} (h : W.var? Tryd.prog "given.example/pub-fletching/pub/arrow/arrow/bitutil.BitMask" = some tabCells) : V.TabAt W :=
  ⟨fun j hj => World.var?_cell gTab h j |>.trans (by
    match j, hj with
    | 0, _ => rfl
    | 1, _ => rfl
    | 2, _ => rfl
    | 3, _ => rfl
    | 4, _ => rfl
    | 5, _ => rfl
    | 6, _ => rfl
    | 7, _ => rfl)⟩
theorem door_met (os : Os) (args : Array Value) : laidMetH Tryd.prog Rows.fnWriteWordsRow.laid ((World.doorLaid Tryd.prog 400 os).forCall (fun _ _ => 0) ⟨#[], args, []⟩).memory :=
  laidMetH_of_parts3 (fuel := 8) (laidMet_of_run' 8 (by kernel_rfl) (by kernel_rfl)) (by kernel_rfl) (by kernel_rfl)
def IsRow (k : IntKind) (w : World) (a : Option Addr) (len cap : Nat) (zs : List Int) : Prop :=
  (a = none ∧ len = 0 ∧ cap = 0 ∧ zs = []) ∨
  ∃ x, a = some x ∧ len ≤ cap ∧ cap ≤ maxLen ∧ zs.length = cap ∧ (∀ i, i < zs.length → w.cell? (x.add i) = some (.int k (zs.getD i 0))) ∧ ∀ n ∈ zs, (Lit.int k n).wf = true
set_option maxRecDepth 100000 in
theorem lifted (os : Os) (started : os.Started) (H : Type) (enc : TypeId × Value → H) :
    ReturnsInHanded {} Tryd.checked os 3 .any (fun w args => (Rows.fnWriteWordsSpec.pre enc Tryd.prog Tryd.f3 [] false w args ∧ laidMetH Tryd.prog Rows.fnWriteWordsRow.laid w) ∧ sizedMet enc Tryd.prog Tryd.f3 (OpenSpec.ofChange Rows.fnWriteWordsSpec) false w args) (Rows.fnWriteWordsSpec.post enc Tryd.prog Tryd.f3 false true false false) := by
  refine returnsInHanded_of_change_and (C := Tryd.checked) (X := fun w _ => laidMetH Tryd.prog Rows.fnWriteWordsRow.laid w) (fun _ _ _ hh h => h.of_heap hh) own started (by kernel_rfl) Tryd.func3
    (ChangeSpec.witness_shaped (enc := enc) (C := Tryd.checked) (os := os) (X := fun w _ => laidMetH Tryd.prog Rows.fnWriteWordsRow.laid w) false (World.doorLaid Tryd.prog 400 os) #[.slice none 0 0, .int .i64 0, .slice none 0 0] 8 rfl (World.shaped_of_RefB (by kernel_rfl) (by kernel_rfl)) (by kernel_rfl) (by kernel_rfl) (by kernel_rfl) (door_met os _)) ?_
  intro W base args ds gs before hval0 hW hcnd hsz0 hL _
  have hval : ∀ (j : Nat) t v, Tryd.f3.params[j]? = some t → args[j]? = some v → Value.okWide Tryd.prog W .any base t v := hval0
  have hW' := hW
  obtain ⟨p, q, hA0, hV0, rfl, hfz, hnd⟩ := hW
  have hV : DataW.TrodVars enc Tryd.prog W (fun _ => true) ["given.example/pub-fletching/pub/arrow/arrow/bitutil.BitMask"] gs q := hV0
  have hA : DataW.TrodAll enc Tryd.prog W 0 (fun _ => true) true Tryd.f3.params.toList args.toList ds p := hA0
  rw [Tryd.params3] at hA hval
  obtain ⟨v0, vs0, d0, ds0, p0, q0, hargs, rfl, rfl, h0, r0⟩ := trodAll_cons hA
  obtain ⟨v1, vs1, d1, ds1, p1, q1, rfl, rfl, rfl, h1, r1⟩ := trodAll_cons r0
  obtain ⟨v2, vs2, d2, ds2, p2, q2, rfl, rfl, rfl, h2, r2⟩ := trodAll_cons r1
  obtain ⟨rfl, rfl, rfl⟩ := trodAll_nil r2
  obtain rfl : args = #[v0, v1, v2] := by cases args; simp_all
  obtain ⟨g, t, cs, fuel, d, p', rfl, hg, ht, hvar, hd, rfl⟩ := trodVars_one hV
  obtain rfl := Option.some.inj (gTab.symm.trans hg)
  obtain rfl := Option.some.inj (tTab.symm.trans ht)
  obtain rfl : cs = tabCells := Option.some.inj (hvar.symm.trans (cells_of_laid hL))
  obtain ⟨rfl, rfl⟩ := DataW.Trod.unique (v := .agg tabCells) ⟨fuel, hd⟩ ⟨4, table_reads enc W _⟩
  obtain ⟨a0, len0, cap0, rfl⟩ := okWide_slice Tryd.underlying22 (hval 0 22 v0 rfl rfl)
  have k0 := h0
  have lt0 : ∀ x ∈ p0, x.block < W.heap.size := by obtain ⟨m, hm⟩ := k0; exact DataW.trod_lt m _ _ _ hm
  obtain ⟨z0, w0⟩ : ∃ zs, IsRow .u8 W a0 len0 cap0 zs := by
    obtain ⟨fuel, hf⟩ := h0
    rcases open_ints Tryd.underlying22 Tryd.underlying5 (by kernel_rfl) hf with ⟨hcs, _⟩ | ⟨x, l, c, zs, hcs, _, hl, hm, hz, _, hcell, hwz⟩
    · simp [Value.cells] at hcs
      obtain ⟨rfl, rfl, rfl⟩ := hcs
      exact ⟨[], .inl ⟨rfl, rfl, rfl, rfl⟩⟩
    · simp [Value.cells] at hcs
      obtain ⟨rfl, rfl, rfl⟩ := hcs
      exact ⟨zs, .inr ⟨_, rfl, hl, hm, by simpa using hz, hcell, hwz⟩⟩
  obtain ⟨a1, rfl, rfl, rfl, w1⟩ := open_int Tryd.underlying3 (hval 1 3 v1 rfl rfl) h1
  obtain ⟨a2, len2, cap2, rfl⟩ := okWide_slice Tryd.underlying23 (hval 2 23 v2 rfl rfl)
  have k2 := h2
  have lt2 : ∀ x ∈ p2, x.block < W.heap.size := by obtain ⟨m, hm⟩ := k2; exact DataW.trod_lt m _ _ _ hm
  obtain ⟨z2, w2⟩ : ∃ Z : Nat → Bool, (a2 = none ∧ len2 = 0 ∧ cap2 = 0) ∨ ∃ x, a2 = some x ∧ len2 ≤ cap2 ∧ cap2 ≤ maxLen ∧ ∀ i, i < cap2 → W.cell? (x.add i) = some (.bool (Z i)) := by
    obtain ⟨fuel, hf⟩ := h2
    rcases Go.Deep.open_bools Tryd.underlying23 Tryd.underlying4 (by kernel_rfl) hf with ⟨hcs, _⟩ | ⟨x, l, c, Z, hcs, _, hl, hm, _, hcell⟩
    · simp [Value.cells] at hcs
      obtain ⟨rfl, rfl, rfl⟩ := hcs
      exact ⟨fun _ => false, .inl ⟨rfl, rfl, rfl⟩⟩
    · simp [Value.cells] at hcs
      obtain ⟨rfl, rfl, rfl⟩ := hcs
      exact ⟨Z, .inr ⟨_, rfl, hl, hm, hcell⟩⟩
  clear hA0 hV0 hval0 hsz0
  refine (V.laws_FnWriteWords.walk V.writeWords_pure a0 len0 cap0 z0 a1 a2 len2 cap2 z2 W (tab_of_var hvar) w0 w2).mono fun e W' ⟨he, bel⟩ => ?_
  subst he
  have hz : 1 < W.heap.size := World.block_lt_of_cell? W ⟨1, 0, none⟩ ((tab_of_var hvar).cell 0 (by decide))
  have hvar' := var?_below bel hg hz hvar
  exact ⟨_, rfl, _, _, _, [], _, MemPlace.row ⟨1, 0, none⟩ tabCells.size ++ [] ++ [], hW', trodAll_mk1 (shut_bool Tryd.underlying4 _), (trodAll_cons_mk (Below.trod laidOut (by kernel_rfl) (of_decide_eq_true (by kernel_rfl)) k0 bel lt0) (trodAll_cons_mk (shut_int Tryd.underlying3 w1) (trodAll_cons_mk (Below.trod laidOut (by kernel_rfl) (of_decide_eq_true (by kernel_rfl)) k2 bel lt2) trodAll_mk0))),
    ⟨1, 73, tabCells, 4, [], [], hg, ht, hvar', table_reads enc W' _, rfl, rfl⟩, bel.frame _, fun h => by cases h⟩
theorem over : Rows.FnWriteWordsSaid :=
  OpenClaim.holds_of_wide 3 Tryd.f3 rfl rfl rfl rfl rfl rfl rfl ⟨rfl, rfl, rfl, rfl, rfl⟩ rfl rfl rfl rfl rfl (by kernel_rfl) Tryd.func3 (by kernel_rfl)
    (of_decide_eq_true (by kernel_rfl)) (by unfold Func.isWrapper; first | (rw [if_pos (by decide +kernel)]; kernel_rfl) | (rw [if_neg (by decide +kernel)]; exact ⟨rfl, rfl⟩))
    (fun os started H enc _ => lifted os started H enc)
end Go.Proofs.YthgbfmcicpmepaaDoor.fnWriteWords
namespace Go.Proofs.YthgbfmcicpmepaaDoor
theorem fnWriteWords_card : Rows.FnWriteWordsCardSaid :=
  Claim7.holds_tied_plain_at .later [] [.data] true (true, "52717be913fca4f37ee03dcded04e2258cced1a2e6cdeb81f00615ba4cae1fa9") false
    fnWriteWords.over (fun _ h => by cases h) (by kernel_rfl) (fun _ h => by cases h) fnWriteWords_row_tie rfl ⟨rfl, rfl⟩ (by kernel_rfl) rfl
    (fun f fn hf hfn => by
      obtain rfl : f = 3 := Option.some.inj ((show Tryd.prog.funcNamed "given.example/pub-fletching/laws.FnWriteWords" = some 3 by kernel_rfl).symm.trans hf) |>.symm
      obtain rfl : fn = Tryd.f3 := (Option.some.inj (Tryd.func3.symm.trans hfn)).symm
      exact ⟨by kernel_rfl, fun j t ht => by
        rw [Tryd.params3] at ht
        have hm : t ∈ [22, 3, 23] := by simpa using Array.mem_of_getElem? ht
        have hall : ([22, 3, 23].all fun u => !Tryd.prog.wantsStandIn u) = true := by kernel_rfl
        exact (show Tryd.prog.wantsStandIn t = false by simpa using List.all_eq_true.1 hall t hm)⟩)
    (by kernel_rfl)
end Go.Proofs.YthgbfmcicpmepaaDoor
