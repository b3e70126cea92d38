/- FnUnitConvert: called with any two units and any number, where the package's table of factors lies as its text has it, it returns true, and the arguments and the table read as before.
Its conditions: the arguments are of their types; the listed variable reads as the program's own text lays it (the card ties that to the text). -/
import Derived.Test.YtiiicmfobljnaaaDoorTie
import Derived.Test.YtiiicmfobljnaaaDoorCards
import Derived.Test.YtiiicmfobljnaaaDoorP1
import Derived.WalkKit
import Derived.ProofKit
import Derived.OpenShut
import Derived.ShutString
import Derived.ChangeOld
import Derived.ChangeVars
import Derived.WalkSmall
import Derived.Below
import Derived.SizedLaws
import Derived.LaidMore
import Derived.Stop.Joined
import Derived.SevenTiedAt
namespace Go.Proofs.YtiiicmfobljnaaaDoor
open Go.ChangeShapes Go.WideShapes Go.ChangeAt Go.RowKit

theorem own : ownKnob Tryd.prog.godebug = none := by kernel_rfl
theorem gTab : Tryd.prog.globalNamed "given.example/pub-fletching/pub/arrow/arrow.timestampConversion" = some 0 := by kernel_rfl
theorem tTab : (Tryd.prog.globals[0]?).map (·.type) = some 51 := by kernel_rfl
theorem c49 : Tryd.prog.cellsOf 49 = 2 := by kernel_rfl
theorem c50 : Tryd.prog.cellsOf 50 = 8 := by kernel_rfl
theorem c51 : Tryd.prog.cellsOf 51 = 32 := by kernel_rfl
theorem c48 : Tryd.prog.cellsOf 48 = 1 := by kernel_rfl
theorem c2 : Tryd.prog.cellsOf 2 = 1 := by kernel_rfl

section
variable {H : Type} {enc : TypeId × Value → H} {W : World} {base : Nat} {sp : Nat → Bool} {held : Bool}
theorem pair_cells {m : Nat} {l : List Value} {x : DataW H × List MemPlace} {o f : Int} (h : DataW.trod enc Tryd.prog W base sp held m 49 l = some x) (hx : x.1 = .agg [.lit (.int .i8 o), .lit (.int .i64 f)]) : l = [.int .i8 o, .int .i64 f] := by
  obtain ⟨y0, y1, n, rfl, hl, h0, h1⟩ := trod_struct2 Tryd.underlying49 h
  obtain ⟨a, e0, rfl, _⟩ := DataW.trod_int Tryd.underlying48 h0
  obtain ⟨b, e1, rfl, _⟩ := DataW.trod_int Tryd.underlying2 h1
  simp only [DataW.agg.injEq, List.cons.injEq, DataW.lit.injEq, Lit.int.injEq, true_and, and_true] at hx
  obtain ⟨rfl, rfl⟩ := hx
  rw [c49] at hl
  match l, hl with
  | [p, q], _ =>
    simp [c48] at e0
    simp [c2] at e1
    rw [e0, e1]
theorem cut_four (l : List Value) (n : Nat) (h : l.length = 4 * n) : l = (l.drop (0 * n)).take n ++ ((l.drop (1 * n)).take n ++ ((l.drop (2 * n)).take n ++ (l.drop (3 * n)).take n)) := by
  have e3 : (l.drop (3 * n)).take n = l.drop (3 * n) := List.take_of_length_le (by simp; omega)
  have e2 : (l.drop (2 * n)).take n ++ l.drop (3 * n) = l.drop (2 * n) := by
    have : l.drop (3 * n) = (l.drop (2 * n)).drop n := by rw [List.drop_drop]; congr 1; omega
    rw [this, List.take_append_drop]
  have e1 : (l.drop (1 * n)).take n ++ l.drop (2 * n) = l.drop (1 * n) := by
    have : l.drop (2 * n) = (l.drop (1 * n)).drop n := by rw [List.drop_drop]; congr 1; omega
    rw [this, List.take_append_drop]
  have e0 : (l.drop (0 * n)).take n ++ l.drop (1 * n) = l := by
    rw [Nat.zero_mul, List.drop_zero, Nat.one_mul, List.take_append_drop]
  rw [e3, e2, e1, e0]
theorem row_cells {m : Nat} {l : List Value} {x : DataW H × List MemPlace} {o0 f0 o1 f1 o2 f2 o3 f3 : Int} (h : DataW.trod enc Tryd.prog W base sp held m 50 l = some x)
    (hx : x.1 = .agg [.agg [.lit (.int .i8 o0), .lit (.int .i64 f0)], .agg [.lit (.int .i8 o1), .lit (.int .i64 f1)], .agg [.lit (.int .i8 o2), .lit (.int .i64 f2)], .agg [.lit (.int .i8 o3), .lit (.int .i64 f3)]]) :
    l = [.int .i8 o0, .int .i64 f0, .int .i8 o1, .int .i64 f1, .int .i8 o2, .int .i64 f2, .int .i8 o3, .int .i64 f3] := by
  obtain ⟨xs, n, _, rfl, hl, hn, hel⟩ := DataW.trod_array Tryd.underlying50 h
  rw [c49] at hel
  rw [c50] at hl
  match xs, hn with
  | [x0, x1, x2, x3], _ =>
    simp only [List.map_cons, List.map_nil, DataW.agg.injEq, List.cons.injEq, and_true] at hx
    have h0 := pair_cells (x := x0) (hel 0 (by decide)) hx.1
    have h1 := pair_cells (x := x1) (hel 1 (by decide)) hx.2.1
    have h2 := pair_cells (x := x2) (hel 2 (by decide)) hx.2.2.1
    have h3 := pair_cells (x := x3) (hel 3 (by decide)) hx.2.2.2
    have := cut_four l 2 (by omega)
    rw [h0, h1, h2, h3] at this
    exact this
end

/-- The table's datum, at whatever tokens. -/
abbrev tableD (H : Type) : DataW H := Rows.laid_given_example_pub_fletching_pub_arrow_arrow_timestampConversion
theorem table_cells {H : Type} {enc : TypeId × Value → H} {W : World} {base : Nat} {sp : Nat → Bool} {held : Bool} {m : Nat} {l : List Value} {p : List MemPlace} (h : DataW.trod enc Tryd.prog W base sp held m 51 l = some (tableD H, p)) : l = V.tabCells.toList := by
  obtain ⟨xs, n, _, hx, hl, hn, hel⟩ := DataW.trod_array Tryd.underlying51 h
  rw [c50] at hel
  rw [c51] at hl
  match xs, hn with
  | [x0, x1, x2, x3], _ =>
    simp only [tableD, Rows.laid_given_example_pub_fletching_pub_arrow_arrow_timestampConversion, List.map_cons, List.map_nil, Prod.mk.injEq, DataW.agg.injEq, List.cons.injEq, and_true] at hx
    obtain ⟨⟨r0, r1, r2, r3⟩, _⟩ := hx
    have h0 := row_cells (x := x0) (hel 0 (by decide)) r0.symm
    have h1 := row_cells (x := x1) (hel 1 (by decide)) r1.symm
    have h2 := row_cells (x := x2) (hel 2 (by decide)) r2.symm
    have h3 := row_cells (x := x3) (hel 3 (by decide)) r3.symm
    have := cut_four l 8 (by omega)
    rw [h0, h1, h2, h3] at this
    exact this
theorem table_reads {H : Type} (enc : TypeId × Value → H) (W : World) (sp : Nat → Bool) : DataW.trod enc Tryd.prog W 0 sp true 4 51 V.tabCells.toList = some (tableD H, []) := by kernel_rfl

theorem cells_of_laid {W : World} (h : laidMetH Tryd.prog Rows.fnUnitConvertRow.laid W) : W.var? Tryd.prog "given.example/pub-fletching/pub/arrow/arrow.timestampConversion" = some V.tabCells := by
  rw [MakeChecks.laidMetH_plain _ _ _ (by kernel_rfl)] at h
  obtain ⟨ps, ⟨g, t, cs, fuel, p, q, hg, ht, hv, hd, _, _⟩, _⟩ := h
  obtain rfl := Option.some.inj (gTab.symm.trans hg)
  obtain rfl := Option.some.inj (tTab.symm.trans ht)
  have := table_cells hd
  obtain ⟨l⟩ := cs
  rw [hv]
  have e : l = V.tabCells.toList := this
  rw [e]
theorem tab_of_var {W : World} (h : W.var? Tryd.prog "given.example/pub-fletching/pub/arrow/arrow.timestampConversion" = some V.tabCells) : V.TabAt W :=
  ⟨fun j _ e => (World.var?_cell gTab h j).trans e⟩

theorem door_met (os : Os) (args : Array Value) : laidMetH Tryd.prog Rows.fnUnitConvertRow.laid ((World.doorLaid Tryd.prog 400 os).forCall (fun _ _ => 0) ⟨#[], args, []⟩).memory :=
  laidMetH_of_parts3 (fuel := 8) (laidMet_of_run' 8 (by kernel_rfl) (by kernel_rfl)) (by kernel_rfl) (by kernel_rfl)

set_option maxRecDepth 100000 in
theorem lifted (os : Os) (started : os.Started) (H : Type) (enc : TypeId × Value → H) :
    ReturnsInHanded {} Tryd.checked os 3 .any (fun w args => (Rows.fnUnitConvertSpec.pre enc Tryd.prog Tryd.f3 [] false w args ∧ laidMetH Tryd.prog Rows.fnUnitConvertRow.laid w) ∧ sizedMet enc Tryd.prog Tryd.f3 (OpenSpec.ofChange Rows.fnUnitConvertSpec) false w args)
      (Rows.fnUnitConvertSpec.post enc Tryd.prog Tryd.f3 false true false false) := by
  refine returnsInHanded_of_change_and (C := Tryd.checked) (X := fun w _ => laidMetH Tryd.prog Rows.fnUnitConvertRow.laid w) (fun _ _ _ hh h => h.of_heap hh) own started (by kernel_rfl) Tryd.func3
    (ChangeSpec.witness_shaped (enc := enc) (C := Tryd.checked) (os := os) (X := fun w _ => laidMetH Tryd.prog Rows.fnUnitConvertRow.laid w) false (World.doorLaid Tryd.prog 400 os) #[.int .i64 0, .int .i64 0, .int .i64 0] 8 rfl (World.shaped_of_RefB (by kernel_rfl) (by kernel_rfl)) (by kernel_rfl) (by kernel_rfl) (by kernel_rfl) (door_met os _)) ?_
  intro W base args ds gs before hval0 hW _ _ hL _
  have hval : ∀ (j : Nat) t v, Tryd.f3.params[j]? = some t → args[j]? = some v → Value.okWide Tryd.prog W .any base t v := hval0
  have hW' := hW
  obtain ⟨p, q, hA0, hV0, rfl, hfz, hnd⟩ := hW
  have hA : DataW.TrodAll enc Tryd.prog W 0 (fun _ => true) true Tryd.f3.params.toList args.toList ds p := hA0
  have hV : DataW.TrodVars enc Tryd.prog W (fun _ => true) ["given.example/pub-fletching/pub/arrow/arrow.timestampConversion"] gs q := hV0
  rw [Tryd.params3] at hA hval
  obtain ⟨v0, vs0, d0, ds0, p0, q0, hargs, rfl, rfl, h0, r0⟩ := trodAll_cons hA
  obtain ⟨v1, vs1, d1, ds1, p1, q1, rfl, rfl, rfl, h1, r1⟩ := trodAll_cons r0
  obtain ⟨v2, vs2, d2, ds2, p2, q2, rfl, rfl, rfl, h2, r2⟩ := trodAll_cons r1
  obtain ⟨rfl, rfl, rfl⟩ := trodAll_nil r2
  obtain rfl : args = #[v0, v1, v2] := by cases args; simp_all
  obtain ⟨a0, rfl, rfl, rfl, w0⟩ := open_int Tryd.underlying3 (hval 0 3 v0 rfl rfl) h0
  obtain ⟨a1, rfl, rfl, rfl, w1⟩ := open_int Tryd.underlying3 (hval 1 3 v1 rfl rfl) h1
  obtain ⟨a2, rfl, rfl, rfl, w2⟩ := open_int Tryd.underlying2 (hval 2 2 v2 rfl rfl) h2
  obtain ⟨g, t, cs, fuel, d, p', rfl, hg, ht, hvar, hd, rfl⟩ := trodVars_one hV
  obtain rfl := Option.some.inj (gTab.symm.trans hg)
  obtain rfl := Option.some.inj (tTab.symm.trans ht)
  obtain rfl : cs = V.tabCells := Option.some.inj (hvar.symm.trans (cells_of_laid hL))
  obtain ⟨rfl, rfl⟩ := DataW.Trod.unique (v := .agg V.tabCells) ⟨fuel, hd⟩ ⟨4, table_reads enc W _⟩
  clear hA0 hV0 hval0
  refine (V.laws_FnUnitConvert.walk M.UnitConvert_pure a0 a1 a2 W (tab_of_var hvar) w0 w1 w2).mono fun e W' ⟨he, bel⟩ => ?_
  subst he
  have hz : 0 < W.heap.size := World.block_lt_of_cell? W ⟨0, 0, none⟩ ((tab_of_var hvar).cell 0 _ rfl)
  have hvar' := var?_below bel hg hz hvar
  exact ⟨_, rfl, _, _, _, [], _, MemPlace.row ⟨0, 0, none⟩ V.tabCells.size ++ [] ++ [], hW', trodAll_mk1 (shut_bool Tryd.underlying4 _), (trodAll_cons_mk (shut_int Tryd.underlying3 w0) (trodAll_cons_mk (shut_int Tryd.underlying3 w1) (trodAll_cons_mk (shut_int Tryd.underlying2 w2) trodAll_mk0))),
    ⟨0, 51, V.tabCells, 4, [], [], hg, ht, hvar', table_reads enc W' _, rfl, rfl⟩, bel.frame _, fun h => by cases h⟩

theorem said : Rows.FnUnitConvertSaid :=
  OpenClaim.holds_of_wide 3 Tryd.f3 rfl rfl rfl rfl rfl rfl rfl ⟨rfl, rfl, rfl, rfl, rfl⟩ rfl rfl rfl rfl rfl (by kernel_rfl) Tryd.func3 (by kernel_rfl)
    (of_decide_eq_true (by kernel_rfl)) (by unfold Func.isWrapper; first | (rw [if_pos (by decide +kernel)]; kernel_rfl) | (rw [if_neg (by decide +kernel)]; exact ⟨rfl, rfl⟩))
    (fun os started H enc _ => lifted os started H enc)

theorem unitConvert_card : Rows.FnUnitConvertCardSaid :=
  Claim7.holds_tied_plain_at .later [] [.data] true (true, "e5c845deb5d5105b4b16b7e9b05b1cce3bfb80d67df84c1fd0b84b4e8f803bc7") false
    said (fun _ h => by cases h) (by kernel_rfl) (fun _ h => by cases h) fnUnitConvert_row_tie rfl ⟨rfl, rfl⟩ (by kernel_rfl) rfl
    (fun f fn hf hfn => by
      obtain rfl : f = 3 := Option.some.inj ((show Tryd.prog.funcNamed "given.example/pub-fletching/laws.FnUnitConvert" = some 3 by kernel_rfl).symm.trans hf) |>.symm
      obtain rfl : fn = Tryd.f3 := (Option.some.inj (Tryd.func3.symm.trans hfn)).symm
      exact ⟨by kernel_rfl, fun j t ht => by
        rw [Tryd.params3] at ht
        have hm : t ∈ [3, 3, 2] := by simpa using Array.mem_of_getElem? ht
        have hall : ([3, 3, 2].all fun u => !Tryd.prog.wantsStandIn u) = true := by kernel_rfl
        exact (show Tryd.prog.wantsStandIn t = false by simpa using List.all_eq_true.1 hall t hm)⟩)
    (by kernel_rfl)
#print axioms unitConvert_card
end Go.Proofs.YtiiicmfobljnaaaDoor
