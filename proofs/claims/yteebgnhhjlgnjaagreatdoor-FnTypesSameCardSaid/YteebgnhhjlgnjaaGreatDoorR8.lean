/- FnTypesSame: called with any two types, it returns true, and the arguments read as before. Its conditions: the arguments are of their type; the two listed variables read as the program's own text and Go's own table lay them (the card ties that to the text). -/
import Derived.Test.YteebgnhhjlgnjaaGreatDoorTie
import Derived.Test.YteebgnhhjlgnjaaGreatDoorCards
import Derived.Test.YteebgnhhjlgnjaaGreatDoorTS
import Derived.Test.YteebgnhhjlgnjaaGreatDoorRD
import Derived.Lib.LaidU8T
import Derived.Lib.LaidIn
import Derived.WalkKit
import Derived.ProofKit
import Derived.OpenShut
import Derived.ShutString
import Derived.ChangeOld
import Derived.ChangeVars
import Derived.WalkSmall
import Derived.Below
import Derived.SizedLaws
import Derived.LaidMore
import Derived.Lay
import Derived.Stop.Joined
import Derived.SevenTiedAt
namespace Go.Proofs.YteebgnhhjlgnjaaGreatDoor.fnTypesSame
open Go.ChangeShapes Go.WideShapes Go.ChangeAt Go.RowKit Go.Shelf Go.Lib
set_option maxHeartbeats 40000000
set_option maxRecDepth 100000
set_option linter.unusedVariables false
theorem own : ownKnob Tryz.prog.godebug = none := by kernel_rfl
theorem laidOut : laidOutB Tryz.prog = true := by kernel_rfl
theorem accept_eq : (Rows.laid_unicode_utf8_acceptRanges : DataW Unit) = acceptData := by kernel_rfl
theorem first_eq : Rows.laid_unicode_utf8_first = firstData := by kernel_rfl
theorem tabs {W : World} (h : laidMet Tryz.prog Rows.fnTypesSameRow.laid W) : V.Tabs W :=
 utf8Tabs_of_readsT (U8Types.of196 V.Tryz_laysValid) ⟨by kernel_rfl, by kernel_rfl, by kernel_rfl, by kernel_rfl, by kernel_rfl, by kernel_rfl, by kernel_rfl⟩ (first_eq ▸ Lib.laidMet.reads h (.tail _ (.head _))) (accept_eq ▸ Lib.laidMet.reads h (.head _))
theorem lifted (os : Os) (started : os.Started) (H : Type) (enc : TypeId × Value → H) :
 ReturnsInHanded {} Tryz.checked os 5 .any (fun w args => (Rows.fnTypesSameSpec.pre enc Tryz.prog Tryz.f5 [] false w args ∧ laidMetH Tryz.prog Rows.fnTypesSameRow.laid w) ∧ sizedMet enc Tryz.prog Tryz.f5 (OpenSpec.ofChange Rows.fnTypesSameSpec) false w args) (Rows.fnTypesSameSpec.post enc Tryz.prog Tryz.f5 false true false false) := by
 refine returnsInHanded_of_change_and (C := Tryz.checked) (X := fun w _ => laidMetH Tryz.prog Rows.fnTypesSameRow.laid w) (fun _ _ _ hh h => h.of_heap hh) own started (by kernel_rfl) Tryz.func5
  (ChangeSpec.witness_shaped (enc := enc) (C := Tryz.checked) (os := os) (X := fun w _ => laidMetH Tryz.prog Rows.fnTypesSameRow.laid w) false (World.laidAll Tryz.prog os Rows.fnTypesSameRow.laid) #[.agg #[.int .i64 0, .int .i64 0, .bool false, .int .i64 0, .int .i64 0, .int .i64 0, .string ⟨#[]⟩, .bool false, .slice none 0 0, .slice none 0 0], .agg #[.int .i64 0, .int .i64 0, .bool false, .int .i64 0, .int .i64 0, .int .i64 0, .string ⟨#[]⟩, .bool false, .slice none 0 0, .slice none 0 0]] 8 (World.laidAll_os _ _ _)
   (World.shaped_of_ZipB (by kernel_rfl) (by kernel_rfl)) (by kernel_rfl) (by kernel_rfl) (by kernel_rfl)
   (by rw [MakeChecks.laidMetH_plain _ _ _ (by kernel_rfl)]; exact laidMet_laidAll _ (by kernel_rfl) (by kernel_rfl))) ?_
 intro W base args ds gs before hval0 hW hcnd hsz0 hL _
 have hval : ∀ (j : Nat) t v, Tryz.f5.params[j]? = some t → args[j]? = some v → Value.okWide Tryz.prog W .any base t v := hval0
 have hW' := hW
 obtain ⟨p, q, hA0, hV0, rfl, hfz, hnd⟩ := hW
 have hA : DataW.TrodAll enc Tryz.prog W 0 (fun _ => true) true Tryz.f5.params.toList args.toList ds p := hA0
 rw [Tryz.params5] at hA hval
 obtain ⟨v0, vs0, d0, ds0, p0, q0, hargs, rfl, rfl, h0, r0⟩ := trodAll_cons hA
 obtain ⟨v1, vs1, d1, ds1, p1, q1, rfl, rfl, rfl, h1, r1⟩ := trodAll_cons r0
 obtain ⟨rfl, rfl, rfl⟩ := trodAll_nil r1
 obtain rfl : args = #[v0, v1] := by cases args; simp_all
 obtain ⟨rfl, rfl⟩ := trodVars_none hV0
 rw [MakeChecks.laidMetH_plain _ _ _ (by kernel_rfl)] at hL
 have hT := tabs hL
 have k0 := h0
 have lt0 : ∀ x ∈ p0, x.block < W.heap.size := by obtain ⟨m, hm⟩ := k0; exact DataW.trod_lt m _ _ _ hm
 obtain ⟨⟨c0⟩, rfl, _⟩ := okWide_struct Tryz.underlying28 (hval 0 28 v0 rfl rfl)
 obtain ⟨T0, hK0, hS0⟩ := (show ∃ T : V.S28, V.k28.K W T c0 ∧ V.SzT T from by obtain ⟨m, hm⟩ := h0; exact V.read28 m _ _ hm)
 obtain ⟨A80, c80, A90, c90, e0, l80, g80, l90, g90⟩ := V.k28_open hK0
 obtain rfl : c0 = _ := e0
 have k1 := h1
 have lt1 : ∀ x ∈ p1, x.block < W.heap.size := by obtain ⟨m, hm⟩ := k1; exact DataW.trod_lt m _ _ _ hm
 obtain ⟨⟨c1⟩, rfl, _⟩ := okWide_struct Tryz.underlying28 (hval 1 28 v1 rfl rfl)
 obtain ⟨T1, hK1, hS1⟩ := (show ∃ T : V.S28, V.k28.K W T c1 ∧ V.SzT T from by obtain ⟨m, hm⟩ := h1; exact V.read28 m _ _ hm)
 obtain ⟨A81, c81, A91, c91, e1, l81, g81, l91, g91⟩ := V.k28_open hK1
 obtain rfl : c1 = _ := e1
 clear hA0 hV0 hval0 hsz0
 refine (V.law5 T0 T1 W A80 A90 A81 A91 c80 c90 c81 c91 hT hS0 hS1 g80 l80 g90 l90 g81 l81 g91 l91).mono fun e W' ⟨he, bel⟩ => ?_
 subst he
 exact ⟨_, rfl, _, _, _, [], _, [], hW', trodAll_mk1 (shut_bool Tryz.underlying4 _), (trodAll_cons_mk (Below.trod laidOut (by kernel_rfl) (of_decide_eq_true (by kernel_rfl)) k0 bel lt0) (trodAll_cons_mk (Below.trod laidOut (by kernel_rfl) (of_decide_eq_true (by kernel_rfl)) k1 bel lt1) trodAll_mk0)), rfl, bel.frame _, fun h => by cases h⟩
theorem over : Rows.FnTypesSameSaid :=
 OpenClaim.holds_of_wide 5 Tryz.f5 rfl rfl rfl rfl rfl rfl rfl ⟨rfl, rfl, rfl, rfl, rfl⟩ rfl rfl rfl rfl rfl (by kernel_rfl) Tryz.func5 (by kernel_rfl)
  (of_decide_eq_true (by kernel_rfl)) (by unfold Func.isWrapper; first | (rw [if_pos (by decide +kernel)]; kernel_rfl) | (rw [if_neg (by decide +kernel)]; exact ⟨rfl, rfl⟩))
  (fun os started H enc _ => lifted os started H enc)
end Go.Proofs.YteebgnhhjlgnjaaGreatDoor.fnTypesSame
namespace Go.Proofs.YteebgnhhjlgnjaaGreatDoor
theorem fnTypesSame_card : Rows.FnTypesSameCardSaid :=
 Claim7.holds_tied_plain_at .later [] [.data, .pinned] true (true, "067e6af085d9fb4b3d38b97ae67318ec8355bffc21ff69cd29125d29f45aa49f") true
  fnTypesSame.over (fun _ h => by cases h) (by kernel_rfl) (fun _ h => by cases h) fnTypesSame_row_tie rfl ⟨rfl, rfl⟩ (by kernel_rfl) rfl
  (fun f fn hf hfn => by
   obtain rfl : f = 5 := Option.some.inj ((show Tryz.prog.funcNamed "given.example/pub-fletching/laws.FnTypesSame" = some 5 by kernel_rfl).symm.trans hf) |>.symm
   obtain rfl : fn = Tryz.f5 := (Option.some.inj (Tryz.func5.symm.trans hfn)).symm
   exact ⟨by kernel_rfl, fun j t ht => by
    rw [Tryz.params5] at ht
    have hm : t ∈ [28, 28] := by simpa using Array.mem_of_getElem? ht
    have hall : ([28, 28].all fun u => !Tryz.prog.wantsStandIn u) = true := by kernel_rfl
    exact (show Tryz.prog.wantsStandIn t = false by simpa using List.all_eq_true.1 hall t hm)⟩)
  (by kernel_rfl)
end Go.Proofs.YteebgnhhjlgnjaaGreatDoor
